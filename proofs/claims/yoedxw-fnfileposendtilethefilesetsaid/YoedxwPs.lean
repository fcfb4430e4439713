/- File.Pos, File.End, searchInts, unpack, position, Position: by their contracts. -/
import Derived.Test.YoedxwFs
namespace Go.Proofs.Yoedxw
open Go.RowKit

/-- A file node in memory. -/
def NodeAt (w : World) (N F : Nat) : Prop := w.heap[N]? = some (.cells #[.pointer (some ⟨F, 0, none⟩), .slice none 0 0] 29 (0, 0))

theorem lt_of_heap {w : World} {k : Nat} {o : Obj} (h : w.heap[k]? = some o) : k < w.heap.size := by
  rcases Nat.lt_or_ge k w.heap.size with h' | h'
  · exact h'
  · rw [Array.getElem?_eq_none h'] at h; cases h

theorem FileAt.below {w w' : World} {F L S : Nat} {name : ByteArray} {b n : Int} (h : FileAt w F L S name b n) (hb : Below w.heap.size w w') : FileAt w' F L S name b n :=
  ⟨(hb.block F (lt_of_heap h.1)).trans h.1, (hb.block L (lt_of_heap h.2)).trans h.2⟩
theorem NodeAt.below {w w' : World} {N F : Nat} (h : NodeAt w N F) (hb : Below w.heap.size w w') : NodeAt w' N F := (hb.block N (lt_of_heap h)).trans h
theorem SetAt.below {w w' : World} {S : Nat} {b : Int} {v : Value} {last : Option Addr} (h : SetAt w S b v last) (hb : Below w.heap.size w w') : SetAt w' S b v last := (hb.block S (lt_of_heap h)).trans h
theorem FileAt.drewN {w : World} {F L S : Nat} {name : ByteArray} {b n : Int} (h : FileAt w F L S name b n) (d : Nat) : FileAt (w.drewN d) F L S name b n := h
theorem NodeAt.drewN {w : World} {N F : Nat} (h : NodeAt w N F) (d : Nat) : NodeAt (w.drewN d) N F := h

theorem FileAt.cells {w : World} {F L S : Nat} {name : ByteArray} {b n : Int} (h : FileAt w F L S name b n) : w.cell? ⟨F, 1, none⟩ = some (.string name) ∧ w.cell? ⟨F, 2, none⟩ = some (.int .i64 b) ∧ w.cell? ⟨F, 3, none⟩ = some (.int .i64 n) ∧ w.cell? ⟨F, 4, none⟩ = some (.slice (some ⟨L, 0, none⟩) 1 1) ∧ w.cell? ⟨L, 0, none⟩ = some (.int .i64 0) :=
  ⟨by rw [cell_of_row w F 1 _ _ _ h.1]; rfl, by rw [cell_of_row w F 2 _ _ _ h.1]; rfl, by rw [cell_of_row w F 3 _ _ _ h.1]; rfl, by rw [cell_of_row w F 4 _ _ _ h.1]; rfl, by rw [cell_of_row w L 0 _ _ _ h.2]; rfl⟩
theorem NodeAt.cell {w : World} {N F : Nat} (h : NodeAt w N F) : w.cell? ⟨N, 0, none⟩ = some (.pointer (some ⟨F, 0, none⟩)) := by rw [cell_of_row w N 0 _ _ _ h]; rfl

theorem pos_any (N F L S : Nat) (name : ByteArray) (b n : Int) (w : World) (hN : NodeAt w N F) (hF : FileAt w F L S name b n) :
    Calls Edxg.prog 9 #[.pointer (some ⟨N, 0, none⟩)] w fun e w' => e = .returned (.int .i64 b) ∧ w' = w := by
  have c0 := hN.cell
  obtain ⟨_, c2, _⟩ := hF.cells
  clear hN hF
  go_enter Edxg.func9, Edxg.ntmps9
  go_wp2
  go_ret
  exact ⟨rfl, rfl⟩

set_option maxHeartbeats 1000000 in
theorem end_any (N F L S : Nat) (name : ByteArray) (b n : Int) (w : World) (hN : NodeAt w N F) (hF : FileAt w F L S name b n) (hb0 : 0 ≤ b) (hb1 : b ≤ 1099511627776000) (hn0 : 0 ≤ n) (hn1 : n ≤ 1099511627776) :
    Calls Edxg.prog 10 #[.pointer (some ⟨N, 0, none⟩)] w fun e w' => e = .returned (.int .i64 (b + n)) ∧ ∃ d, w' = w.drewN d := by
  have c0 := hN.cell
  obtain ⟨_, c2, c3, _⟩ := hF.cells
  clear hN hF
  go_enter Edxg.func10, Edxg.ntmps10
  go_wp2_with fail
  go_quiet (fail)
  go_wp2
  go_ret
  exact ⟨rfl, _, rfl⟩

theorem searchInts_any (L : Nat) (x : Int) (w : World) (hL : w.cell? ⟨L, 0, none⟩ = some (.int .i64 0)) (hx : 0 ≤ x) :
    Calls Edxg.prog 26 #[.slice (some ⟨L, 0, none⟩) 1 1, .int .i64 x] w fun e w' => e = .returned (.int .i64 0) ∧ w' = w := by
  go_enter Edxg.func26, Edxg.ntmps26
  go_wp2
  refine wp_loop_rounds 2 ?_
  rw [rounds_succ]
  go_wp2
  rw [rounds_succ]
  go_wp2
  go_ret
  exact ⟨rfl, rfl⟩

set_option maxHeartbeats 1000000 in
theorem unpack_any (F L S : Nat) (name : ByteArray) (b n : Int) (x : Int) (w : World) (hF : FileAt w F L S name b n) (hx : 0 ≤ x) (hx1 : x ≤ 1099511627776) :
    Calls Edxg.prog 23 #[.pointer (some ⟨F, 0, none⟩), .int .i64 x] w fun e w' => e = .returned (.tuple #[.string name, .int .i64 1, .int .i64 (x + 1)]) ∧ ∃ d, w' = w.drewN d := by
  obtain ⟨c1, c2, c3, c4, c5⟩ := hF.cells
  clear hF
  go_enter Edxg.func23, Edxg.ntmps23
  go_wp2_with (go_at_call 26; refine (searchInts_any L x _ c5 hx).mono ?_; rintro e w' ⟨rfl, rfl⟩)
  go_quiet (fail)
  go_wp2
  go_ret3
  exact ⟨by simp, _, rfl⟩

end Go.Proofs.Yoedxw
