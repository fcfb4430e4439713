/- SourceFile.position, SourceFile.Position: by their contracts. -/
import Derived.Test.YoedxwPs
namespace Go.Proofs.Yoedxw
open Go.RowKit
set_option linter.unusedVariables false

set_option maxHeartbeats 1000000 in
theorem position_any (F L S : Nat) (name : ByteArray) (b n p : Int) (w : World) (hF : FileAt w F L S name b n) (hb0 : 0 ≤ b) (hb1 : b ≤ 1099511627776000) (hp0 : b ≤ p) (hp1 : p ≤ b + 1099511627776) :
    Calls Edxg.prog 21 #[.pointer (some ⟨F, 0, none⟩), .int .i64 p] w fun e w' => e = .returned (.agg #[.string name, .int .i64 (p - b), .int .i64 1, .int .i64 (p - b + 1)]) ∧ Below w.heap.size w w' := by
  obtain ⟨c1, c2, c3, c4, c5⟩ := hF.cells
  have hlt := lt_of_heap hF.1
  go_enter Edxg.func21, Edxg.ntmps21
  go_wp2_with fail
  refine (unpack_any F L S name b n (p - b) _ (hF.below ((Below.refl _ _).alloc (Nat.le_refl _) _)) (by omega) (by omega)).mono ?_
  rintro e w' ⟨rfl, d, rfl⟩
  go_wp2
  refine bodyPost_ret (v := .agg #[.string name, .int .i64 (p - b), .int .i64 1, .int .i64 (p - b + 1)]) (by simp [results, Edxg.results21, go_sem]) rfl ⟨rfl, ?_⟩
  exact (((below_drewN ((Below.refl _ _).alloc (Nat.le_refl _) _) d).setCell (Nat.le_refl _) _).setCell (Nat.le_refl _) _).setCell (Nat.le_refl _) _

set_option maxHeartbeats 1000000 in
theorem Position_any (F L S : Nat) (name : ByteArray) (b n p : Int) (w : World) (hF : FileAt w F L S name b n) (hb0 : 1 ≤ b) (hb1 : b ≤ 1099511627776000) (hn0 : 0 ≤ n) (hn1 : n ≤ 1099511627776) (hp0 : b ≤ p) (hp1 : p ≤ b + n) :
    Calls Edxg.prog 13 #[.pointer (some ⟨F, 0, none⟩), .int .i64 p] w fun e w' => e = .returned (.agg #[.string name, .int .i64 (p - b), .int .i64 1, .int .i64 (p - b + 1)]) ∧ Below w.heap.size w w' := by
  obtain ⟨c1, c2, c3, c4, c5⟩ := hF.cells
  have hlt := lt_of_heap hF.1
  have q1 : decide (p < b) = false := by simp; omega
  have q2 : decide (b + n < p) = false := by simp; omega
  have q3 : (p != 0) = true := by simp; omega
  go_enter Edxg.func13, Edxg.ntmps13
  go_wp2_with fail
  go_quiet (fail)
  go_wp2_with fail
  have hb2 : Below w.heap.size w ((w.alloc (.cells #[.string { data := #[] }, .int .i64 0, .int .i64 0, .int .i64 0] 36)).drewN nq) := below_drewN ((Below.refl _ _).alloc (Nat.le_refl _) _) nq
  have hh : ((w.alloc (.cells #[.string { data := #[] }, .int .i64 0, .int .i64 0, .int .i64 0] 36)).drewN nq).heap[w.heap.size]? = some (.cells #[.string { data := #[] }, .int .i64 0, .int .i64 0, .int .i64 0] 36 (0, 0)) := heap_alloc_new w _
  refine (position_any F L S name b n p _ (hF.below hb2) (by omega) hb1 hp0 (by omega)).mono ?_
  rintro e w1 ⟨rfl, hbw⟩
  have h1 : w1.heap[w.heap.size]? = some (.cells #[.string { data := #[] }, .int .i64 0, .int .i64 0, .int .i64 0] 36 (0, 0)) := (hbw.block _ (lt_of_heap hh)).trans hh
  have hbel : Below w.heap.size w w1 := hb2.trans (hbw.mono hb2.size)
  have d0 : w1.cell? ⟨w.heap.size, 0, none⟩ = some (.string { data := #[] }) := by rw [cell_of_row w1 _ 0 _ _ _ h1]; rfl
  have d1 : w1.cell? ⟨w.heap.size, 1, none⟩ = some (.int .i64 0) := by rw [cell_of_row w1 _ 1 _ _ _ h1]; rfl
  have d2 : w1.cell? ⟨w.heap.size, 2, none⟩ = some (.int .i64 0) := by rw [cell_of_row w1 _ 2 _ _ _ h1]; rfl
  have d3 : w1.cell? ⟨w.heap.size, 3, none⟩ = some (.int .i64 0) := by rw [cell_of_row w1 _ 3 _ _ _ h1]; rfl
  have f0 : w1.frozen? ⟨w.heap.size, 0, none⟩ = false := frozen_of_row w1 _ 0 _ _ h1
  have f1 : w1.frozen? ⟨w.heap.size, 1, none⟩ = false := frozen_of_row w1 _ 1 _ _ h1
  have f2 : w1.frozen? ⟨w.heap.size, 2, none⟩ = false := frozen_of_row w1 _ 2 _ _ h1
  have f3 : w1.frozen? ⟨w.heap.size, 3, none⟩ = false := frozen_of_row w1 _ 3 _ _ h1
  clear c1 c2 c3 c4 c5 hF hh h1 hbw hb2 hlt q1 q2 q3
  go_wp2
  refine bodyPost_ret (v := .agg #[.string name, .int .i64 (p - b), .int .i64 1, .int .i64 (p - b + 1)]) (by simp [results, Edxg.results13, go_sem, d0, d1, d2, d3]) rfl ⟨rfl, ?_⟩
  exact (((hbel.setCell (Nat.le_refl _) _).setCell (Nat.le_refl _) _).setCell (Nat.le_refl _) _).setCell (Nat.le_refl _) _

end Go.Proofs.Yoedxw
