/- SourceFileSet.file, SourceFileSet.File at two files: by their contracts. -/
import Derived.Test.YoedxwSf
namespace Go.Proofs.Yoedxw
open Go.RowKit
set_option linter.unusedVariables false

/-- What a lookup does to the world: the set's cache may turn, nothing else. -/
def Looked (S : Nat) (w w' : World) : Prop := (∀ k, k < w.heap.size → k ≠ S → w'.heap[k]? = w.heap[k]?) ∧ Below S w w'

theorem Looked.of_below {S : Nat} {w w' : World} (h : Below w.heap.size w w') (hS : S ≤ w.heap.size) : Looked S w w' := ⟨fun k hk _ => h.block k hk, h.mono hS⟩
theorem Looked.setCell {S : Nat} {w w' : World} (h : Looked S w w') (j : Nat) (v : Value) : Looked S w (w'.setCell ⟨S, j, none⟩ v) :=
  ⟨fun k hk hkS => (heap_setCell_other w' ⟨S, j, none⟩ k v hkS).trans (h.1 k hk hkS), h.2.setCell (p := ⟨S, j, none⟩) (Nat.le_refl _) v⟩
theorem Looked.drewN {S : Nat} {w w' : World} (h : Looked S w w') (n : Nat) : Looked S w (w'.drewN n) := ⟨h.1, below_drewN h.2 n⟩

set_option maxHeartbeats 1000000 in
theorem fileA (S g cap Fa La Fb Lb : Nat) (na nb : ByteArray) (ba sa bb sb B0 p : Int) (w : World) (h : Two w S g cap Fa La Fb Lb na nb ba sa bb sb B0 Fb) (h1 : ba ≤ p) (h2 : p < bb) (h3 : p ≤ ba + sa) (hba : 0 ≤ ba) (hba1 : ba ≤ 1099511627776000) (hsa : 0 ≤ sa) (hsa1 : sa ≤ 1099511627776) (hbb : 0 ≤ bb) (hbb1 : bb ≤ 1099511627776000) (hsb : 0 ≤ sb) (hsb1 : sb ≤ 1099511627776) :
    Calls Edxg.prog 20 #[.pointer (some ⟨S, 0, none⟩), .int .i64 p] w fun e w' => e = .returned (.pointer (some ⟨Fa, 0, none⟩)) ∧ Two w' S g cap Fa La Fb Lb na nb ba sa bb sb B0 Fa ∧ Looked S w w' := by
  have c1 : w.cell? ⟨S, 1, none⟩ = some (.slice (some ⟨g, 0, none⟩) 2 cap) := by rw [cell_of_row w S 1 _ _ _ h.1]; rfl
  have c2 : w.cell? ⟨S, 2, none⟩ = some (.pointer (some ⟨Fb, 0, none⟩)) := by rw [cell_of_row w S 2 _ _ _ h.1]; rfl
  have hSlt : S < w.heap.size := lt_of_heap h.1
  obtain ⟨_, l2, l3, _⟩ := h.2.2.2.cells
  have q1 : decide (bb ≤ p) = false := by simp; omega
  have SR : Hid (∀ d, Calls Edxg.prog 22 #[.slice (some ⟨g, 0, none⟩) 2 cap, .int .i64 p] (w.drewN d) fun e w' => e = .returned (.int .i64 (0 : Nat)) ∧ Below w.heap.size (w.drewN d) w') :=
    fun d => searchFiles_any g cap Fa La Fb Lb S na nb ba sa bb sb p 0 (w.drewN d) h.2.1 h.2.2.1 h.2.2.2 (.inl ⟨h1, h2, rfl⟩)
  go_enter Edxg.func20, Edxg.ntmps20
  go_wp2_with fail
  go_quiet (fail)
  go_wp2_with fail
  refine (SR.out nq).mono ?_
  rintro e w1 ⟨rfl, hb⟩
  have h' := Two.below (w := w.drewN nq) h hb
  have hl : Looked S w w1 := Looked.of_below ((below_drewN (Below.refl _ _) nq).trans hb) (Nat.le_of_lt hSlt)
  have d1 : w1.cell? ⟨S, 1, none⟩ = some (.slice (some ⟨g, 0, none⟩) 2 cap) := by rw [cell_of_row w1 S 1 _ _ _ h'.1]; rfl
  have d2 : w1.cell? ⟨S, 2, none⟩ = some (.pointer (some ⟨Fb, 0, none⟩)) := by rw [cell_of_row w1 S 2 _ _ _ h'.1]; rfl
  have fz : w1.frozen? ⟨S, 2, none⟩ = false := frozen_of_row w1 S 2 _ _ h'.1
  obtain ⟨g0, g1⟩ := h'.2.1.cells
  obtain ⟨_, m2, m3, _⟩ := h'.2.2.1.cells
  have H' : Hid (Two w1 S g cap Fa La Fb Lb na nb ba sa bb sb B0 Fb) := h'
  have HL : Hid (Looked S w w1) := hl
  clear h hb h' hl SR c1 c2 l2 l3
  have q2 : decide (p ≤ ba + sa) = true := by simp; omega
  go_wp2_with fail
  go_quiet (fail)
  go_wp2
  go_ret
  exact ⟨rfl, Two.setLast (w := w1.drewN _) H'.out _, (HL.out.drewN _).setCell 2 _⟩

set_option maxHeartbeats 1000000 in
theorem fileB (S g cap Fa La Fb Lb : Nat) (na nb : ByteArray) (ba sa bb sb B0 p : Int) (w : World) (h : Two w S g cap Fa La Fb Lb na nb ba sa bb sb B0 Fa) (h0 : ba ≤ p) (h1 : bb ≤ p) (h2 : ba + sa < p) (h3 : p ≤ bb + sb) (hba : 0 ≤ ba) (hba1 : ba ≤ 1099511627776000) (hsa : 0 ≤ sa) (hsa1 : sa ≤ 1099511627776) (hbb : 0 ≤ bb) (hbb1 : bb ≤ 1099511627776000) (hsb : 0 ≤ sb) (hsb1 : sb ≤ 1099511627776) :
    Calls Edxg.prog 20 #[.pointer (some ⟨S, 0, none⟩), .int .i64 p] w fun e w' => e = .returned (.pointer (some ⟨Fb, 0, none⟩)) ∧ Two w' S g cap Fa La Fb Lb na nb ba sa bb sb B0 Fb ∧ Looked S w w' := by
  have c1 : w.cell? ⟨S, 1, none⟩ = some (.slice (some ⟨g, 0, none⟩) 2 cap) := by rw [cell_of_row w S 1 _ _ _ h.1]; rfl
  have c2 : w.cell? ⟨S, 2, none⟩ = some (.pointer (some ⟨Fa, 0, none⟩)) := by rw [cell_of_row w S 2 _ _ _ h.1]; rfl
  have hSlt : S < w.heap.size := lt_of_heap h.1
  obtain ⟨_, l2, l3, _⟩ := h.2.2.1.cells
  have q1 : decide (ba ≤ p) = true := by simp; omega
  have q3 : decide (p ≤ ba + sa) = false := by simp; omega
  have SR : Hid (∀ d, Calls Edxg.prog 22 #[.slice (some ⟨g, 0, none⟩) 2 cap, .int .i64 p] (w.drewN d) fun e w' => e = .returned (.int .i64 (1 : Nat)) ∧ Below w.heap.size (w.drewN d) w') :=
    fun d => searchFiles_any g cap Fa La Fb Lb S na nb ba sa bb sb p 1 (w.drewN d) h.2.1 h.2.2.1 h.2.2.2 (.inr ⟨h1, rfl⟩)
  go_enter Edxg.func20, Edxg.ntmps20
  go_wp2_with fail
  go_quiet (fail)
  go_wp2_with fail
  refine (SR.out nq).mono ?_
  rintro e w1 ⟨rfl, hb⟩
  have h' := Two.below (w := w.drewN nq) h hb
  have hl : Looked S w w1 := Looked.of_below ((below_drewN (Below.refl _ _) nq).trans hb) (Nat.le_of_lt hSlt)
  have d1 : w1.cell? ⟨S, 1, none⟩ = some (.slice (some ⟨g, 0, none⟩) 2 cap) := by rw [cell_of_row w1 S 1 _ _ _ h'.1]; rfl
  have d2 : w1.cell? ⟨S, 2, none⟩ = some (.pointer (some ⟨Fa, 0, none⟩)) := by rw [cell_of_row w1 S 2 _ _ _ h'.1]; rfl
  have fz : w1.frozen? ⟨S, 2, none⟩ = false := frozen_of_row w1 S 2 _ _ h'.1
  obtain ⟨g0, g1⟩ := h'.2.1.cells
  obtain ⟨_, m2, m3, _⟩ := h'.2.2.2.cells
  have H' : Hid (Two w1 S g cap Fa La Fb Lb na nb ba sa bb sb B0 Fa) := h'
  have HL : Hid (Looked S w w1) := hl
  clear h hb h' hl SR c1 c2 l2 l3
  have q2 : decide (p ≤ bb + sb) = true := by simp; omega
  go_wp2_with fail
  go_quiet (fail)
  go_wp2
  go_ret
  exact ⟨rfl, Two.setLast (w := w1.drewN _) H'.out _, (HL.out.drewN _).setCell 2 _⟩

set_option maxHeartbeats 1000000 in
theorem fileC (S g cap Fa La Fb Lb : Nat) (na nb : ByteArray) (ba sa bb sb B0 p : Int) (w : World) (h : Two w S g cap Fa La Fb Lb na nb ba sa bb sb B0 Fb) (h1 : bb ≤ p) (h2 : bb + sb < p) (hba : 0 ≤ ba) (hba1 : ba ≤ 1099511627776000) (hsa : 0 ≤ sa) (hsa1 : sa ≤ 1099511627776) (hbb : 0 ≤ bb) (hbb1 : bb ≤ 1099511627776000) (hsb : 0 ≤ sb) (hsb1 : sb ≤ 1099511627776) :
    Calls Edxg.prog 20 #[.pointer (some ⟨S, 0, none⟩), .int .i64 p] w fun e w' => e = .returned (.pointer none) ∧ Two w' S g cap Fa La Fb Lb na nb ba sa bb sb B0 Fb ∧ Looked S w w' := by
  have c1 : w.cell? ⟨S, 1, none⟩ = some (.slice (some ⟨g, 0, none⟩) 2 cap) := by rw [cell_of_row w S 1 _ _ _ h.1]; rfl
  have c2 : w.cell? ⟨S, 2, none⟩ = some (.pointer (some ⟨Fb, 0, none⟩)) := by rw [cell_of_row w S 2 _ _ _ h.1]; rfl
  have hSlt : S < w.heap.size := lt_of_heap h.1
  obtain ⟨_, l2, l3, _⟩ := h.2.2.2.cells
  have q1 : decide (bb ≤ p) = true := by simp; omega
  have q3 : decide (p ≤ bb + sb) = false := by simp; omega
  have SR : Hid (∀ d, Calls Edxg.prog 22 #[.slice (some ⟨g, 0, none⟩) 2 cap, .int .i64 p] (w.drewN d) fun e w' => e = .returned (.int .i64 (1 : Nat)) ∧ Below w.heap.size (w.drewN d) w') :=
    fun d => searchFiles_any g cap Fa La Fb Lb S na nb ba sa bb sb p 1 (w.drewN d) h.2.1 h.2.2.1 h.2.2.2 (.inr ⟨h1, rfl⟩)
  go_enter Edxg.func20, Edxg.ntmps20
  go_wp2_with fail
  go_quiet (fail)
  go_wp2_with fail
  refine (SR.out nq).mono ?_
  rintro e w1 ⟨rfl, hb⟩
  have h' := Two.below (w := w.drewN nq) h hb
  have hl : Looked S w w1 := Looked.of_below ((below_drewN (Below.refl _ _) nq).trans hb) (Nat.le_of_lt hSlt)
  have d1 : w1.cell? ⟨S, 1, none⟩ = some (.slice (some ⟨g, 0, none⟩) 2 cap) := by rw [cell_of_row w1 S 1 _ _ _ h'.1]; rfl
  have d2 : w1.cell? ⟨S, 2, none⟩ = some (.pointer (some ⟨Fb, 0, none⟩)) := by rw [cell_of_row w1 S 2 _ _ _ h'.1]; rfl
  have fz : w1.frozen? ⟨S, 2, none⟩ = false := frozen_of_row w1 S 2 _ _ h'.1
  obtain ⟨g0, g1⟩ := h'.2.1.cells
  obtain ⟨_, m2, m3, _⟩ := h'.2.2.2.cells
  have H' : Hid (Two w1 S g cap Fa La Fb Lb na nb ba sa bb sb B0 Fb) := h'
  have HL : Hid (Looked S w w1) := hl
  clear h hb h' hl SR c1 c2 l2 l3
  go_wp2_with fail
  go_quiet (fail)
  go_wp2
  go_ret
  exact ⟨rfl, H'.out, HL.out.drewN _⟩

/-- File at a position that is not 0: as the lookup. -/
theorem File_of (S : Nat) (p : Int) (w : World) (r : Value) (Q : World → Prop) (hp : (p != 0) = true) (hc : Calls Edxg.prog 20 #[.pointer (some ⟨S, 0, none⟩), .int .i64 p] w fun e w' => e = .returned r ∧ Q w') :
    Calls Edxg.prog 12 #[.pointer (some ⟨S, 0, none⟩), .int .i64 p] w fun e w' => e = .returned r ∧ Q w' := by
  have HC : Hid (Calls Edxg.prog 20 #[.pointer (some ⟨S, 0, none⟩), .int .i64 p] w fun e w' => e = .returned r ∧ Q w') := hc
  clear hc
  go_enter Edxg.func12, Edxg.ntmps12
  go_wp2_with fail
  refine HC.out.mono ?_
  rintro e w' ⟨rfl, hq⟩
  have HQ : Hid (Q w') := hq
  clear hq
  go_wp2
  go_ret
  exact ⟨rfl, HQ.out⟩

end Go.Proofs.Yoedxw
