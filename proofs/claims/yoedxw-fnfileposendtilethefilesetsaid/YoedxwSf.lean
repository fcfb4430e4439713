/- Offset, searchFiles and its closure, sort.Search at two files, SourceFileSet.file, File: by their contracts. -/
import Derived.Test.YoedxwPs
namespace Go.Proofs.Yoedxw
open Go.RowKit
set_option linter.unusedVariables false

set_option maxHeartbeats 1000000 in
theorem offset_any (F L S : Nat) (name : ByteArray) (b n p : Int) (w : World) (hF : FileAt w F L S name b n) (hb0 : 0 ≤ b) (hb1 : b ≤ 1099511627776000) (hn0 : 0 ≤ n) (hn1 : n ≤ 1099511627776) (hp0 : b ≤ p) (hp1 : p ≤ b + n) :
    Calls Edxg.prog 11 #[.pointer (some ⟨F, 0, none⟩), .int .i64 p] w fun e w' => e = .returned (.int .i64 (p - b)) ∧ ∃ d, w' = w.drewN d := by
  obtain ⟨c1, c2, c3, c4, c5⟩ := hF.cells
  have q1 : decide (p < b) = false := by simp; omega
  have q2 : decide (b + n < p) = false := by simp; omega
  clear hF
  go_enter Edxg.func11, Edxg.ntmps11
  go_wp2_with fail
  go_quiet (fail)
  go_wp2
  go_ret
  exact ⟨rfl, _, rfl⟩

set_option maxHeartbeats 1000000 in
theorem fn_any (A X g cap F : Nat) (i : Nat) (x b : Int) (w : World) (cA : w.cell? ⟨A, 0, none⟩ = some (.slice (some ⟨g, 0, none⟩) 2 cap)) (cX : w.cell? ⟨X, 0, none⟩ = some (.int .i64 x)) (hi : i < 2)
    (cg : w.cell? ⟨g, i, none⟩ = some (.pointer (some ⟨F, 0, none⟩))) (cF : w.cell? ⟨F, 2, none⟩ = some (.int .i64 b)) (r : Bool) (hr : decide (x < b) = r) (I : Int) (hI : I = i) :
    Calls Edxg.prog 25 #[.int .i64 I, .pointer (some ⟨A, 0, none⟩), .pointer (some ⟨X, 0, none⟩)] w fun e w' => e = .returned (.bool r) ∧ ∃ d, w' = w.drewN d := by
  subst hI
  have i0 : (0 : Int) ≤ (i : Int) := by omega
  have i1 : (i : Int) < 2 := by omega
  go_enter Edxg.func25, Edxg.ntmps25
  go_wp2_with fail
  go_quiet (fail)
  go_wp2
  go_ret
  exact ⟨by rw [← hr]; rfl, _, rfl⟩

/-- The table of two files. -/
def FilesAt (w : World) (g Fa Fb : Nat) : Prop :=
  ∃ cur, w.heap[g]? = some (.cells cur 24 (0, 0)) ∧ cur[0]? = some (.pointer (some ⟨Fa, 0, none⟩)) ∧ cur[1]? = some (.pointer (some ⟨Fb, 0, none⟩))

theorem FilesAt.below {w w' : World} {g Fa Fb : Nat} (h : FilesAt w g Fa Fb) (hb : Below w.heap.size w w') : FilesAt w' g Fa Fb := by
  obtain ⟨cur, h1, h2, h3⟩ := h
  exact ⟨cur, (hb.block g (lt_of_heap h1)).trans h1, h2, h3⟩
theorem FilesAt.cells {w : World} {g Fa Fb : Nat} (h : FilesAt w g Fa Fb) : w.cell? ⟨g, 0, none⟩ = some (.pointer (some ⟨Fa, 0, none⟩)) ∧ w.cell? ⟨g, 1, none⟩ = some (.pointer (some ⟨Fb, 0, none⟩)) := by
  obtain ⟨cur, h1, h2, h3⟩ := h
  exact ⟨by rw [cell_of_row w g 0 _ _ _ h1, h2], by rw [cell_of_row w g 1 _ _ _ h1, h3]⟩

set_option maxHeartbeats 1000000 in
theorem search_lo (A X g cap Fa La Fb Lb S : Nat) (na nb : ByteArray) (ba sa bb sb x : Int) (w : World) (cA : w.cell? ⟨A, 0, none⟩ = some (.slice (some ⟨g, 0, none⟩) 2 cap)) (cX : w.cell? ⟨X, 0, none⟩ = some (.int .i64 x))
    (hg : FilesAt w g Fa Fb) (hFa : FileAt w Fa La S na ba sa) (hFb : FileAt w Fb Lb S nb bb sb) (h1 : ba ≤ x) (h2 : x < bb) :
    Calls Edxg.prog 24 #[.int .i64 2, .func (.func 25) #[] #[.pointer (some ⟨A, 0, none⟩), .pointer (some ⟨X, 0, none⟩)]] w fun e w' => e = .returned (.int .i64 1) ∧ ∃ d, w' = w.drewN d := by
  obtain ⟨g0, g1⟩ := hg.cells
  obtain ⟨_, ca, _⟩ := hFa.cells
  obtain ⟨_, cb, _⟩ := hFb.cells
  clear hg hFa hFb
  go_enter Edxg.func24, Edxg.ntmps24
  go_wp2
  refine wp_loop_rounds 3 ?_
  rw [rounds_succ]
  go_wp2_with fail
  refine (fn_any A X g cap Fb 1 x bb w cA cX (by omega) g1 cb true (by simpa using h2) 1 rfl).mono ?_
  rintro e w' ⟨rfl, d1, rfl⟩
  go_wp2_with fail
  rw [rounds_succ]
  go_wp2_with fail
  refine (fn_any A X g cap Fa 0 x ba (w.drewN d1) cA cX (by omega) g0 ca false (by simpa using h1) 0 rfl).mono ?_
  rintro e w' ⟨rfl, d2, rfl⟩
  go_wp2_with fail
  rw [rounds_succ]
  go_wp2
  go_ret
  exact ⟨rfl, _, rfl⟩

set_option maxHeartbeats 1000000 in
theorem search_hi (A X g cap Fa La Fb Lb S : Nat) (na nb : ByteArray) (ba sa bb sb x : Int) (w : World) (cA : w.cell? ⟨A, 0, none⟩ = some (.slice (some ⟨g, 0, none⟩) 2 cap)) (cX : w.cell? ⟨X, 0, none⟩ = some (.int .i64 x))
    (hg : FilesAt w g Fa Fb) (hFa : FileAt w Fa La S na ba sa) (hFb : FileAt w Fb Lb S nb bb sb) (h2 : bb ≤ x) :
    Calls Edxg.prog 24 #[.int .i64 2, .func (.func 25) #[] #[.pointer (some ⟨A, 0, none⟩), .pointer (some ⟨X, 0, none⟩)]] w fun e w' => e = .returned (.int .i64 2) ∧ ∃ d, w' = w.drewN d := by
  obtain ⟨g0, g1⟩ := hg.cells
  obtain ⟨_, ca, _⟩ := hFa.cells
  obtain ⟨_, cb, _⟩ := hFb.cells
  clear hg hFa hFb
  go_enter Edxg.func24, Edxg.ntmps24
  go_wp2
  refine wp_loop_rounds 2 ?_
  rw [rounds_succ]
  go_wp2_with fail
  refine (fn_any A X g cap Fb 1 x bb w cA cX (by omega) g1 cb false (by simpa using h2) 1 rfl).mono ?_
  rintro e w' ⟨rfl, d1, rfl⟩
  go_wp2_with fail
  rw [rounds_succ]
  go_wp2
  go_ret
  exact ⟨rfl, d1, rfl⟩

/-- searchFiles answers q: the last file that begins at or below x. -/
def Last2 (ba bb x : Int) (q : Nat) : Prop := (ba ≤ x ∧ x < bb ∧ q = 0) ∨ (bb ≤ x ∧ q = 1)

set_option maxHeartbeats 1000000 in
theorem searchFiles_any (g cap Fa La Fb Lb S : Nat) (na nb : ByteArray) (ba sa bb sb x : Int) (q : Nat) (w : World) (hg : FilesAt w g Fa Fb) (hFa : FileAt w Fa La S na ba sa) (hFb : FileAt w Fb Lb S nb bb sb) (hr : Last2 ba bb x q) :
    Calls Edxg.prog 22 #[.slice (some ⟨g, 0, none⟩) 2 cap, .int .i64 x] w fun e w' => e = .returned (.int .i64 q) ∧ Below w.heap.size w w' := by
  have hb : Below w.heap.size w ((w.alloc (.cells #[.slice (some ⟨g, 0, none⟩) 2 cap] 38)).alloc (.cells #[.int .i64 x] 3)) := ((Below.refl _ _).alloc (Nat.le_refl _) _).alloc (by simp) _
  have cA : ((w.alloc (.cells #[.slice (some ⟨g, 0, none⟩) 2 cap] 38)).alloc (.cells #[.int .i64 x] 3)).cell? ⟨w.heap.size, 0, none⟩ = some (.slice (some ⟨g, 0, none⟩) 2 cap) := by
    rw [cell_of_row _ w.heap.size 0 #[.slice (some ⟨g, 0, none⟩) 2 cap] 38 (0, 0) (by rw [heap_alloc_old _ _ (by simp)]; exact heap_alloc_new w _)]; rfl
  have cX : ((w.alloc (.cells #[.slice (some ⟨g, 0, none⟩) 2 cap] 38)).alloc (.cells #[.int .i64 x] 3)).cell? ⟨w.heap.size + 1, 0, none⟩ = some (.int .i64 x) := by
    have h := heap_alloc_new (w.alloc (.cells #[.slice (some ⟨g, 0, none⟩) 2 cap] 38)) (.cells #[.int .i64 x] 3)
    rw [World.size_alloc] at h
    rw [cell_of_row _ (w.heap.size + 1) 0 #[.int .i64 x] 3 (0, 0) h]; rfl
  have hg2 := hg.below hb
  have ha2 := hFa.below hb
  have hb2 := hFb.below hb
  clear hg hFa hFb
  rcases hr with ⟨h1, h2, rfl⟩ | ⟨h2, rfl⟩
  · have sr := search_lo w.heap.size (w.heap.size + 1) g cap Fa La Fb Lb S na nb ba sa bb sb x _ cA cX hg2 ha2 hb2 h1 h2
    clear cA cX hg2 ha2 hb2
    go_enter Edxg.func22, Edxg.ntmps22
    go_wp2_with fail
    refine sr.mono ?_
    rintro e w' ⟨rfl, d, rfl⟩
    clear sr
    go_wp2
    go_ret
    exact ⟨rfl, below_drewN hb d⟩
  · have sr := search_hi w.heap.size (w.heap.size + 1) g cap Fa La Fb Lb S na nb ba sa bb sb x _ cA cX hg2 ha2 hb2 h2
    clear cA cX hg2 ha2 hb2
    go_enter Edxg.func22, Edxg.ntmps22
    go_wp2_with fail
    refine sr.mono ?_
    rintro e w' ⟨rfl, d, rfl⟩
    clear sr
    go_wp2
    go_ret
    exact ⟨rfl, below_drewN hb d⟩

/-- A set with two files. -/
def Two (w : World) (S g cap Fa La Fb Lb : Nat) (na nb : ByteArray) (ba sa bb sb B0 : Int) (last : Nat) : Prop :=
  SetAt w S B0 (.slice (some ⟨g, 0, none⟩) 2 cap) (some ⟨last, 0, none⟩) ∧ FilesAt w g Fa Fb ∧ FileAt w Fa La S na ba sa ∧ FileAt w Fb Lb S nb bb sb

theorem Two.below {w w' : World} {S g cap Fa La Fb Lb : Nat} {na nb : ByteArray} {ba sa bb sb B0 : Int} {last : Nat} (h : Two w S g cap Fa La Fb Lb na nb ba sa bb sb B0 last) (hb : Below w.heap.size w w') : Two w' S g cap Fa La Fb Lb na nb ba sa bb sb B0 last :=
  ⟨h.1.below hb, h.2.1.below hb, h.2.2.1.below hb, h.2.2.2.below hb⟩

theorem ne_of_type {w : World} {k j : Nat} {c c' : Array Value} {t t' : TypeId} {f f' : Nat × Nat} (h : w.heap[k]? = some (.cells c t f)) (h' : w.heap[j]? = some (.cells c' t' f')) (ht : t ≠ t') : k ≠ j := by
  intro e
  subst e
  rw [h] at h'
  simp at h'
  exact ht h'.2.1

theorem Two.setLast {w : World} {S g cap Fa La Fb Lb : Nat} {na nb : ByteArray} {ba sa bb sb B0 : Int} {last : Nat} (h : Two w S g cap Fa La Fb Lb na nb ba sa bb sb B0 last) (l' : Nat) :
    Two (w.setCell ⟨S, 2, none⟩ (.pointer (some ⟨l', 0, none⟩))) S g cap Fa La Fb Lb na nb ba sa bb sb B0 l' := by
  obtain ⟨hS, ⟨cur, hg, h0, h1⟩, ha, hb⟩ := h
  have hS' : w.heap[S]? = some (.cells #[.int .i64 B0, .slice (some ⟨g, 0, none⟩) 2 cap, .pointer (some ⟨last, 0, none⟩)] 40 (0, 0)) := hS
  have e1 : g ≠ S := ne_of_type hg hS' (by decide)
  have e2 : Fa ≠ S := ne_of_type ha.1 hS' (by decide)
  have e3 : La ≠ S := ne_of_type ha.2 hS' (by decide)
  have e4 : Fb ≠ S := ne_of_type hb.1 hS' (by decide)
  have e5 : Lb ≠ S := ne_of_type hb.2 hS' (by decide)
  exact ⟨heap_setCell_same w S 2 _ _ _ hS, ⟨cur, (heap_setCell_other w ⟨S, 2, none⟩ g _ e1).trans hg, h0, h1⟩, ⟨(heap_setCell_other w ⟨S, 2, none⟩ Fa _ e2).trans ha.1, (heap_setCell_other w ⟨S, 2, none⟩ La _ e3).trans ha.2⟩,
    ⟨(heap_setCell_other w ⟨S, 2, none⟩ Fb _ e4).trans hb.1, (heap_setCell_other w ⟨S, 2, none⟩ Lb _ e5).trans hb.2⟩⟩

end Go.Proofs.Yoedxw
