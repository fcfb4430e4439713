/- FnFilePosEndAtGivenBase: the walk. -/
import Derived.Test.YoedxwPn
namespace Go.Proofs.Yoedxw
open Go.RowKit
set_option linter.unusedVariables false

set_option maxHeartbeats 3200000 in
set_option maxRecDepth 100000 in
theorem gb_in (base n : Int) (w : World) (h1 : 1 ≤ base) (h2 : base ≤ 1099511627776) (h3 : 0 ≤ n) (h4 : n ≤ 1099511627776) :
    Calls Edxg.prog 4 #[.int .i64 base, .int .i64 n] w fun e w' => e = .returned (.bool true) ∧ Below w.heap.size w w' := by
  go_enter Edxg.func4, Edxg.ntmps4
  go_wp2_with fail
  refine (newSet_any w).mono ?_
  rintro e w0 ⟨rfl, rfl⟩
  go_wp2_with fail
  refine (addFile_any w.heap.size w.heap.size ⟨#[109]⟩ base n 1 base (.slice none 0 0) 0 [] none _ (heap_alloc_new w _) (World.ownsRow_nil _ _ _ _) (Nat.le_refl _) (by simp [Value.ownBlock]) (by omega) (.inr ⟨by omega, rfl⟩) (by omega) h1 (by omega) h3 h4).mono ?_
  rintro e w1 ⟨F, L, v', rfl, hF, hS, hown, hne, hFl, hLl, hfr, hb⟩
  have bel1 : Below w.heap.size w w1 := ((Below.refl _ _).alloc (Nat.le_refl _) _).trans hb
  clear hown hne hFl hLl hfr hb
  obtain ⟨S, hSS⟩ : ∃ S, S = w.heap.size := ⟨_, rfl⟩
  rw [← hSS] at hF hS
  have HSS : Hid (S = w.heap.size) := hSS
  rw [← hSS]
  clear hSS
  go_wp2_with fail
  have hba : Below w1.heap.size w1 (w1.alloc (.cells #[.pointer (some ⟨F, 0, none⟩), .slice none 0 0] 29)) := (Below.refl _ _).alloc (Nat.le_refl _) _
  have hN : NodeAt (w1.alloc (.cells #[.pointer (some ⟨F, 0, none⟩), .slice none 0 0] 29)) w1.heap.size F := heap_alloc_new w1 _
  have hF2 := hF.below hba
  have hS2 := hS.below hba
  have bel2 : Below w.heap.size w (w1.alloc (.cells #[.pointer (some ⟨F, 0, none⟩), .slice none 0 0] 29)) := bel1.trans (hba.mono bel1.size)
  generalize w1.alloc (.cells #[.pointer (some ⟨F, 0, none⟩), .slice none 0 0] 29) = W at hN hF2 hS2 bel2 ⊢
  generalize w1.heap.size = N at hN ⊢
  clear hba hF hS bel1
  refine (pos_any N F L S _ base n W hN hF2).mono ?_
  rintro e w' ⟨rfl, rfl⟩
  go_wp2_with fail
  refine (end_any N F L S _ base n w' hN hF2 (by omega) (by omega) h3 h4).mono ?_
  rintro e w'' ⟨rfl, d1, rfl⟩
  go_wp2_with fail
  refine (pos_any N F L S _ base n (w'.drewN d1) hN hF2).mono ?_
  rintro e w'' ⟨rfl, rfl⟩
  go_wp2_with fail
  refine (pos_any N F L S _ base n (w'.drewN d1) hN hF2).mono ?_
  rintro e w'' ⟨rfl, rfl⟩
  go_wp2_with fail
  refine (Position_any F L S ⟨#[109]⟩ base n base (w'.drewN d1) hF2 h1 (by omega) h3 h4 (by omega) (by omega)).mono ?_
  rintro e w3 ⟨rfl, hb3⟩
  have hN3 := NodeAt.below (w := w'.drewN d1) hN hb3
  have hF3 := FileAt.below (w := w'.drewN d1) hF2 hb3
  have hS3 := SetAt.below (w := w'.drewN d1) hS2 hb3
  have bel3 : Below w.heap.size w w3 := (below_drewN bel2 d1).trans (hb3.mono bel2.size)
  clear hN hF2 hS2 bel2 hb3
  have e0 : base - base = 0 := by omega
  rw [e0]
  clear e0
  go_wp2_with fail
  refine (end_any N F L S _ base n w3 hN3 hF3 (by omega) (by omega) h3 h4).mono ?_
  rintro e w'' ⟨rfl, d2, rfl⟩
  go_wp2_with fail
  refine (Position_any F L S ⟨#[109]⟩ base n (base + n) (w3.drewN d2) hF3 h1 (by omega) h3 h4 (by omega) (by omega)).mono ?_
  rintro e w4 ⟨rfl, hb4⟩
  have hN4 := NodeAt.below (w := w3.drewN d2) hN3 hb4
  have hF4 := FileAt.below (w := w3.drewN d2) hF3 hb4
  have hS4 := SetAt.below (w := w3.drewN d2) hS3 hb4
  have bel4 : Below w.heap.size w w4 := (below_drewN bel3 d2).trans (hb4.mono bel3.size)
  clear hN3 hF3 hS3 bel3 hb4
  have e0 : base + n - base = n := by omega
  rw [e0]
  clear e0
  have c0 : w4.cell? ⟨S, 0, none⟩ = some (.int .i64 (base + n + 1)) := by rw [cell_of_row w4 S 0 _ _ _ hS4]; rfl
  go_wp2_with fail
  go_quiet ((go_at_call 10; exact Calls.quiet_of (end_any N F L S _ base n _ hN4 hF4 (by omega) (by omega) h3 h4)))
  go_wp2
  go_ret
  exact ⟨by simp, below_drewN bel4 _⟩

theorem gb_any (base n : Int) (w : World) :
    Calls Edxg.prog 4 #[.int .i64 base, .int .i64 n] w fun e w' => e = .returned (.bool true) ∧ Below w.heap.size w w' := by
  rcases (by omega : base < 1 ∨ (1 ≤ base ∧ 1099511627776 < base) ∨ (1 ≤ base ∧ base ≤ 1099511627776 ∧ n < 0) ∨ (1 ≤ base ∧ base ≤ 1099511627776 ∧ 0 ≤ n ∧ 1099511627776 < n) ∨ (1 ≤ base ∧ base ≤ 1099511627776 ∧ 0 ≤ n ∧ n ≤ 1099511627776)) with k | ⟨k1, k2⟩ | ⟨k1, k2, k3⟩ | ⟨k1, k2, k3, k4⟩ | ⟨k1, k2, k3, k4⟩
  · go_enter Edxg.func4, Edxg.ntmps4
    go_wp2
    go_ret
    exact ⟨rfl, Below.refl _ _⟩
  · go_enter Edxg.func4, Edxg.ntmps4
    go_wp2
    go_ret
    exact ⟨rfl, Below.refl _ _⟩
  · go_enter Edxg.func4, Edxg.ntmps4
    go_wp2
    go_ret
    exact ⟨rfl, Below.refl _ _⟩
  · go_enter Edxg.func4, Edxg.ntmps4
    go_wp2
    go_ret
    exact ⟨rfl, Below.refl _ _⟩
  · exact gb_in base n w k1 k2 k3 k4

end Go.Proofs.Yoedxw
