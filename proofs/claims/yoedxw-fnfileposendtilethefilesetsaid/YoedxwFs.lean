/- The file set: NewFileSet, AddFile, Pos, End: by their contracts. -/
import Derived.Test.YoedxwRows
import Derived.WalkKit
import Derived.WalkSpells
import Derived.WalkSmall
import Derived.ProofKit
import Derived.Deep.QuietTactic
import Derived.BigQuiet
import Derived.Deep.AppendLies
namespace Go.Proofs.Yoedxw
open Go.RowKit

theorem Edxg.info24 : (Edxg.prog.info? 24).map (fun i => (i.zero, i.size, i.bytes)) = some (some (.pointer none), 1, 8) := by kernel_rfl

/-- A source file in memory: her own block, and the block of her lines (one: 0). -/
def FileAt (w : World) (F L S : Nat) (name : ByteArray) (b n : Int) : Prop :=
  w.heap[F]? = some (.cells #[.pointer (some ⟨S, 0, none⟩), .string name, .int .i64 b, .int .i64 n, .slice (some ⟨L, 0, none⟩) 1 1] 51 (0, 0)) ∧ w.heap[L]? = some (.cells #[.int .i64 0] 3 (0, 0))

/-- A file set in memory. -/
def SetAt (w : World) (S : Nat) (b : Int) (v : Value) (last : Option Addr) : Prop :=
  w.heap[S]? = some (.cells #[.int .i64 b, v, .pointer last] 40 (0, 0))

theorem newSet_any (w : World) : Calls Edxg.prog 7 #[] w fun e w' => e = .returned (.pointer (some ⟨w.heap.size, 0, none⟩)) ∧ w' = w.alloc (.cells #[.int .i64 1, .slice none 0 0, .pointer none] 40) := by
  go_enter Edxg.func7, Edxg.ntmps7
  go_wp2
  go_ret
  exact ⟨rfl, rfl⟩

/-- A store into another block than the owned row's. -/
theorem own_setCell_ne {w : World} {base e size n : Nat} {v : Value} {xs : List Value} (h : w.ownsRow base e size v n xs) {a : Addr} (hne : v.ownBlock ≠ some a.block) (u : Value) : (w.setCell a u).ownsRow base e size v n xs := by
  refine ⟨h.1, ?_⟩
  rcases h.2 with hn | ⟨g, cap, cur, rfl, hb, hg, rest⟩
  · exact .inl hn
  · refine .inr ⟨g, cap, cur, rfl, hb, ?_, rest⟩
    rw [heap_setCell_other w a g u (fun e => hne (by simp [Value.ownBlock, e]))]
    exact hg

theorem own_ge' {w : World} {base e size n : Nat} {v : Value} {xs : List Value} (h : w.ownsRow base e size v n xs) : ∀ k, v.ownBlock = some k → base ≤ k := by
  intro k hk
  rcases h.2 with ⟨rfl, _⟩ | ⟨g, cap, cur, rfl, hb, _⟩
  · cases hk
  · have : g = k := by simpa [Value.ownBlock] using hk
    omega

/-- The world of AddFile ahead of the append. -/
abbrev midW (w : World) (S : Nat) (x : Int) (name : ByteArray) (b n : Int) : World :=
  (((w.setCell ⟨S, 0, none⟩ (.int .i64 x)).alloc (.cells #[.int .i64 0] 3)).alloc (.cells #[.pointer (some ⟨S, 0, none⟩), .string name, .int .i64 b, .int .i64 n, .slice (some ⟨w.heap.size, 0, none⟩) 1 1] 51)).alloc (.cells #[.pointer (some ⟨w.heap.size + 1, 0, none⟩)] 24)

theorem size_setCell (w : World) (a : Addr) (u : Value) : (w.setCell a u).heap.size = w.heap.size := by simp [World.setCell]

theorem mid_size (w : World) (S : Nat) (x : Int) (name : ByteArray) (b n : Int) : (midW w S x name b n).heap.size = w.heap.size + 3 := by simp [midW]

theorem mid_old (w : World) (S : Nat) (x : Int) (name : ByteArray) (b n : Int) (k : Nat) (hk : k < w.heap.size) : (midW w S x name b n).heap[k]? = (w.setCell ⟨S, 0, none⟩ (.int .i64 x)).heap[k]? := by
  unfold midW
  rw [heap_alloc_old _ _ (by simp; omega), heap_alloc_old _ _ (by simp; omega), heap_alloc_old _ _ (by rw [size_setCell]; exact hk)]

theorem mid_L (w : World) (S : Nat) (x : Int) (name : ByteArray) (b n : Int) : (midW w S x name b n).heap[w.heap.size]? = some (.cells #[.int .i64 0] 3 (0, 0)) := by
  unfold midW
  rw [heap_alloc_old _ _ (by simp; omega), heap_alloc_old _ _ (by simp)]
  have h := heap_alloc_new (w.setCell ⟨S, 0, none⟩ (.int .i64 x)) (.cells #[.int .i64 0] 3)
  rw [size_setCell] at h
  exact h

theorem mid_F (w : World) (S : Nat) (x : Int) (name : ByteArray) (b n : Int) : (midW w S x name b n).heap[w.heap.size + 1]? = some (.cells #[.pointer (some ⟨S, 0, none⟩), .string name, .int .i64 b, .int .i64 n, .slice (some ⟨w.heap.size, 0, none⟩) 1 1] 51 (0, 0)) := by
  unfold midW
  rw [heap_alloc_old _ _ (by simp)]
  have h := heap_alloc_new ((w.setCell ⟨S, 0, none⟩ (.int .i64 x)).alloc (.cells #[.int .i64 0] 3)) (.cells #[.pointer (some ⟨S, 0, none⟩), .string name, .int .i64 b, .int .i64 n, .slice (some ⟨w.heap.size, 0, none⟩) 1 1] 51)
  have e : ((w.setCell ⟨S, 0, none⟩ (.int .i64 x)).alloc (.cells #[.int .i64 0] 3)).heap.size = w.heap.size + 1 := by simp
  rw [e] at h
  exact h

theorem mid_P (w : World) (S : Nat) (x : Int) (name : ByteArray) (b n : Int) : (midW w S x name b n).heap[w.heap.size + 2]? = some (.cells #[.pointer (some ⟨w.heap.size + 1, 0, none⟩)] 24 (0, 0)) := by
  have h := heap_alloc_new (((w.setCell ⟨S, 0, none⟩ (.int .i64 x)).alloc (.cells #[.int .i64 0] 3)).alloc (.cells #[.pointer (some ⟨S, 0, none⟩), .string name, .int .i64 b, .int .i64 n, .slice (some ⟨w.heap.size, 0, none⟩) 1 1] 51)) (.cells #[.pointer (some ⟨w.heap.size + 1, 0, none⟩)] 24)
  have e : (((w.setCell ⟨S, 0, none⟩ (.int .i64 x)).alloc (.cells #[.int .i64 0] 3)).alloc (.cells #[.pointer (some ⟨S, 0, none⟩), .string name, .int .i64 b, .int .i64 n, .slice (some ⟨w.heap.size, 0, none⟩) 1 1] 51)).heap.size = w.heap.size + 2 := by simp
  rw [e] at h
  exact h

theorem mid_S {w : World} {S : Nat} {b0 : Int} {v : Value} {last : Option Addr} (hS : SetAt w S b0 v last) (hlt : S < w.heap.size) (x : Int) (name : ByteArray) (b n : Int) : SetAt (midW w S x name b n) S x v last := by
  unfold SetAt
  rw [mid_old w S x name b n S hlt, heap_setCell_same w S 0 _ _ _ hS]
  rfl

theorem mid_below {w : World} {B S : Nat} (hB : B ≤ S) (hlt : S < w.heap.size) (x : Int) (name : ByteArray) (b n : Int) : Below B w (midW w S x name b n) :=
  ((((Below.refl B w).setCell (p := ⟨S, 0, none⟩) hB _).alloc (by rw [size_setCell]; omega) _).alloc (by simp; omega) _).alloc (by simp; omega) _

theorem mid_own {w : World} {B S n : Nat} {v : Value} {xs : List Value} (hown : w.ownsRow B 24 1 v n xs) (hne : v.ownBlock ≠ some S) (x : Int) (name : ByteArray) (b m : Int) : (midW w S x name b m).ownsRow B 24 1 v n xs :=
  (((own_setCell_ne hown hne _).alloc _).alloc _).alloc _

/-- Behind the append. -/
theorem after_S {w w1 : World} {S : Nat} {b0 : Int} {v : Value} {last : Option Addr} (hS : SetAt w S b0 v last) (hlt : S < w.heap.size) (hne : v.ownBlock ≠ some S) {x : Int} {name : ByteArray} {b n : Int} (hg : (midW w S x name b n).grownBy w1 v.ownBlock) : SetAt w1 S x v last := by
  unfold SetAt
  rw [hg.block S (by rw [mid_size]; omega) (Ne.symm hne)]
  exact mid_S hS hlt x name b n

/-- The end of AddFile. -/
theorem end_all {w w1 : World} {B S n : Nat} {b0 : Int} {v : Value} {xs : List Value} {last : Option Addr} (hS : SetAt w S b0 v last) (hlt : S < w.heap.size) (hB : B ≤ S) (hown : w.ownsRow B 24 1 v n xs) (hne : v.ownBlock ≠ some S) {x : Int} {name : ByteArray} {b m : Int}
    (hg : (midW w S x name b m).grownBy w1 v.ownBlock) {g cap : Nat} (hown1 : w1.ownsRow B 24 1 (.slice (some ⟨g, 0, none⟩) (n + 1) cap) (n + 1) (xs ++ [.pointer (some ⟨w.heap.size + 1, 0, none⟩)])) (hat : v.ownBlock = some g ∨ g = w.heap.size + 3) (y : Int) (hy : y = x) :
    let w2 := (w1.setCell ⟨S, 1, none⟩ (.slice (some ⟨g, 0, none⟩) (n + 1) cap)).setCell ⟨S, 2, none⟩ (.pointer (some ⟨w.heap.size + 1, 0, none⟩))
    FileAt w2 (w.heap.size + 1) w.heap.size S name b m ∧ SetAt w2 S y (.slice (some ⟨g, 0, none⟩) (n + 1) cap) (some ⟨w.heap.size + 1, 0, none⟩) ∧ w2.ownsRow B 24 1 (.slice (some ⟨g, 0, none⟩) (n + 1) cap) (n + 1) (xs ++ [.pointer (some ⟨w.heap.size + 1, 0, none⟩)]) ∧
      (Value.slice (some ⟨g, 0, none⟩) (n + 1) cap).ownBlock ≠ some S ∧ w.heap.size ≤ w.heap.size + 1 ∧ w.heap.size ≤ w.heap.size ∧ (∀ k, k < w.heap.size → k ≠ S → v.ownBlock ≠ some k → w2.heap[k]? = w.heap[k]?) ∧ Below B w w2 := by
  subst hy
  have hgS : g ≠ S := by
    rcases hat with h | h
    · intro e; subst e; exact hne h
    · omega
  have hgn : (Value.slice (some ⟨g, 0, none⟩) (n + 1) cap).ownBlock ≠ some S := by simpa [Value.ownBlock] using hgS
  have hov : ∀ k, v.ownBlock = some k → k < w.heap.size := by
    intro k hk
    rcases hown.2 with ⟨rfl, _⟩ | ⟨g', cap', cur, rfl, _, hgg, _⟩
    · cases hk
    · have e : g' = k := by simpa [Value.ownBlock] using hk
      subst e
      rcases Nat.lt_or_ge g' w.heap.size with h | h
      · exact h
      · rw [Array.getElem?_eq_none h] at hgg; cases hgg
  have oth : ∀ k, k ≠ S → ((w1.setCell ⟨S, 1, none⟩ (.slice (some ⟨g, 0, none⟩) (n + 1) cap)).setCell ⟨S, 2, none⟩ (.pointer (some ⟨w.heap.size + 1, 0, none⟩))).heap[k]? = w1.heap[k]? := fun k hk => by
    rw [heap_setCell_other _ _ _ _ hk, heap_setCell_other _ _ _ _ hk]
  refine ⟨⟨?_, ?_⟩, ?_, own_setCell_ne (own_setCell_ne hown1 hgn _) hgn _, hgn, by omega, by omega, fun k hk hkS hkv => ?_, ?_⟩
  · rw [oth _ (by omega), hg.block _ (by rw [mid_size]; omega) (fun e => by have := hov _ e.symm; omega)]
    exact mid_F _ _ _ _ _ _
  · rw [oth _ (by omega), hg.block _ (by rw [mid_size]; omega) (fun e => by have := hov _ e.symm; omega)]
    exact mid_L _ _ _ _ _ _
  · have h1 := after_S hS hlt hne hg
    have h2 := heap_setCell_same w1 S 1 _ _ (.slice (some ⟨g, 0, none⟩) (n + 1) cap) h1
    exact heap_setCell_same _ S 2 _ _ (.pointer (some ⟨w.heap.size + 1, 0, none⟩)) h2
  · rw [oth _ hkS, hg.block _ (by rw [mid_size]; omega) (Ne.symm hkv), mid_old _ _ _ _ _ _ _ hk, heap_setCell_other _ _ _ _ hkS]
  · exact (((mid_below hB hlt _ _ _ _).grown hg (by rw [mid_size]; omega) (own_ge' hown)).setCell (p := ⟨S, 1, none⟩) hB _).setCell (p := ⟨S, 2, none⟩) hB _

set_option maxHeartbeats 1600000 in
set_option maxRecDepth 100000 in
theorem addFile_any (B S : Nat) (name : ByteArray) (base size b0 eff : Int) (v : Value) (n : Nat) (xs : List Value) (last : Option Addr) (w : World) (hS : SetAt w S b0 v last) (hown : w.ownsRow B 24 1 v n xs) (hB : B ≤ S) (hne : v.ownBlock ≠ some S) (hn : n ≤ 1000)
    (heff : (base < 0 ∧ eff = b0) ∨ (0 ≤ base ∧ eff = base)) (hb0 : 0 ≤ b0) (hb : b0 ≤ eff) (hbb : eff ≤ 1099511627776000) (hs0 : 0 ≤ size) (hs1 : size ≤ 1099511627776) :
    Calls Edxg.prog 8 #[.pointer (some ⟨S, 0, none⟩), .string name, .int .i64 base, .int .i64 size] w fun e w' =>
      ∃ F L v', e = .returned (.pointer (some ⟨F, 0, none⟩)) ∧ FileAt w' F L S name eff size ∧ SetAt w' S (eff + size + 1) v' (some ⟨F, 0, none⟩) ∧ w'.ownsRow B 24 1 v' (n + 1) (xs ++ [.pointer (some ⟨F, 0, none⟩)]) ∧ v'.ownBlock ≠ some S ∧
        w.heap.size ≤ F ∧ w.heap.size ≤ L ∧ (∀ k, k < w.heap.size → k ≠ S → v.ownBlock ≠ some k → w'.heap[k]? = w.heap[k]?) ∧ Below B w w' := by
  obtain ⟨i0, hi, hz0, hz1, hz2⟩ := info_parts Edxg.info24
  have c0 : w.cell? ⟨S, 0, none⟩ = some (.int .i64 b0) := by rw [cell_of_row w S 0 _ _ _ hS]; rfl
  have c1 : w.cell? ⟨S, 1, none⟩ = some v := by rw [cell_of_row w S 1 _ _ _ hS]; rfl
  have c2 : w.cell? ⟨S, 2, none⟩ = some (.pointer last) := by rw [cell_of_row w S 2 _ _ _ hS]; rfl
  have f0 : w.frozen? ⟨S, 0, none⟩ = false := frozen_of_row w S 0 _ _ hS
  have f1 : w.frozen? ⟨S, 1, none⟩ = false := frozen_of_row w S 1 _ _ hS
  have f2 : w.frozen? ⟨S, 2, none⟩ = false := frozen_of_row w S 2 _ _ hS
  have hSlt : S < w.heap.size := World.block_lt_of_cell? w _ c0
  rcases heff with ⟨hneg, rfl⟩ | ⟨hpos, rfl⟩
  · go_enter Edxg.func8, Edxg.ntmps8
    go_wp2_with (at_builtin; refine wpList_append_lies _ rfl _ _ 38 rfl B 24 i0 (.pointer none) 1 8 Edxg.underlying38 hi hz0 hz1 hz2 rfl (by decide) v n xs rfl (mid_own hown hne _ _ _ _) _ 1 1 [.pointer (some ⟨w.heap.size + 1, 0, none⟩)] rfl rfl (World.news_of_block (mid_P w S _ _ _ _)) (by intro u hu; simp at hu; subst hu; rfl) (by omega) (by unfold maxLen; omega) (by omega) (by rw [mid_size]; omega) (w.heap.size + 3) (mid_size w S _ _ _ _) ?_)
    intro g cap w1 hown1 hgrow hat hltg
    have h1 := after_S hS hSlt hne hgrow
    have R := end_all hS hSlt hB hown hne hgrow hown1 hat (eff + size + 1) (by omega)
    have d1 : w1.cell? ⟨S, 1, none⟩ = some v := by rw [cell_of_row w1 S 1 _ _ _ h1]; rfl
    have d2 : w1.cell? ⟨S, 2, none⟩ = some (.pointer last) := by rw [cell_of_row w1 S 2 _ _ _ h1]; rfl
    have q1 : w1.frozen? ⟨S, 1, none⟩ = false := frozen_of_row w1 S 1 _ _ h1
    have q2 : w1.frozen? ⟨S, 2, none⟩ = false := frozen_of_row w1 S 2 _ _ h1
    clear h1 hown1 hgrow hat hltg c0 c1 c2 f0 f1 f2 hS hown
    go_wp2
    go_ret
    exact ⟨w.heap.size + 1, rfl, w.heap.size, R.1, _, R.2⟩
  · go_enter Edxg.func8, Edxg.ntmps8
    go_wp2_with (at_builtin; refine wpList_append_lies _ rfl _ _ 38 rfl B 24 i0 (.pointer none) 1 8 Edxg.underlying38 hi hz0 hz1 hz2 rfl (by decide) v n xs rfl (mid_own hown hne _ _ _ _) _ 1 1 [.pointer (some ⟨w.heap.size + 1, 0, none⟩)] rfl rfl (World.news_of_block (mid_P w S _ _ _ _)) (by intro u hu; simp at hu; subst hu; rfl) (by omega) (by unfold maxLen; omega) (by omega) (by rw [mid_size]; omega) (w.heap.size + 3) (mid_size w S _ _ _ _) ?_)
    intro g cap w1 hown1 hgrow hat hltg
    have h1 := after_S hS hSlt hne hgrow
    have R := end_all hS hSlt hB hown hne hgrow hown1 hat (eff + size + 1) (by omega)
    have d1 : w1.cell? ⟨S, 1, none⟩ = some v := by rw [cell_of_row w1 S 1 _ _ _ h1]; rfl
    have d2 : w1.cell? ⟨S, 2, none⟩ = some (.pointer last) := by rw [cell_of_row w1 S 2 _ _ _ h1]; rfl
    have q1 : w1.frozen? ⟨S, 1, none⟩ = false := frozen_of_row w1 S 1 _ _ h1
    have q2 : w1.frozen? ⟨S, 2, none⟩ = false := frozen_of_row w1 S 2 _ _ h1
    clear h1 hown1 hgrow hat hltg c0 c1 c2 f0 f1 f2 hS hown
    go_wp2
    go_ret
    exact ⟨w.heap.size + 1, rfl, w.heap.size, R.1, _, R.2⟩

end Go.Proofs.Yoedxw
