/- For FnReadOperandsSplitAndPad: its small callees; rows cut and joined. -/
import Derived.Test.YoedxwClone
import Derived.Test.YoedxwRead
import Derived.Deep.QuietTactic
import Derived.BigQuiet
import Derived.WalkSmall
namespace Go.Proofs.Yoedxw
open Go.RowKit

theorem zzs_yes (a0 a2 a3 : Option Addr) (l0 c0 l2 c2 l3 c3 : Nat) (cut : Int) (w : World) (h : l0 + l2 + l3 ≤ 1048576) :
    Calls Edxg.prog 18 #[.slice a0 l0 c0, .int .i64 cut, .slice a2 l2 c2, .slice a3 l3 c3] w fun e w' => e = .returned (.bool true) ∧ w = w' := by
  go_enter Edxg.func18, Edxg.ntmps18
  go_wp2
  go_ret
  exact ⟨rfl, rfl⟩

theorem zzs_no (a0 a2 a3 : Option Addr) (l0 c0 l2 c2 l3 c3 : Nat) (cut : Int) (w : World) (h : 1048576 < l0 + l2 + l3) (h0 : l0 ≤ maxLen) (h2 : l2 ≤ maxLen) (h3 : l3 ≤ maxLen) :
    Calls Edxg.prog 18 #[.slice a0 l0 c0, .int .i64 cut, .slice a2 l2 c2, .slice a3 l3 c3] w fun e w' => e = .returned (.bool false) ∧ w = w' := by
  unfold maxLen at h0 h2 h3
  rcases (by omega : 1048576 < l0 ∨ (l0 ≤ 1048576 ∧ 1048576 < l2) ∨ (l0 ≤ 1048576 ∧ l2 ≤ 1048576 ∧ 1048576 < l0 + l2) ∨ (l0 + l2 ≤ 1048576 ∧ 1048576 < l3) ∨ (l0 + l2 ≤ 1048576 ∧ l3 ≤ 1048576)) with k | ⟨k, k'⟩ | ⟨k, k', k''⟩ | ⟨k, k'⟩ | ⟨k, k'⟩
  all_goals
    go_enter Edxg.func18, Edxg.ntmps18
    go_wp2
    go_ret
    exact ⟨rfl, rfl⟩

/-- zzSameInts at two rows of the same integers. -/
theorem same_yes (a b : Option Addr) (c d : Nat) (ys : List Int) (n : Nat) (hn : ys.length = n) (w : World) (ha : RowAt .i64 w a ys) (hb : RowAt .i64 w b ys) (hl : n ≤ 1048576) :
    Calls Edxg.prog 19 #[.slice a n c, .slice b n d] w fun e w' => e = .returned (.bool true) ∧ Below w.heap.size w w' := by
  go_enter Edxg.func19, Edxg.ntmps19
  go_wp2
  go_loopw [5] (fun i wr => ∃ k : Nat, k ≤ n ∧ i = .int .i64 k ∧ Below w.heap.size w wr) (fun i _ => n - (intOf i).toNat)
  case atStart => exact ⟨0, Nat.zero_le _, rfl, Below.refl _ _⟩
  case round =>
    obtain ⟨k, hk, rfl, hbel⟩ := hrel
    by_cases hlt : k < n
    · rcases ha with h | ⟨b0, o0, ha0, hb0, hc0⟩
      · subst h; simp at hn; omega
      subst ha0
      rcases hb with h | ⟨b1, o1, ha1, hb1, hc1⟩
      · subst h; simp at hn; omega
      subst ha1
      have g0 : wr.cell? ⟨b0, o0 + k, none⟩ = some (.int .i64 (ys[k]?.getD 0)) := (hbel.cell (p := ⟨b0, o0 + k, none⟩) hb0).trans (hc0 k (by omega))
      have g1 : wr.cell? ⟨b1, o1 + k, none⟩ = some (.int .i64 (ys[k]?.getD 0)) := (hbel.cell (p := ⟨b1, o1 + k, none⟩) hb1).trans (hc1 k (by omega))
      generalize ys[k]?.getD 0 = y at g0 g1
      have i0 : (0 : Int) ≤ (k : Int) := by omega
      have i1 : (k : Int) < (n : Int) := by omega
      clear hc0 hc1
      go_wp2_with fail
      go_quiet (fail)
      go_wp2
      go_roundw
      case rel => exact ⟨k + 1, by omega, by go_num, below_drewN hbel _⟩
      case measure => simp [intOf]; omega
    · go_wp2
      go_ret
      exact ⟨rfl, hbel⟩

theorem RowAt.take {k : IntKind} {w : World} {a : Option Addr} {ys : List Int} (h : RowAt k w a ys) (l : Nat) : RowAt k w a (ys.take l) := by
  rcases h with h | ⟨b, off, ha, hlt, hc⟩
  · exact .inl (by rw [h]; simp)
  · refine .inr ⟨b, off, ha, hlt, fun i hi => ?_⟩
    have h1 : i < l ∧ i < ys.length := by rw [List.length_take] at hi; omega
    rw [hc i h1.2, List.getElem?_take, if_pos h1.1]

theorem RowAt.drop {k : IntKind} {w : World} {a : Option Addr} {ys : List Int} (h : RowAt k w a ys) (l m : Nat) (hm : ys.length ≤ m) : RowAt k w (if m = l then a else a.map (·.add l)) (ys.drop l) := by
  rcases h with h | ⟨b, off, ha, hlt, hc⟩
  · exact .inl (by rw [h]; simp)
  · by_cases hml : m = l
    · exact .inl (List.drop_eq_nil_of_le (by omega))
    · rw [if_neg hml, ha]
      refine .inr ⟨b, off + l, ?_, hlt, fun i hi => ?_⟩
      · simp [Addr.add_lit]
      · have h1 : l + i < ys.length := by simp at hi; omega
        rw [Nat.add_assoc, hc (l + i) h1, List.getElem?_drop]

theorem RowAt.none_len {k : IntKind} {w : World} {a : Option Addr} {ys : List Int} (h : RowAt k w a ys) (ha : a = none) : ys.length = 0 ∧ ys.length = 0 := by
  rcases h with rfl | ⟨b, off, h', _⟩
  · exact ⟨rfl, rfl⟩
  · rw [ha] at h'; cases h'

theorem RowAt.news {k : IntKind} {w : World} {a : Option Addr} {ys : List Int} (h : RowAt k w a ys) : ∀ ad, a = some ad → ∀ j u, (ys.map (Value.int k))[j]? = some u → w.cell? (ad.add j) = some u := by
  intro ad had j u hu
  have hj : j < ys.length := by
    have := (List.getElem?_eq_some_iff.1 hu).1
    simpa using this
  rcases h with rfl | ⟨b, off, h', _, hc⟩
  · simp at hj
  · rw [had] at h'
    obtain rfl := Option.some.inj h'
    rw [Addr.add_lit, hc j hj]
    rw [List.getElem?_map, List.getElem?_eq_getElem hj] at hu
    rw [List.getElem?_eq_getElem hj]
    exact hu

theorem readOps_len (a1 : Option Addr) (c1 : Nat) (ws : List Int) (a2 : Option Addr) (c2 : Nat) (bs : List Int) (w : World) (n1 n2 : Nat) (e1 : ws.length = n1) (e2 : bs.length = n2) (h1 : RowAt .i64 w a1 ws) (h2 : RowAt .u8 w a2 bs)
    (hw : ∀ x ∈ ws, 0 ≤ x ∧ x ≤ 8) (hb : ∀ x ∈ bs, 0 ≤ x ∧ x ≤ 255) (htot : Ops.tot ws ≤ n2) (hl1 : n1 ≤ 1048576) (hl2 : n2 ≤ 2097152) (N T : Nat) (eN : (Ops.ops ws bs).length = N) (eT : Ops.tot ws = T) :
    Calls Edxg.prog 17 #[.slice a1 n1 c1, .slice a2 n2 c2] w fun e w' =>
      ∃ a cap, e = .returned (.tuple #[.slice a N cap, .int .i64 T]) ∧ RowAt .i64 w' a (Ops.ops ws bs) ∧ Below w.heap.size w w' := by
  subst e1 e2 eN eT
  exact readOps_any a1 c1 ws a2 c2 bs w h1 h2 hw hb htot hl1 hl2

end Go.Proofs.Yoedxw
