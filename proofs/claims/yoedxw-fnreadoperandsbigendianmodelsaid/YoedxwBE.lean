/- FnReadOperandsBigEndianModel: the walk. -/
import Derived.Test.YoedxwClone
import Derived.Test.YoedxwRead
namespace Go.Proofs.Yoedxw
open Go.RowKit

/-- The number that the first m bytes spell, the greatest first. -/
def be (bs : List Int) : Nat → Int
  | 0 => 0
  | m + 1 => be bs m * 256 + bs[m]?.getD 0

theorem op1_be1 (bs : List Int) : Ops.op1 1 bs = [be bs 1] := by simp [Ops.op1, be]
theorem op1_be2 (bs : List Int) : Ops.op1 2 bs = [be bs 2] := by simp [Ops.op1, be]
theorem op1_be4 (bs : List Int) : Ops.op1 4 bs = [be bs 4] := by simp [Ops.op1, be]

theorem be_bd (bs : List Int) (hb : ∀ j : Nat, 0 ≤ bs[j]?.getD 0 ∧ bs[j]?.getD 0 ≤ 255) (m : Nat) (hm : m ≤ 4) : 0 ≤ be bs m ∧ be bs m < 4294967296 ∧ (m ≤ 3 → be bs m < 16777216) := by
  have h0 := hb 0
  have h1 := hb 1
  have h2 := hb 2
  have h3 := hb 3
  rcases (by omega : m = 0 ∨ m = 1 ∨ m = 2 ∨ m = 3 ∨ m = 4) with rfl | rfl | rfl | rfl | rfl <;> simp only [be] <;> omega

theorem bytes_drop {bs : List Int} (hb : ∀ x ∈ bs, 0 ≤ x ∧ x ≤ 255) (T : Nat) : ∀ j : Nat, 0 ≤ (bs.drop T)[j]?.getD 0 ∧ (bs.drop T)[j]?.getD 0 ≤ 255 := fun j => by
  by_cases h : j < (bs.drop T).length
  · have := hb _ (List.mem_of_mem_drop (List.getElem_mem h))
    rw [List.getElem?_eq_getElem h]; exact this
  · rw [List.getElem?_eq_none (by omega)]; simp

theorem ops_at (ws bs : List Int) (k : Nat) (h : k < ws.length) (v : Int) (hv : Ops.op1 (ws[k]?.getD 0) (bs.drop (Ops.tot (ws.take k))) = [v]) :
    (Ops.ops ws bs)[(Ops.ops (ws.take k) bs).length]? = some v := by
  rw [Ops.ops_split ws bs (k + 1), Ops.ops_take_succ ws bs k h, hv]
  simp

theorem zzb_yes (a0 a1 : Option Addr) (l0 c0 l1 c1 : Nat) (w : World) (h : l0 + l1 ≤ 1048576) :
    Calls Edxg.prog 14 #[.slice a0 l0 c0, .slice a1 l1 c1] w fun e w' => e = .returned (.bool true) ∧ w = w' := by
  go_enter Edxg.func14, Edxg.ntmps14
  go_wp2
  go_ret
  exact ⟨rfl, rfl⟩

theorem zzb_no (a0 a1 : Option Addr) (l0 c0 l1 c1 : Nat) (w : World) (h : 1048576 < l0 + l1) (h0 : l0 ≤ maxLen) (h1 : l1 ≤ maxLen) :
    Calls Edxg.prog 14 #[.slice a0 l0 c0, .slice a1 l1 c1] w fun e w' => e = .returned (.bool false) ∧ w = w' := by
  unfold maxLen at h0 h1
  by_cases k0 : 1048576 < l0
  · go_enter Edxg.func14, Edxg.ntmps14
    go_wp2
    go_ret
    exact ⟨rfl, rfl⟩
  · by_cases k1 : 1048576 < l1
    · go_enter Edxg.func14, Edxg.ntmps14
      go_wp2
      go_ret
      exact ⟨rfl, rfl⟩
    · go_enter Edxg.func14, Edxg.ntmps14
      go_wp2
      go_ret
      exact ⟨rfl, rfl⟩

set_option maxHeartbeats 3200000 in
set_option maxRecDepth 100000 in
theorem be_any (a0 a1 : Option Addr) (c0 c1 : Nat) (ws bs : List Int) (w : World) (h0 : RowAt .i64 w a0 ws) (h1 : RowAt .u8 w a1 bs) (n0 : a0 = none → ws = [] ∧ c0 = 0) (n1 : a1 = none → bs = [] ∧ c1 = 0)
    (m0 : ws.length ≤ maxLen) (m1 : bs.length ≤ maxLen) (hb : ∀ x ∈ bs, 0 ≤ x ∧ x ≤ 255) :
    Calls Edxg.prog 5 #[.slice a0 ws.length c0, .slice a1 bs.length c1] w fun e w' => e = .returned (.bool true) ∧ Below w.heap.size w w' := by
  by_cases hs : ws.length + bs.length ≤ 1048576
  · by_cases hs1 : 131072 < ws.length
    · go_enter Edxg.func5, Edxg.ntmps5
      go_wp2_with (go_at_call 14; refine (zzb_yes _ _ _ _ _ _ _ hs).mono ?_; rintro e w' ⟨rfl, rfl⟩)
      go_ret
      exact ⟨rfl, Below.refl _ _⟩
    · by_cases hs2 : 1048576 < ws.length * 8 + bs.length
      · go_enter Edxg.func5, Edxg.ntmps5
        go_wp2_with (go_at_call 14; refine (zzb_yes _ _ _ _ _ _ _ hs).mono ?_; rintro e w' ⟨rfl, rfl⟩)
        go_ret
        exact ⟨rfl, Below.refl _ _⟩
      · go_enter Edxg.func5, Edxg.ntmps5
        go_wp2_with (go_at_call 14; refine (zzb_yes _ _ _ _ _ _ _ hs).mono ?_; rintro e w' ⟨rfl, rfl⟩)
        go_loop [5, 6] (fun t i => ∃ k T : Nat, k ≤ ws.length ∧ i = .int .i64 k ∧ t = .int .i64 T ∧ Hid (T = Ops.tot (ws.take k)) ∧ T ≤ k * 8 ∧ Hid (∀ x ∈ ws.take k, 0 ≤ x ∧ x ≤ 8)) (fun _ i => ws.length - (intOf i).toNat)
        case atStart => exact ⟨0, 0, Nat.zero_le _, rfl, rfl, rfl, Nat.zero_le _, by intro x hx; simp at hx⟩
        case round =>
          obtain ⟨k, T, hk, rfl, rfl, HT, hT8, HW⟩ := hrel
          by_cases hlt : k < ws.length
          · obtain ⟨x, hx⟩ : ∃ x, x = ws[k]?.getD 0 := ⟨_, rfl⟩
            rcases h0 with h | ⟨b0, o0, ha0, hb0, hc0⟩
            · subst h; simp at hlt
            subst ha0
            have hcx : w.cell? ⟨b0, o0 + k, none⟩ = some (.int .i64 x) := by rw [hx]; exact hc0 k hlt
            by_cases hx0 : x < 0
            · clear hx hc0
              go_wp2
              go_ret
              exact ⟨rfl, Below.refl _ _⟩
            · by_cases hx8 : 8 < x
              · clear hx hc0
                go_wp2
                go_ret
                exact ⟨rfl, Below.refl _ _⟩
              · have HT2 : Hid (T + x.toNat = Ops.tot (ws.take (k + 1))) := by show _ = _; rw [Ops.tot_take_succ ws k hlt, ← HT.out, ← hx]
                have HW2 : Hid (∀ x ∈ ws.take (k + 1), 0 ≤ x ∧ x ≤ 8) := by
                  intro y hy
                  rw [Ops.take_succ ws k hlt, ← hx] at hy
                  rcases List.mem_append.1 hy with h | h
                  · exact HW.out y h
                  · have : y = x := by simpa using h
                    omega
                obtain ⟨m, rfl⟩ := Int.eq_ofNat_of_zero_le (by omega : 0 ≤ x)
                clear hx hc0
                go_wp2
                go_round
                case rel => exact ⟨k + 1, T + m, by omega, by go_num, by go_num, HT2.out, by omega, HW2⟩
                case measure => simp [intOf]; omega
          · have hk' : k = ws.length := by omega
            subst hk'
            have e1 := HT.out
            have hw := HW.out
            rw [List.take_length] at e1 hw
            subst e1
            clear HT HW
            by_cases hT : bs.length < Ops.tot ws
            · go_wp2
              go_ret
              exact ⟨rfl, Below.refl _ _⟩
            · go_wp2_with fail
              refine (cloneInts_any a0 c0 ws w h0 (by omega) n0).mono ?_
              rintro e w1 ⟨a0', rfl, hr0, hb1⟩
              go_wp2_with fail
              refine (cloneBytes_any a1 c1 bs w1 (h1.below hb1) (by omega) n1).mono ?_
              rintro e w2 ⟨a1', rfl, hr1, hb2⟩
              go_wp2_with fail
              refine (readOps_any a0' _ ws a1' _ bs w2 (hr0.below hb2) hr1 hw hb (by omega) (by omega) (by omega)).mono ?_
              rintro e w3 ⟨ao, co, rfl, hro, hb3⟩
              have hbel : Below w.heap.size w w3 := (hb1.trans (hb2.mono hb1.size)).trans (hb3.mono (Nat.le_trans hb1.size hb2.size))
              have hq0 := (hr0.below hb2).below hb3
              have hq1 := hr1.below hb3
              clear hr0 hr1 hb1 hb2 hb3 h0 h1 n0 n1
              obtain ⟨N, hN⟩ : ∃ N, N = (Ops.ops ws bs).length := ⟨_, rfl⟩
              have HN : Hid (N = (Ops.ops ws bs).length) := hN
              rw [← hN]
              clear hN
              go_wp2_with fail
              go_loop [9, 10, 11] (fun j p i => ∃ k T J : Nat, k ≤ ws.length ∧ i = .int .i64 k ∧ p = .int .i64 T ∧ j = .int .i64 J ∧ Hid (T = Ops.tot (ws.take k)) ∧ Hid (J = (Ops.ops (ws.take k) bs).length) ∧ J ≤ k ∧ T ≤ bs.length) (fun _ _ i => ws.length - (intOf i).toNat)
              case atStart => exact ⟨0, 0, 0, Nat.zero_le _, rfl, rfl, rfl, rfl, rfl, Nat.zero_le _, Nat.zero_le _⟩
              case round =>
                obtain ⟨k, T, J, hk, rfl, rfl, rfl, HT, HJ, hJk, hTb⟩ := hrel
                by_cases hlt : k < ws.length
                · obtain ⟨x, hx⟩ : ∃ x, x = ws[k]?.getD 0 := ⟨_, rfl⟩
                  have hxm : x ∈ ws := by rw [hx]; simp [hlt]
                  have hx0 : 0 ≤ x := (hw x hxm).1
                  have hx8 : x ≤ 8 := (hw x hxm).2
                  have hTx : T + x.toNat ≤ bs.length := by have := Ops.tot_take_add ws k hlt; rw [← HT.out, ← hx] at this; omega
                  have HT2 : Hid (T + x.toNat = Ops.tot (ws.take (k + 1))) := by show _ = _; rw [Ops.tot_take_succ ws k hlt, ← HT.out, ← hx]
                  rcases hq0 with h | ⟨b0, o0, ha0, hb0, hc0⟩
                  · subst h; simp at hlt
                  subst ha0
                  have hcx : w3.cell? ⟨b0, o0 + k, none⟩ = some (.int .i64 x) := by rw [hx]; exact hc0 k hlt
                  have hD : ∀ j : Nat, 0 ≤ (bs.drop T)[j]?.getD 0 ∧ (bs.drop T)[j]?.getD 0 ≤ 255 := bytes_drop hb T
                  clear hxm hw hb
                  by_cases hcase : x = 1 ∨ x = 2 ∨ x = 4
                  · rcases hcase with rfl | rfl | rfl
                    · have HV : Hid (Ops.op1 1 (bs.drop T) = [be (bs.drop T) 1]) := op1_be1 _
                      have HA := ops_at ws bs k hlt (be (bs.drop T) 1) (by rw [← hx, ← HT.out]; exact HV.out)
                      rw [← HJ.out] at HA
                      have hJN : J < N := by rw [HN.out]; rcases Nat.lt_or_ge J (Ops.ops ws bs).length with h | h; exact h; rw [List.getElem?_eq_none h] at HA; cases HA
                      have HJ2 : Hid (J + 1 = (Ops.ops (ws.take (k + 1)) bs).length) := by show _ = _; rw [Ops.ops_take_succ ws bs k hlt, ← hx, ← HT.out, HV.out, List.length_append, ← HJ.out]; rfl
                      rcases hro with h | ⟨b3, o3, ha3, hb3, hc3⟩
                      · rw [h] at HA; cases HA
                      subst ha3
                      have hcv : w3.cell? ⟨b3, o3 + J, none⟩ = some (.int .i64 (be (bs.drop T) 1)) := by rw [hc3 J (by rw [← HN.out]; exact hJN), HA]; rfl
                      rcases hq1 with h | ⟨b4, o4, ha4, hb4, hc4⟩
                      · subst h; simp at hTx
                      subst ha4
                      have hcb : ∀ m, m < 1 → w3.cell? ⟨b4, o4 + (T + m), none⟩ = some (.int .u8 ((bs.drop T)[m]?.getD 0)) := fun m hm => by rw [hc4 (T + m) (by omega), List.getElem?_drop]
                      clear hx hc0 hc3 hc4 HT HJ HA HV
                      go_wp2_with fail
                      go_loop [13, 14] (fun v i => ∃ m : Nat, m ≤ 1 ∧ i = .int .i64 m ∧ v = .int .i64 (be (bs.drop T) m)) (fun _ i => 1 - (intOf i).toNat)
                      case atStart => exact ⟨0, Nat.zero_le _, rfl, rfl⟩
                      case round =>
                        obtain ⟨m, hm, rfl, rfl⟩ := hrel
                        have hbb := be_bd (bs.drop T) hD m (by omega)
                        by_cases hmx : m < 1
                        · have hbb3 := hbb.2.2 (by omega)
                          have hy := hD m
                          have hcb' := hcb m hmx
                          have HS : Hid (be (bs.drop T) (m + 1) = be (bs.drop T) m * 256 + (bs.drop T)[m]?.getD 0) := rfl
                          generalize hyy : (bs.drop T)[m]?.getD 0 = y at hy hcb' HS
                          generalize hBB : be (bs.drop T) m = B at hbb hbb3 HS
                          clear hcb hyy hD
                          go_wp2
                          go_round
                          case rel => exact ⟨m + 1, by omega, by go_num, by rw [HS.out]⟩
                          case measure => simp [intOf]; omega
                        · have hm' : m = 1 := by omega
                          subst hm'
                          generalize be (bs.drop T) 1 = B at hbb hcv
                          clear hcb hD
                          go_wp2
                          go_round
                          case rel => exact ⟨k + 1, T + 1, J + 1, by omega, by go_num, by go_num, by go_num, HT2.out, HJ2.out, by omega, hTx⟩
                          case measure => simp [intOf]; omega
                    · have HV : Hid (Ops.op1 2 (bs.drop T) = [be (bs.drop T) 2]) := op1_be2 _
                      have HA := ops_at ws bs k hlt (be (bs.drop T) 2) (by rw [← hx, ← HT.out]; exact HV.out)
                      rw [← HJ.out] at HA
                      have hJN : J < N := by rw [HN.out]; rcases Nat.lt_or_ge J (Ops.ops ws bs).length with h | h; exact h; rw [List.getElem?_eq_none h] at HA; cases HA
                      have HJ2 : Hid (J + 1 = (Ops.ops (ws.take (k + 1)) bs).length) := by show _ = _; rw [Ops.ops_take_succ ws bs k hlt, ← hx, ← HT.out, HV.out, List.length_append, ← HJ.out]; rfl
                      rcases hro with h | ⟨b3, o3, ha3, hb3, hc3⟩
                      · rw [h] at HA; cases HA
                      subst ha3
                      have hcv : w3.cell? ⟨b3, o3 + J, none⟩ = some (.int .i64 (be (bs.drop T) 2)) := by rw [hc3 J (by rw [← HN.out]; exact hJN), HA]; rfl
                      rcases hq1 with h | ⟨b4, o4, ha4, hb4, hc4⟩
                      · subst h; simp at hTx
                      subst ha4
                      have hcb : ∀ m, m < 2 → w3.cell? ⟨b4, o4 + (T + m), none⟩ = some (.int .u8 ((bs.drop T)[m]?.getD 0)) := fun m hm => by rw [hc4 (T + m) (by omega), List.getElem?_drop]
                      clear hx hc0 hc3 hc4 HT HJ HA HV
                      go_wp2_with fail
                      go_loop [13, 14] (fun v i => ∃ m : Nat, m ≤ 2 ∧ i = .int .i64 m ∧ v = .int .i64 (be (bs.drop T) m)) (fun _ i => 2 - (intOf i).toNat)
                      case atStart => exact ⟨0, Nat.zero_le _, rfl, rfl⟩
                      case round =>
                        obtain ⟨m, hm, rfl, rfl⟩ := hrel
                        have hbb := be_bd (bs.drop T) hD m (by omega)
                        by_cases hmx : m < 2
                        · have hbb3 := hbb.2.2 (by omega)
                          have hy := hD m
                          have hcb' := hcb m hmx
                          have HS : Hid (be (bs.drop T) (m + 1) = be (bs.drop T) m * 256 + (bs.drop T)[m]?.getD 0) := rfl
                          generalize hyy : (bs.drop T)[m]?.getD 0 = y at hy hcb' HS
                          generalize hBB : be (bs.drop T) m = B at hbb hbb3 HS
                          clear hcb hyy hD
                          go_wp2
                          go_round
                          case rel => exact ⟨m + 1, by omega, by go_num, by rw [HS.out]⟩
                          case measure => simp [intOf]; omega
                        · have hm' : m = 2 := by omega
                          subst hm'
                          generalize be (bs.drop T) 2 = B at hbb hcv
                          clear hcb hD
                          go_wp2
                          go_round
                          case rel => exact ⟨k + 1, T + 2, J + 1, by omega, by go_num, by go_num, by go_num, HT2.out, HJ2.out, by omega, hTx⟩
                          case measure => simp [intOf]; omega
                    · have HV : Hid (Ops.op1 4 (bs.drop T) = [be (bs.drop T) 4]) := op1_be4 _
                      have HA := ops_at ws bs k hlt (be (bs.drop T) 4) (by rw [← hx, ← HT.out]; exact HV.out)
                      rw [← HJ.out] at HA
                      have hJN : J < N := by rw [HN.out]; rcases Nat.lt_or_ge J (Ops.ops ws bs).length with h | h; exact h; rw [List.getElem?_eq_none h] at HA; cases HA
                      have HJ2 : Hid (J + 1 = (Ops.ops (ws.take (k + 1)) bs).length) := by show _ = _; rw [Ops.ops_take_succ ws bs k hlt, ← hx, ← HT.out, HV.out, List.length_append, ← HJ.out]; rfl
                      rcases hro with h | ⟨b3, o3, ha3, hb3, hc3⟩
                      · rw [h] at HA; cases HA
                      subst ha3
                      have hcv : w3.cell? ⟨b3, o3 + J, none⟩ = some (.int .i64 (be (bs.drop T) 4)) := by rw [hc3 J (by rw [← HN.out]; exact hJN), HA]; rfl
                      rcases hq1 with h | ⟨b4, o4, ha4, hb4, hc4⟩
                      · subst h; simp at hTx
                      subst ha4
                      have hcb : ∀ m, m < 4 → w3.cell? ⟨b4, o4 + (T + m), none⟩ = some (.int .u8 ((bs.drop T)[m]?.getD 0)) := fun m hm => by rw [hc4 (T + m) (by omega), List.getElem?_drop]
                      clear hx hc0 hc3 hc4 HT HJ HA HV
                      go_wp2_with fail
                      go_loop [13, 14] (fun v i => ∃ m : Nat, m ≤ 4 ∧ i = .int .i64 m ∧ v = .int .i64 (be (bs.drop T) m)) (fun _ i => 4 - (intOf i).toNat)
                      case atStart => exact ⟨0, Nat.zero_le _, rfl, rfl⟩
                      case round =>
                        obtain ⟨m, hm, rfl, rfl⟩ := hrel
                        have hbb := be_bd (bs.drop T) hD m (by omega)
                        by_cases hmx : m < 4
                        · have hbb3 := hbb.2.2 (by omega)
                          have hy := hD m
                          have hcb' := hcb m hmx
                          have HS : Hid (be (bs.drop T) (m + 1) = be (bs.drop T) m * 256 + (bs.drop T)[m]?.getD 0) := rfl
                          generalize hyy : (bs.drop T)[m]?.getD 0 = y at hy hcb' HS
                          generalize hBB : be (bs.drop T) m = B at hbb hbb3 HS
                          clear hcb hyy hD
                          go_wp2
                          go_round
                          case rel => exact ⟨m + 1, by omega, by go_num, by rw [HS.out]⟩
                          case measure => simp [intOf]; omega
                        · have hm' : m = 4 := by omega
                          subst hm'
                          generalize be (bs.drop T) 4 = B at hbb hcv
                          clear hcb hD
                          go_wp2
                          go_round
                          case rel => exact ⟨k + 1, T + 4, J + 1, by omega, by go_num, by go_num, by go_num, HT2.out, HJ2.out, by omega, hTx⟩
                          case measure => simp [intOf]; omega
                  · have HV : Hid (Ops.op1 x (bs.drop T) = []) := by show _ = _; simp only [Ops.op1]; rw [if_neg (by omega), if_neg (by omega), if_neg (by omega)]
                    have HJ2 : Hid (J = (Ops.ops (ws.take (k + 1)) bs).length) := by show _ = _; rw [Ops.ops_take_succ ws bs k hlt, ← hx, ← HT.out, HV.out, List.append_nil]; exact HJ.out
                    have p1 : (x == 1) = false := by simp; omega
                    have p2 : (x == 2) = false := by simp; omega
                    have p4 : (x == 4) = false := by simp; omega
                    obtain ⟨m, rfl⟩ := Int.eq_ofNat_of_zero_le hx0
                    clear hx hc0 HT HJ HV hcase hD
                    go_wp2
                    go_round
                    case rel => exact ⟨k + 1, T + m, J, by omega, by go_num, by go_num, by go_num, HT2.out, HJ2.out, by omega, by simpa using hTx⟩
                    case measure => simp [intOf]; omega
                · have hk' : k = ws.length := by omega
                  subst hk'
                  have e1 := HJ.out
                  rw [List.take_length, ← HN.out] at e1
                  subst e1
                  clear HT HJ HN
                  go_wp2
                  go_ret
                  exact ⟨by simp, hbel⟩
  · go_enter Edxg.func5, Edxg.ntmps5
    go_wp2_with (go_at_call 14; refine (zzb_no _ _ _ _ _ _ _ (by omega) m0 m1).mono ?_; rintro e w' ⟨rfl, rfl⟩)
    go_ret
    exact ⟨rfl, Below.refl _ _⟩

end Go.Proofs.Yoedxw
