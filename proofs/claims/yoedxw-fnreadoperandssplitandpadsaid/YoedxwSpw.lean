/- FnReadOperandsSplitAndPad: the walk. -/
import Derived.Test.YoedxwSp
import Derived.Deep.DeepCutAuto
namespace Go.Proofs.Yoedxw
open Go.RowKit

theorem eq_left {O A B : List Int} (h : O = A ++ B) {k : Nat} (hk : k < A.length) : ∃ y, O[k]? = some y ∧ A[k]? = some y :=
  ⟨A[k], by rw [h, List.getElem?_append_left hk, List.getElem?_eq_getElem hk], List.getElem?_eq_getElem hk⟩
theorem eq_right {O A B : List Int} (h : O = A ++ B) {k : Nat} (hk : k < B.length) : ∃ y, O[A.length + k]? = some y ∧ B[k]? = some y :=
  ⟨B[k], by rw [h, List.getElem?_append_right (by omega), Nat.add_sub_cancel_left, List.getElem?_eq_getElem hk], List.getElem?_eq_getElem hk⟩

set_option maxHeartbeats 6400000 in
set_option maxRecDepth 100000 in
theorem sp_any (a0 a2 a3 : Option Addr) (c0 c2 c3 : Nat) (cut : Int) (ws bs ps : List Int) (w : World) (h0 : RowAt .i64 w a0 ws) (h2 : RowAt .u8 w a2 bs) (h3 : RowAt .u8 w a3 ps)
    (n0 : a0 = none → ws = [] ∧ c0 = 0) (n2 : a2 = none → bs = [] ∧ c2 = 0) (n3 : a3 = none → ps = [] ∧ c3 = 0)
    (m0 : ws.length ≤ maxLen) (m2 : bs.length ≤ maxLen) (m3 : ps.length ≤ maxLen) (hb : ∀ x ∈ bs, 0 ≤ x ∧ x ≤ 255) (hp : ∀ x ∈ ps, 0 ≤ x ∧ x ≤ 255) :
    Calls Edxg.prog 6 #[.slice a0 ws.length c0, .int .i64 cut, .slice a2 bs.length c2, .slice a3 ps.length c3] w fun e w' => e = .returned (.bool true) ∧ Below w.heap.size w w' := by
  by_cases hs : ws.length + bs.length + ps.length ≤ 1048576
  · rcases (by omega : 131072 < ws.length ∨ (ws.length ≤ 131072 ∧ 1048576 < ws.length * 8 + bs.length + ps.length) ∨ (ws.length ≤ 131072 ∧ ws.length * 8 + bs.length + ps.length ≤ 1048576 ∧ cut < 0) ∨
      (ws.length ≤ 131072 ∧ ws.length * 8 + bs.length + ps.length ≤ 1048576 ∧ 0 ≤ cut ∧ (ws.length : Int) < cut) ∨ (ws.length ≤ 131072 ∧ ws.length * 8 + bs.length + ps.length ≤ 1048576 ∧ 0 ≤ cut ∧ cut ≤ (ws.length : Int))) with k1 | ⟨k1, k2⟩ | ⟨k1, k2, k3⟩ | ⟨k1, k2, k3, k4⟩ | ⟨k1, k2, k3, k4⟩
    · go_enter Edxg.func6, Edxg.ntmps6
      go_wp2_with (go_at_call 18; refine (zzs_yes _ _ _ _ _ _ _ _ _ _ _ hs).mono ?_; rintro e w' ⟨rfl, rfl⟩)
      go_ret
      exact ⟨rfl, Below.refl _ _⟩
    · go_enter Edxg.func6, Edxg.ntmps6
      go_wp2_with (go_at_call 18; refine (zzs_yes _ _ _ _ _ _ _ _ _ _ _ hs).mono ?_; rintro e w' ⟨rfl, rfl⟩)
      go_ret
      exact ⟨rfl, Below.refl _ _⟩
    · go_enter Edxg.func6, Edxg.ntmps6
      go_wp2_with (go_at_call 18; refine (zzs_yes _ _ _ _ _ _ _ _ _ _ _ hs).mono ?_; rintro e w' ⟨rfl, rfl⟩)
      go_ret
      exact ⟨rfl, Below.refl _ _⟩
    · go_enter Edxg.func6, Edxg.ntmps6
      go_wp2_with (go_at_call 18; refine (zzs_yes _ _ _ _ _ _ _ _ _ _ _ hs).mono ?_; rintro e w' ⟨rfl, rfl⟩)
      go_ret
      exact ⟨rfl, Below.refl _ _⟩
    · obtain ⟨c, rfl⟩ := Int.eq_ofNat_of_zero_le k3
      have hc : c ≤ ws.length := by omega
      go_enter Edxg.func6, Edxg.ntmps6
      go_wp2_with (go_at_call 18; refine (zzs_yes _ _ _ _ _ _ _ _ _ _ _ hs).mono ?_; rintro e w' ⟨rfl, rfl⟩)
      go_loop [9, 10] (fun t i => ∃ k T : Nat, k ≤ ws.length ∧ i = .int .i64 k ∧ t = .int .i64 T ∧ Hid (T = Ops.tot (ws.take k)) ∧ T ≤ k * 8 ∧ Hid (∀ x ∈ ws.take k, 0 ≤ x ∧ x ≤ 8)) (fun _ i => ws.length - (intOf i).toNat)
      case atStart => exact ⟨0, 0, Nat.zero_le _, rfl, rfl, rfl, Nat.zero_le _, by intro x hx; simp at hx⟩
      case round =>
        obtain ⟨k, T, hk, rfl, rfl, HT, hT8, HW⟩ := hrel
        by_cases hlt : k < ws.length
        · obtain ⟨x, hx⟩ : ∃ x, x = ws[k]?.getD 0 := ⟨_, rfl⟩
          rcases h0 with h | ⟨b0, o0, ha0, hb0, hc0⟩
          · subst h; simp at hlt
          subst ha0
          have hcx : w.cell? ⟨b0, o0 + k, none⟩ = some (.int .i64 x) := by rw [hx]; exact hc0 k hlt
          by_cases hx0 : x < 0
          · clear hx hc0
            go_wp2
            go_ret
            exact ⟨rfl, Below.refl _ _⟩
          · by_cases hx8 : 8 < x
            · clear hx hc0
              go_wp2
              go_ret
              exact ⟨rfl, Below.refl _ _⟩
            · have HT2 : Hid (T + x.toNat = Ops.tot (ws.take (k + 1))) := by show _ = _; rw [Ops.tot_take_succ ws k hlt, ← HT.out, ← hx]
              have HW2 : Hid (∀ x ∈ ws.take (k + 1), 0 ≤ x ∧ x ≤ 8) := by
                intro y hy
                rw [Ops.take_succ ws k hlt, ← hx] at hy
                rcases List.mem_append.1 hy with h | h
                · exact HW.out y h
                · have : y = x := by simpa using h
                  omega
              obtain ⟨m, rfl⟩ := Int.eq_ofNat_of_zero_le (by omega : 0 ≤ x)
              clear hx hc0
              go_wp2
              go_round
              case rel => exact ⟨k + 1, T + m, by omega, by go_num, by go_num, HT2.out, by omega, HW2⟩
              case measure => simp [intOf]; omega
        · have hk' : k = ws.length := by omega
          subst hk'
          have e1 := HT.out
          have hw := HW.out
          rw [List.take_length] at e1 hw
          clear HT HW
          by_cases hT : bs.length < T
          · go_wp2
            go_ret
            exact ⟨rfl, Below.refl _ _⟩
          · obtain ⟨T1, hT1⟩ : ∃ T1, Ops.tot (ws.take c) = T1 := ⟨_, rfl⟩
            obtain ⟨T2, hT2⟩ : ∃ T2, Ops.tot (ws.drop c) = T2 := ⟨_, rfl⟩
            obtain ⟨N1, hN1⟩ : ∃ N1, (Ops.ops (ws.take c) bs).length = N1 := ⟨_, rfl⟩
            obtain ⟨N2, hN2⟩ : ∃ N2, (Ops.ops (ws.drop c) (bs.drop T1)).length = N2 := ⟨_, rfl⟩
            have hTs : T = T1 + T2 := by rw [e1, ← hT1, ← hT2]; exact (Ops.tot_split ws c).symm
            subst hTs
            have HN : Hid ((Ops.ops ws bs).length = N1 + N2) := by show _ = _; rw [Ops.ops_split ws bs c, List.length_append, hT1, hN1, hN2]
            have HO : Hid (Ops.ops ws bs = Ops.ops (ws.take c) bs ++ Ops.ops (ws.drop c) (bs.drop T1)) := by show _ = _; rw [← hT1]; exact Ops.ops_split ws bs c
            have E1 : Hid (Ops.tot ws = T1 + T2) := e1.symm
            have ET1 : Hid (Ops.tot (ws.take c) = T1) := hT1
            have ET2 : Hid (Ops.tot (ws.drop c) = T2) := hT2
            have EN1 : Hid ((Ops.ops (ws.take c) bs).length = N1) := hN1
            have EN2 : Hid ((Ops.ops (ws.drop c) (bs.drop T1)).length = N2) := hN2
            have hN : N1 + N2 ≤ ws.length := by rw [← HN.out]; exact Ops.ops_length _ _
            have HWW : Hid (∀ x ∈ ws, 0 ≤ x ∧ x ≤ 8) := hw
            have HBB : Hid (∀ x ∈ bs, 0 ≤ x ∧ x ≤ 255) := hb
            have HPP : Hid (∀ x ∈ ps, 0 ≤ x ∧ x ≤ 255) := hp
            clear e1 hT1 hT2 hN1 hN2 hw hb hp
            go_wp2_with fail
            refine (cloneInts_any a0 c0 ws w h0 (by omega) n0).mono ?_
            rintro e w1 ⟨a0', rfl, hr0, hb1⟩
            go_wp2_with fail
            refine (cloneBytes_any a2 c2 bs w1 (h2.below hb1) (by omega) n2).mono ?_
            rintro e w2 ⟨a2', rfl, hr2, hb2⟩
            go_wp2_with fail
            refine (cloneBytes_any a3 c3 ps w2 ((h3.below hb1).below hb2) (by omega) n3).mono ?_
            rintro e w3 ⟨a3', rfl, hr3, hb3⟩
            have q0 := (hr0.below hb2).below hb3
            have q2 := hr2.below hb3
            have bel3 : Below w.heap.size w w3 := (hb1.trans (hb2.mono hb1.size)).trans (hb3.mono (Nat.le_trans hb1.size hb2.size))
            clear h0 h2 h3 n0 n2 n3 hr0 hr2 hb1 hb2 hb3
            go_wp2_with fail
            refine (readOps_len a0' _ ws a2' _ bs w3 _ _ rfl rfl q0 q2 HWW.out HBB.out (by rw [E1.out]; omega) (by omega) (by omega) (N1 + N2) (T1 + T2) HN.out E1.out).mono ?_
            rintro e w4 ⟨ao, co, rfl, hro, hb4⟩
            have q0' := q0.below hb4
            have q2' := q2.below hb4
            have q3' := hr3.below hb4
            have bel4 : Below w.heap.size w w4 := bel3.trans (hb4.mono bel3.size)
            clear q0 q2 hr3 hb4 bel3
            go_wp2_with fail
            refine (readOps_len a0' _ (ws.take c) a2' _ bs w4 c _ (by rw [List.length_take]; omega) rfl (q0'.take c) q2' (fun x hx => HWW.out x (List.mem_of_mem_take hx)) HBB.out (by rw [ET1.out]; omega) (by omega) (by omega) N1 T1 EN1.out ET1.out).mono ?_
            rintro e w5 ⟨ao1, co1, rfl, hro1, hb5⟩
            have r0 := q0'.below hb5
            have r2 := q2'.below hb5
            have r3 := q3'.below hb5
            have ro := hro.below hb5
            have bel5 : Below w.heap.size w w5 := bel4.trans (hb5.mono bel4.size)
            clear q0' q2' q3' hro hb5 bel4
            have i1 : (0 : Int) ≤ (T1 : Int) := by omega
            have i2 : (T1 : Int) ≤ (bs.length : Int) := by omega
            have d0 := r0.drop c ws.length (Nat.le_refl _)
            have d2 := r2.drop T1 bs.length (Nat.le_refl _)
            go_upto_region 23 with fail
            go_cut [15, 16] (fun v o wx => ∃ a cap, v = .slice a N2 cap ∧ o = .int .i64 T2 ∧ RowAt .i64 wx a (Ops.ops (ws.drop c) (bs.drop T1)) ∧ Below w5.heap.size w5 wx)
            case first =>
              by_cases ec : ws.length = c
              · by_cases et : bs.length = T1
                · rw [if_pos ec] at d0
                  rw [if_pos et] at d2
                  have HD0 : Hid (RowAt .i64 w5.drew a0' (ws.drop c)) := d0.below (Below.refl _ _).drew
                  have HD2 : Hid (RowAt .u8 w5.drew a2' (bs.drop T1)) := d2.below (Below.refl _ _).drew
                  clear d0 d2 r0 r2 r3 ro hro1 bel5
                  subst ec
                  subst et
                  go_region_held3 (fun _ => True) (exact trivial) ((go_at_call 17; refine (readOps_len _ _ (ws.drop ws.length) _ _ (bs.drop bs.length) w5.drew 0 0 (by simp) (by simp) HD0.out HD2.out (fun x hx => HWW.out x (List.mem_of_mem_drop hx)) (fun x hx => HBB.out x (List.mem_of_mem_drop hx)) (by rw [ET2.out]; omega) (by omega) (by omega) N2 T2 EN2.out ET2.out).mono ?_; rintro e w6 ⟨ao2, co2, rfl, hro2, hb6⟩))
                  go_wp2_with fail
                  go_meet
                  exact ⟨ao2, co2, rfl, rfl, hro2, (Below.refl _ _).drew.trans hb6⟩
                · rw [if_pos ec] at d0
                  rw [if_neg et] at d2
                  have HD0 : Hid (RowAt .i64 w5.drew a0' (ws.drop c)) := d0.below (Below.refl _ _).drew
                  have HD2 : Hid (RowAt .u8 w5.drew (a2'.map (·.add T1)) (bs.drop T1)) := d2.below (Below.refl _ _).drew
                  clear d0 d2 r0 r2 r3 ro hro1 bel5
                  subst ec
                  go_region_held3 (fun _ => True) (exact trivial) ((go_at_call 17; refine (readOps_len _ _ (ws.drop ws.length) _ _ (bs.drop T1) w5.drew 0 (bs.length - T1) (by simp) (by simp) HD0.out HD2.out (fun x hx => HWW.out x (List.mem_of_mem_drop hx)) (fun x hx => HBB.out x (List.mem_of_mem_drop hx)) (by rw [ET2.out]; omega) (by omega) (by omega) N2 T2 EN2.out ET2.out).mono ?_; rintro e w6 ⟨ao2, co2, rfl, hro2, hb6⟩))
                  go_wp2_with fail
                  go_meet
                  exact ⟨ao2, co2, rfl, rfl, hro2, (Below.refl _ _).drew.trans hb6⟩
              · by_cases et : bs.length = T1
                · rw [if_neg ec] at d0
                  rw [if_pos et] at d2
                  have HD0 : Hid (RowAt .i64 w5.drew (a0'.map (·.add c)) (ws.drop c)) := d0.below (Below.refl _ _).drew
                  have HD2 : Hid (RowAt .u8 w5.drew a2' (bs.drop T1)) := d2.below (Below.refl _ _).drew
                  clear d0 d2 r0 r2 r3 ro hro1 bel5
                  subst et
                  go_region_held3 (fun _ => True) (exact trivial) ((go_at_call 17; refine (readOps_len _ _ (ws.drop c) _ _ (bs.drop bs.length) w5.drew (ws.length - c) 0 (by simp) (by simp) HD0.out HD2.out (fun x hx => HWW.out x (List.mem_of_mem_drop hx)) (fun x hx => HBB.out x (List.mem_of_mem_drop hx)) (by rw [ET2.out]; omega) (by omega) (by omega) N2 T2 EN2.out ET2.out).mono ?_; rintro e w6 ⟨ao2, co2, rfl, hro2, hb6⟩))
                  go_wp2_with fail
                  go_meet
                  exact ⟨ao2, co2, rfl, rfl, hro2, (Below.refl _ _).drew.trans hb6⟩
                · rw [if_neg ec] at d0
                  rw [if_neg et] at d2
                  have HD0 : Hid (RowAt .i64 w5.drew (a0'.map (·.add c)) (ws.drop c)) := d0.below (Below.refl _ _).drew
                  have HD2 : Hid (RowAt .u8 w5.drew (a2'.map (·.add T1)) (bs.drop T1)) := d2.below (Below.refl _ _).drew
                  clear d0 d2 r0 r2 r3 ro hro1 bel5
                  go_region_held3 (fun _ => True) (exact trivial) ((go_at_call 17; refine (readOps_len _ _ (ws.drop c) _ _ (bs.drop T1) w5.drew (ws.length - c) (bs.length - T1) (by simp) (by simp) HD0.out HD2.out (fun x hx => HWW.out x (List.mem_of_mem_drop hx)) (fun x hx => HBB.out x (List.mem_of_mem_drop hx)) (by rw [ET2.out]; omega) (by omega) (by omega) N2 T2 EN2.out ET2.out).mono ?_; rintro e w6 ⟨ao2, co2, rfl, hro2, hb6⟩))
                  go_wp2_with fail
                  go_meet
                  exact ⟨ao2, co2, rfl, rfl, hro2, (Below.refl _ _).drew.trans hb6⟩
            case rest =>
              obtain ⟨ao2, co2, rfl, rfl, ro2, hb6⟩ := hcut
              have s0 := r0.below hb6
              have s2 := r2.below hb6
              have s3 := r3.below hb6
              have so := ro.below hb6
              have so1 := hro1.below hb6
              have bel6 : Below w.heap.size w wc := bel5.trans (hb6.mono bel5.size)
              clear d0 d2 r0 r2 r3 ro hro1 bel5 hb6
              go_wp2_with fail
              go_loopw [17] (fun i wr => ∃ k : Nat, k ≤ N1 ∧ i = .int .i64 k ∧ Below wc.heap.size wc wr) (fun i _ => N1 - (intOf i).toNat)
              case atStart => exact ⟨0, Nat.zero_le _, rfl, Below.refl _ _⟩
              case round =>
                obtain ⟨k, hk, rfl, hbel⟩ := hrel
                by_cases hlt : k < N1
                · obtain ⟨y, hy1, hy2⟩ := eq_left HO.out (k := k) (by rw [EN1.out]; exact hlt)
                  rcases so with h | ⟨bo, oo, hao, hbo, hco⟩
                  · rw [h] at hy1; cases hy1
                  subst hao
                  rcases so1 with h | ⟨bo1, oo1, hao1, hbo1, hco1⟩
                  · rw [h] at hy2; cases hy2
                  subst hao1
                  have g0 : wr.cell? ⟨bo, oo + k, none⟩ = some (.int .i64 y) := by rw [hbel.cell (p := ⟨bo, oo + k, none⟩) hbo, hco k (by rw [HN.out]; omega), hy1]; rfl
                  have g1 : wr.cell? ⟨bo1, oo1 + k, none⟩ = some (.int .i64 y) := by rw [hbel.cell (p := ⟨bo1, oo1 + k, none⟩) hbo1, hco1 k (by rw [EN1.out]; omega), hy2]; rfl
                  have j0 : (0 : Int) ≤ (k : Int) := by omega
                  have j1 : (k : Int) < (N1 : Int) := by omega
                  have j2 : (k : Int) < (N1 : Int) + (N2 : Int) := by omega
                  clear hco hco1 hy1 hy2
                  go_wp2_with fail
                  go_quiet (fail)
                  go_wp2
                  go_roundw
                  case rel => exact ⟨k + 1, by omega, by go_num, below_drewN hbel _⟩
                  case measure => simp [intOf]; omega
                · have s0' := s0.below hbel
                  have s2' := s2.below hbel
                  have s3' := s3.below hbel
                  have so' := so.below hbel
                  have ro2' := ro2.below hbel
                  have bel7 : Below w.heap.size w wr := bel6.trans (hbel.mono bel6.size)
                  clear s0 s2 s3 so so1 ro2 bel6
                  go_wp2_with fail
                  go_loopw [18] (fun i wq => ∃ k : Nat, k ≤ N2 ∧ i = .int .i64 k ∧ Below wr.heap.size wr wq) (fun i _ => N2 - (intOf i).toNat)
                  case atStart => exact ⟨0, Nat.zero_le _, rfl, Below.refl _ _⟩
                  case round =>
                    obtain ⟨k2, hk2, rfl, hbel2⟩ := hrel
                    by_cases hlt2 : k2 < N2
                    · obtain ⟨y, hy1, hy2⟩ := eq_right HO.out (k := k2) (by rw [EN2.out]; exact hlt2)
                      rw [EN1.out] at hy1
                      rcases so' with h | ⟨bo, oo, hao, hbo, hco⟩
                      · rw [h] at hy1; cases hy1
                      subst hao
                      rcases ro2' with h | ⟨bo1, oo1, hao1, hbo1, hco1⟩
                      · rw [h] at hy2; cases hy2
                      subst hao1
                      have g0 : wr.cell? ⟨bo, oo + (N1 + k2), none⟩ = some (.int .i64 y) := by rw [hbel2.cell (p := ⟨bo, oo + (N1 + k2), none⟩) hbo, hco (N1 + k2) (by rw [HN.out]; omega), hy1]; rfl
                      have g1 : wr.cell? ⟨bo1, oo1 + k2, none⟩ = some (.int .i64 y) := by rw [hbel2.cell (p := ⟨bo1, oo1 + k2, none⟩) hbo1, hco1 k2 (by rw [EN2.out]; omega), hy2]; rfl
                      have j0 : (0 : Int) ≤ (k2 : Int) := by omega
                      have j1 : (k2 : Int) < (N2 : Int) := by omega
                      have j2 : (N1 : Int) + (k2 : Int) < (N1 : Int) + (N2 : Int) := by omega
                      have j3 : (0 : Int) ≤ (N1 : Int) + (k2 : Int) := by omega
                      clear hco hco1 hy1 hy2 s0' s2' s3' bel7
                      go_wp2_with fail
                      go_quiet (fail)
                      go_wp2
                      go_roundw
                      case rel => exact ⟨k2 + 1, by omega, by go_num, below_drewN hbel2 _⟩
                      case measure => simp [intOf]; omega
                    · have t0 := s0'.below hbel2
                      have t2 := s2'.below hbel2
                      have t3 := s3'.below hbel2
                      have tO := so'.below hbel2
                      have bel8 : Below w.heap.size w wr := bel7.trans (hbel2.mono bel7.size)
                      clear s0' s2' s3' so' ro2' bel7 hbel hbel2
                      obtain ⟨i5, hi5, hz50, hz51, hz52⟩ := info_parts Edxg.info5
                      go_wp2_with (at_make; refine wpList_make_own _ rfl _ _ 42 rfl wr.heap.size 5 i5 (.int .u8 0) 1 Edxg.underlying42 hi5 hz50 hz51 _ _ _ (bs.length + ps.length) rfl rfl (by omega) ?b2 ?b3 (Nat.le_refl _) ?_)
                      case b2 => rw [hz52]; omega
                      case b3 => unfold maxLen; omega
                      intro w7 hown7 hgrow7
                      have bel9 : Below wr.heap.size wr w7 := (Below.refl _ _).grown hgrow7 (Nat.le_refl _) (fun k h => by cases h)
                      have v2 := t2.below bel9
                      go_wp2_with (at_builtin; refine wpList_append_fits_any _ rfl (.tmp 171) (.tmp 172) 42 rfl wr.heap.size 5 i5 1 Edxg.underlying42 hi5 hz51 wr.heap.size 0 (bs.length + ps.length) [] rfl hown7 a2' bs.length bs.length (bs.map (Value.int .u8)) rfl (by simp) v2.none_len v2.news (ints_oneCell _ _) (by omega) ?_)
                      intro w8 hown8 hgrow8
                      try simp only [Nat.zero_add, List.nil_append] at hown8
                      have bel10 : Below wr.heap.size wr w8 := bel9.grown hgrow8 bel9.size (fun k h => by cases h; exact Nat.le_refl _)
                      have v3 := t3.below bel10
                      clear v2 hown7 hgrow7 bel9 hgrow8
                      go_wp2_with (at_builtin; refine wpList_append_fits_any _ rfl (.tmp 174) (.tmp 175) 42 rfl wr.heap.size 5 i5 1 Edxg.underlying42 hi5 hz51 wr.heap.size bs.length (bs.length + ps.length) _ rfl hown8 a3' ps.length ps.length (ps.map (Value.int .u8)) rfl (by simp) v3.none_len v3.news (ints_oneCell _ _) (by omega) ?_)
                      intro w9 hown9 hgrow9
                      have bel11 : Below wr.heap.size wr w9 := bel10.grown hgrow9 bel10.size (fun k h => by cases h; exact Nat.le_refl _)
                      rw [← List.map_append] at hown9
                      have x9 := (rowAt_of_owns hown9).2
                      have x0 := t0.below bel11
                      have xo := tO.below bel11
                      have bel12 : Below w.heap.size w w9 := bel8.trans (bel11.mono bel8.size)
                      clear v3 hown8 hown9 hgrow9 bel10 bel11 t0 t2 t3 tO bel8 hi5 hz50 hz51 hz52
                      go_wp2_with fail
                      refine (readOps_len a0' _ ws _ _ (bs ++ ps) w9 _ _ rfl (by rw [List.length_append]) x0 x9 HWW.out (fun x hx => (List.mem_append.1 hx).elim (HBB.out x) (HPP.out x)) (by rw [E1.out]; omega) (by omega) (by omega) (N1 + N2) (T1 + T2) (by rw [Ops.ops_pad ws bs ps (by rw [E1.out]; omega)]; exact HN.out) E1.out).mono ?_
                      rintro e w10 ⟨ao3, co3, rfl, hro3, hb10⟩
                      rw [Ops.ops_pad ws bs ps (by rw [E1.out]; omega)] at hro3
                      have yo := xo.below hb10
                      have bel13 : Below w.heap.size w w10 := bel12.trans (hb10.mono bel12.size)
                      clear x0 x9 xo bel12 hb10
                      go_wp2_with fail
                      refine (same_yes ao3 ao co3 co (Ops.ops ws bs) (N1 + N2) HN.out w10 hro3 yo (by omega)).mono ?_
                      rintro e w11 ⟨rfl, hb11⟩
                      have bel14 : Below w.heap.size w w11 := bel13.trans (hb11.mono bel13.size)
                      clear hro3 yo bel13 hb11
                      go_wp2
                      go_ret
                      exact ⟨rfl, bel14⟩

  · go_enter Edxg.func6, Edxg.ntmps6
    go_wp2_with (go_at_call 18; refine (zzs_no _ _ _ _ _ _ _ _ _ _ _ (by omega) m0 m2 m3).mono ?_; rintro e w' ⟨rfl, rfl⟩)
    go_ret
    exact ⟨rfl, Below.refl _ _⟩

end Go.Proofs.Yoedxw
