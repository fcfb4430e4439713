/- parser.ReadOperands: by its contract. -/
import Derived.Test.YoedxwSl
import Derived.Deep.RegionHeld3
import Derived.Deep.AppendLies
import Derived.Lib.EndianBits
namespace Go.Proofs.Yoedxw
open Go.RowKit

theorem wraps_i64 (n : Int) (h₀ : 0 ≤ n) (h₁ : n < 2 ^ 32) : IntKind.i64.wrap n = n := by
  simp [IntKind.wrap, IntKind.bits, IntKind.signed]; omega
theorem i64_or8 (y x : Int) (hy₀ : 0 ≤ y) (hy : y < 256) (hx₀ : 0 ≤ x) (hx : x % 256 = 0) (hx₁ : x < 4294967296) : bits .or .i64 y x = y + x :=
  bits_join_low .i64 32 (by decide) wraps_i64 8 y x hy₀ hy (by omega) hx₀ hx hx₁
theorem i64_or16 (y x : Int) (hy₀ : 0 ≤ y) (hy : y < 65536) (hx₀ : 0 ≤ x) (hx : x % 65536 = 0) (hx₁ : x < 4294967296) : bits .or .i64 y x = y + x :=
  bits_join_low .i64 32 (by decide) wraps_i64 16 y x hy₀ hy (by omega) hx₀ hx hx₁
theorem i64_or24 (y x : Int) (hy₀ : 0 ≤ y) (hy : y < 16777216) (hx₀ : 0 ≤ x) (hx : x % 16777216 = 0) (hx₁ : x < 4294967296) : bits .or .i64 y x = y + x :=
  bits_join_low .i64 32 (by decide) wraps_i64 24 y x hy₀ hy (by omega) hx₀ hx hx₁

theorem word2 (y0 y1 : Int) (a0 : 0 ≤ y0) (b0 : y0 ≤ 255) (a1 : 0 ≤ y1) (b1 : y1 ≤ 255) :
    bits .or .i64 (IntKind.i64.wrap y1) (IntKind.i64.wrap (IntKind.i64.wrap y0 * 256)) = y0 * 256 + y1 := by
  rw [wraps_i64 y1 a1 (by omega), wraps_i64 y0 a0 (by omega), wraps_i64 (y0 * 256) (by omega) (by omega), i64_or8 _ _ (by omega) (by omega) (by omega) (by omega) (by omega)]
  omega
theorem word4 (y0 y1 y2 y3 : Int) (a0 : 0 ≤ y0) (b0 : y0 ≤ 255) (a1 : 0 ≤ y1) (b1 : y1 ≤ 255) (a2 : 0 ≤ y2) (b2 : y2 ≤ 255) (a3 : 0 ≤ y3) (b3 : y3 ≤ 255) :
    bits .or .i64 (bits .or .i64 (bits .or .i64 (IntKind.i64.wrap y3) (IntKind.i64.wrap (IntKind.i64.wrap y2 * 256))) (IntKind.i64.wrap (IntKind.i64.wrap y1 * 65536))) (IntKind.i64.wrap (IntKind.i64.wrap y0 * 16777216)) = ((y0 * 256 + y1) * 256 + y2) * 256 + y3 := by
  rw [wraps_i64 y3 a3 (by omega), wraps_i64 y2 a2 (by omega), wraps_i64 y1 a1 (by omega), wraps_i64 y0 a0 (by omega), wraps_i64 (y2 * 256) (by omega) (by omega), wraps_i64 (y1 * 65536) (by omega) (by omega), wraps_i64 (y0 * 16777216) (by omega) (by omega),
    i64_or8 y3 (y2 * 256) (by omega) (by omega) (by omega) (by omega) (by omega), i64_or16 (y3 + y2 * 256) (y1 * 65536) (by omega) (by omega) (by omega) (by omega) (by omega), i64_or24 (y3 + y2 * 256 + y1 * 65536) (y0 * 16777216) (by omega) (by omega) (by omega) (by omega) (by omega)]
  omega

/-- A value that owns integers, as a slice with its row. -/
theorem form_of_owns {w : World} {base e n : Nat} {v : Value} {ys : List Int} (h : w.ownsRow base e 1 v n (ys.map (Value.int .i64))) : ∃ a cap, v = .slice a ys.length cap ∧ RowAt .i64 w a ys := by
  have hl : ys.length = n := by have := h.1; simpa using this
  rcases h.2 with ⟨hv, h0⟩ | ⟨g, cap, cur, hv, r⟩
  · refine ⟨none, 0, ?_, .inl (List.eq_nil_of_length_eq_zero (by omega))⟩
    rw [hv, hl, h0]
  · refine ⟨some ⟨g, 0, none⟩, cap, by rw [hv, hl], ?_⟩
    rw [hv] at h
    exact (rowAt_of_owns h).2

/-- What is owned lies from 'base' on. -/
theorem own_ge {w : World} {base e size n : Nat} {v : Value} {xs : List Value} (h : w.ownsRow base e size v n xs) : ∀ k, v.ownBlock = some k → base ≤ k := by
  intro k hk
  rcases h.2 with ⟨rfl, _⟩ | ⟨g, cap, cur, rfl, hb, _⟩
  · cases hk
  · have : g = k := by simpa [Value.ownBlock] using hk
    omega

set_option maxHeartbeats 3200000 in
set_option maxRecDepth 100000 in
theorem readOps_any (a1 : Option Addr) (c1 : Nat) (ws : List Int) (a2 : Option Addr) (c2 : Nat) (bs : List Int) (w : World) (h1 : RowAt .i64 w a1 ws) (h2 : RowAt .u8 w a2 bs)
    (hw : ∀ x ∈ ws, 0 ≤ x ∧ x ≤ 8) (hb : ∀ x ∈ bs, 0 ≤ x ∧ x ≤ 255) (htot : Ops.tot ws ≤ bs.length) (hl1 : ws.length ≤ 1048576) (hl2 : bs.length ≤ 2097152) :
    Calls Edxg.prog 17 #[.slice a1 ws.length c1, .slice a2 bs.length c2] w fun e w' =>
      ∃ a cap, e = .returned (.tuple #[.slice a (Ops.ops ws bs).length cap, .int .i64 (Ops.tot ws)]) ∧ RowAt .i64 w' a (Ops.ops ws bs) ∧ Below w.heap.size w w' := by
  obtain ⟨i0, hi, hz0, hz1, hz2⟩ := info_parts Edxg.info3
  go_enter Edxg.func17, Edxg.ntmps17
  go_wp2
  go_loopw [4, 5, 10] (fun v o i wr => ∃ (k T : Nat) (O : List Int), k ≤ ws.length ∧ i = .int .i64 k ∧ o = .int .i64 T ∧ Hid (T = Ops.tot (ws.take k)) ∧ Hid (O = Ops.ops (ws.take k) bs) ∧
      wr.ownsRow w.heap.size 3 1 v O.length (O.map (Value.int .i64)) ∧ O.length ≤ k ∧ T ≤ bs.length ∧ Below w.heap.size w wr)
    (fun _ _ i _ => ws.length - (intOf i).toNat)
  case atStart => exact ⟨0, 0, [], Nat.zero_le _, rfl, rfl, rfl, rfl, World.ownsRow_nil _ _ _ _, Nat.zero_le _, Nat.zero_le _, Below.refl _ _⟩
  case round =>
    obtain ⟨k, T, O, hk, rfl, rfl, HT, HO, hown, hOk, hTb, hbel⟩ := hrel
    by_cases hlt : k < ws.length
    · obtain ⟨x, hx⟩ : ∃ x, x = ws[k]?.getD 0 := ⟨_, rfl⟩
      have hxm : x ∈ ws := by rw [hx]; simp [hlt]
      have hx0 : 0 ≤ x := (hw x hxm).1
      have hx8 : x ≤ 8 := (hw x hxm).2
      have hTx : T + x.toNat ≤ bs.length := by have := Ops.tot_take_add ws k hlt; rw [← HT.out, ← hx] at this; omega
      have HT' : Hid (T + x.toNat = Ops.tot (ws.take (k + 1))) := by show _ = _; rw [Ops.tot_take_succ ws k hlt, ← HT.out, ← hx]
      have HO' : Hid (O ++ Ops.op1 x (bs.drop T) = Ops.ops (ws.take (k + 1)) bs) := by show _ = _; rw [Ops.ops_take_succ ws bs k hlt, ← HT.out, ← HO.out, ← hx]
      rcases h1 with h | ⟨b1, o1, ha1, hb1, hc1⟩
      · subst h; simp at hlt
      subst ha1
      have hcx : wr.cell? ⟨b1, o1 + k, none⟩ = some (.int .i64 x) := by rw [hx]; exact (hbel.cell (p := ⟨b1, o1 + k, none⟩) hb1).trans (hc1 k hlt)
      clear hx hc1 hxm hw HT HO
      have hby : ∀ j, j < bs.length → ∃ y, bs[j]? = some y ∧ 0 ≤ y ∧ y ≤ 255 := fun j hj => ⟨bs[j], by simp [hj], hb _ (List.getElem_mem hj)⟩
      have hsz := hbel.size
      by_cases hcase : x = 1 ∨ x = 2 ∨ x = 4
      · rcases h2 with h | ⟨b2, o2, ha2, hb2, hc2⟩
        · subst h; simp at hTx; omega
        subst ha2
        have hbc : ∀ j y, bs[j]? = some y → wr.cell? ⟨b2, o2 + j, none⟩ = some (.int .u8 y) := fun j y hy => by
          have hj : j < bs.length := by
            rcases Nat.lt_or_ge j bs.length with h | h
            · exact h
            · rw [List.getElem?_eq_none h] at hy; cases hy
          rw [(hbel.cell (p := ⟨b2, o2 + j, none⟩) hb2), hc2 j hj, hy]; rfl
        clear hc2 hb
        rcases hcase with rfl | rfl | rfl
        · obtain ⟨y0, hy0, y0a, y0b⟩ := hby T (by omega)
          have hd0 := hbc T y0 hy0
          have HV : Hid (Ops.op1 1 (bs.drop T) = [y0]) := by show _ = _; simp [Ops.op1, hy0]
          clear hby hbc hy0
          go_wp2_with (at_builtin; refine wpList_append_own _ rfl _ _ 41 rfl w.heap.size 3 i0 (.int .i64 0) 1 8 Edxg.underlying41 hi hz0 hz1 hz2 rfl (by decide) _ _ _ rfl (hown.alloc _) ⟨wr.heap.size, 0, none⟩ 1 1 [.int .i64 y0] rfl rfl (cell_one_new _ _ _) (by intro u hu; simp at hu; subst hu; rfl) (by unfold maxLen; omega) (by omega) (by simp; omega) ?_)
          intro v' w1 hown' hgrow _
          have R1 : w1.ownsRow w.heap.size 3 1 v' (O ++ [y0]).length ((O ++ [y0]).map (Value.int .i64)) := by simpa using hown'
          have R2 := (hbel.alloc hbel.size _).grown hgrow (by simp; omega) (own_ge hown)
          clear hown' hgrow hown hd0 hcx hbel
          go_wp2
          go_roundw
          case rel => exact ⟨k + 1, T + 1, O ++ [y0], by omega, by go_num, by go_num, HT'.out, (by rw [HV.out] at HO'; exact HO'), R1, by simp; omega, hTx, R2⟩
          case measure => simp [intOf]; omega
        · obtain ⟨y0, hy0, y0a, y0b⟩ := hby T (by omega)
          obtain ⟨y1, hy1, y1a, y1b⟩ := hby (T + 1) (by omega)
          have hd0 := hbc T y0 hy0
          have hd1 := hbc (T + 1) y1 hy1
          have HV : Hid (Ops.op1 2 (bs.drop T) = [y0 * 256 + y1]) := by show _ = _; simp [Ops.op1, hy0, hy1]
          have hne : u4.ownBlock ≠ some b2 := fun e => by have := own_ge hown _ e; omega
          have g0 : (0 : Int) ≤ (T : Int) := by omega
          have g1 : (T : Int) + 1 < (bs.length : Int) := by have : (2 : Int).toNat = 2 := rfl; omega
          have g2 : (T : Int) < (bs.length : Int) := by omega
          have g3 : (0 : Int) ≤ (T : Int) + 1 := by omega
          have e1 : IntKind.i64.wrap ((T : Int) + 1) = (T : Int) + 1 := wraps_i64 _ (by omega) (by omega)
          have e2 : ((T : Int) + 1).toNat = T + 1 := by omega
          clear hby hbc hy0 hy1
          go_wp2_with fail
          go_region_held3 (fun w' => w'.cell? ⟨b2, o2 + T, none⟩ = some (.int .u8 y0) ∧ w'.cell? ⟨b2, o2 + (T + 1), none⟩ = some (.int .u8 y1))
            (first
              | go_keep
              | (go_split_ands
                 refine ⟨?_, ?_⟩
                 · (rw [hgrow.cell_far _ (by simp; omega) (Ne.symm hne)]; assumption)
                 · (rw [hgrow.cell_far _ (by simp; omega) (Ne.symm hne)]; assumption)))
            ((refine step_append_lies _ (by rfl) _ _ _ (by rfl) w.heap.size 3 i0 _ 1 8 Edxg.underlying41 hi hz0 hz1 hz2 rfl (by omega) u4 O.length _ (by rfl) ((hown.alloc _).drew)
                ⟨wr.heap.size, 0, none⟩ 1 1 [.int .i64 _] (by rfl) (by rfl) (World.news_of_block (cs := #[.int .i64 _]) (t := 3) (fr := (0, 0)) (heap_alloc_new wr _)) (by simp [Value.oneCell'])
                (by omega) (by unfold maxLen; omega) (by omega) (by simp; omega) (wr.heap.size + 1) (by simp) ?_; intro gg cap w1 hown1 hgrow hat hltg))
          rw [word2 y0 y1 y0a y0b y1a y1b] at hown1
          have R1 : w1.ownsRow w.heap.size 3 1 (.slice (some ⟨gg, 0, none⟩) (O.length + 1) cap) (O ++ [y0 * 256 + y1]).length ((O ++ [y0 * 256 + y1]).map (Value.int .i64)) := by simpa using hown1
          have R2 := (hbel.alloc hbel.size _).drew.grown hgrow (by simp; omega) (own_ge hown)
          clear hown1 hgrow hown hd0 hd1 hcx hbel e1 e2 hat
          go_wp2
          go_roundw
          case rel => exact ⟨k + 1, T + 2, O ++ [y0 * 256 + y1], by omega, by go_num, by go_num, HT'.out, (by rw [HV.out] at HO'; exact HO'), R1, by simp; omega, hTx, R2⟩
          case measure => simp [intOf]; omega
        · obtain ⟨y0, hy0, y0a, y0b⟩ := hby T (by omega)
          obtain ⟨y1, hy1, y1a, y1b⟩ := hby (T + 1) (by omega)
          obtain ⟨y2, hy2, y2a, y2b⟩ := hby (T + 2) (by omega)
          obtain ⟨y3, hy3, y3a, y3b⟩ := hby (T + 3) (by omega)
          have hd0 := hbc T y0 hy0
          have hd1 := hbc (T + 1) y1 hy1
          have hd2 := hbc (T + 2) y2 hy2
          have hd3 := hbc (T + 3) y3 hy3
          have HV : Hid (Ops.op1 4 (bs.drop T) = [((y0 * 256 + y1) * 256 + y2) * 256 + y3]) := by show _ = _; simp [Ops.op1, hy0, hy1, hy2, hy3]
          have hne : u4.ownBlock ≠ some b2 := fun e => by have := own_ge hown _ e; omega
          have g0 : (0 : Int) ≤ (T : Int) := by omega
          have g3 : (T : Int) + 3 < (bs.length : Int) := by have : (4 : Int).toNat = 4 := rfl; omega
          have g1 : (T : Int) + 1 < (bs.length : Int) := by omega
          have g2 : (T : Int) + 2 < (bs.length : Int) := by omega
          have g4 : (T : Int) < (bs.length : Int) := by omega
          have f1 : (0 : Int) ≤ (T : Int) + 1 := by omega
          have f2 : (0 : Int) ≤ (T : Int) + 2 := by omega
          have f3 : (0 : Int) ≤ (T : Int) + 3 := by omega
          have e1 : IntKind.i64.wrap ((T : Int) + 1) = (T : Int) + 1 := wraps_i64 _ (by omega) (by omega)
          have e2 : ((T : Int) + 1).toNat = T + 1 := by omega
          have e3 : IntKind.i64.wrap ((T : Int) + 2) = (T : Int) + 2 := wraps_i64 _ (by omega) (by omega)
          have e4 : ((T : Int) + 2).toNat = T + 2 := by omega
          have e5 : IntKind.i64.wrap ((T : Int) + 3) = (T : Int) + 3 := wraps_i64 _ (by omega) (by omega)
          have e6 : ((T : Int) + 3).toNat = T + 3 := by omega
          clear hby hbc hy0 hy1 hy2 hy3
          go_wp2_with fail
          go_region_held3 (fun w' => w'.cell? ⟨b2, o2 + T, none⟩ = some (.int .u8 y0) ∧ w'.cell? ⟨b2, o2 + (T + 1), none⟩ = some (.int .u8 y1) ∧ w'.cell? ⟨b2, o2 + (T + 2), none⟩ = some (.int .u8 y2) ∧ w'.cell? ⟨b2, o2 + (T + 3), none⟩ = some (.int .u8 y3))
            (first
              | go_keep
              | (go_split_ands
                 refine ⟨?_, ?_, ?_, ?_⟩
                 · (rw [hgrow.cell_far _ (by simp; omega) (Ne.symm hne)]; assumption)
                 · (rw [hgrow.cell_far _ (by simp; omega) (Ne.symm hne)]; assumption)
                 · (rw [hgrow.cell_far _ (by simp; omega) (Ne.symm hne)]; assumption)
                 · (rw [hgrow.cell_far _ (by simp; omega) (Ne.symm hne)]; assumption)))
            ((refine step_append_lies _ (by rfl) _ _ _ (by rfl) w.heap.size 3 i0 _ 1 8 Edxg.underlying41 hi hz0 hz1 hz2 rfl (by omega) u4 O.length _ (by rfl) ((hown.alloc _).drew)
                ⟨wr.heap.size, 0, none⟩ 1 1 [.int .i64 _] (by rfl) (by rfl) (World.news_of_block (cs := #[.int .i64 _]) (t := 3) (fr := (0, 0)) (heap_alloc_new wr _)) (by simp [Value.oneCell'])
                (by omega) (by unfold maxLen; omega) (by omega) (by simp; omega) (wr.heap.size + 1) (by simp) ?_; intro gg cap w1 hown1 hgrow hat hltg))
          rw [word4 y0 y1 y2 y3 y0a y0b y1a y1b y2a y2b y3a y3b] at hown1
          have R1 : w1.ownsRow w.heap.size 3 1 (.slice (some ⟨gg, 0, none⟩) (O.length + 1) cap) (O ++ [((y0 * 256 + y1) * 256 + y2) * 256 + y3]).length ((O ++ [((y0 * 256 + y1) * 256 + y2) * 256 + y3]).map (Value.int .i64)) := by simpa using hown1
          have R2 := (hbel.alloc hbel.size _).drew.grown hgrow (by simp; omega) (own_ge hown)
          clear hown1 hgrow hown hd0 hd1 hd2 hd3 hcx hbel e1 e2 e3 e4 e5 e6 hat
          go_wp2
          go_roundw
          case rel => exact ⟨k + 1, T + 4, O ++ [((y0 * 256 + y1) * 256 + y2) * 256 + y3], by omega, by go_num, by go_num, HT'.out, (by rw [HV.out] at HO'; exact HO'), R1, by simp; omega, hTx, R2⟩
          case measure => simp [intOf]; omega
      · have n1 : (x == 1) = false := by simp; omega
        have n2 : (x == 2) = false := by simp; omega
        have n4 : (x == 4) = false := by simp; omega
        have HV : Hid (Ops.op1 x (bs.drop T) = []) := by show _ = _; simp only [Ops.op1]; rw [if_neg (by omega), if_neg (by omega), if_neg (by omega)]
        have HO2 : Hid (O = Ops.ops (ws.take (k + 1)) bs) := by rw [HV.out, List.append_nil] at HO'; exact HO'
        have HT2 : Hid ((T + x.toNat : Nat) = Ops.tot (ws.take (k + 1))) := HT'
        obtain ⟨m, rfl⟩ := Int.eq_ofNat_of_zero_le hx0
        clear hcase hby HV HO' HT'
        go_wp2
        go_roundw
        case rel => exact ⟨k + 1, T + m, O, by omega, by go_num, by go_num, HT2.out, HO2, hown, by omega, by simpa using hTx, hbel⟩
        case measure => simp [intOf]; omega
    · have hk' : k = ws.length := by omega
      subst hk'
      have e1 := HT.out
      have e2 := HO.out
      rw [List.take_length] at e1 e2
      subst e1 e2
      obtain ⟨a, cap, rfl, hrow⟩ := form_of_owns hown
      go_wp2
      go_ret2
      exact ⟨a, cap, rfl, hrow, hbel⟩

end Go.Proofs.Yoedxw
