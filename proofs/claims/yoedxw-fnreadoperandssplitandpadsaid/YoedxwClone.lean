/- zzCloneInts, zzCloneBytes: by their contracts. -/
import Derived.Test.YoedxwSl
namespace Go.Proofs.Yoedxw
open Go.RowKit

set_option maxHeartbeats 1600000 in
set_option maxRecDepth 100000 in
theorem cloneInts_any (a : Option Addr) (cap : Nat) (zs : List Int) (w : World) (hr : RowAt .i64 w a zs) (hlen : zs.length ≤ 1048576) (hnil : a = none → zs = [] ∧ cap = 0) :
    Calls Edxg.prog 15 #[.slice a zs.length cap] w fun e w' => ∃ a', e = .returned (.slice a' zs.length zs.length) ∧ RowAt .i64 w' a' zs ∧ Below w.heap.size w w' := by
  obtain ⟨i0, hi, hz0, hz1, hz2⟩ := info_parts Edxg.info3
  have hq := fun (w : World) (a : Option Addr) (n c : Nat) => Lib.run_eql_slice_nil (P := Edxg.prog) w 41 3 a n c 0 0 Edxg.underlying41
  cases a with
  | none =>
    obtain ⟨rfl, rfl⟩ := hnil rfl
    go_enter Edxg.func15, Edxg.ntmps15
    go_wp2
    go_ret
    exact ⟨none, rfl, .inl rfl, Below.refl _ _⟩
  | some x =>
    go_enter Edxg.func15, Edxg.ntmps15
    go_wp2_with (at_make; refine wpList_make_full _ rfl _ _ 41 rfl w.heap.size 3 i0 (.int .i64 0) 1 Edxg.underlying41 hi hz0 hz1 _ _ _ _ zs.length rfl rfl rfl rfl ?b2 ?b3 (Nat.le_refl _) ?_)
    case b2 => rw [hz2]; omega
    case b3 => unfold maxLen; omega
    intro w0 hown0 hgrow0
    go_wp2
    go_loopw [4] (fun i wr => ∃ k : Nat, k ≤ zs.length ∧ i = .int .i64 k ∧ wr.ownsRow w.heap.size 3 1 (.slice (some ⟨w.heap.size, 0, none⟩) zs.length zs.length) zs.length ((zs.take k ++ List.replicate (zs.length - k) 0).map (Value.int .i64)) ∧ Below w.heap.size w wr)
      (fun i _ => zs.length - (intOf i).toNat)
    case atStart => exact ⟨0, Nat.zero_le _, rfl, by simpa [Value.cells, toList_madeCells_one] using hown0, (Below.refl _ _).grown hgrow0 (Nat.le_refl _) (fun k h => by cases h)⟩
    case round =>
      obtain ⟨k, hk, rfl, hown, hbel⟩ := hrel
      by_cases hlt : k < zs.length
      · rcases hr with h | ⟨b, off, hx, hblt, hc⟩
        · subst h; simp at hlt
        · obtain rfl : x = ⟨b, off, none⟩ := by simpa using hx
          have hcx : wr.cell? ⟨b, off + k, none⟩ = some (.int .i64 (zs[k]?.getD 0)) := (hbel.cell (p := ⟨b, off + k, none⟩) hblt).trans (hc k hlt)
          have hfr : wr.frozen? ⟨w.heap.size, k, none⟩ = false := hown.frozenAt k
          have hold : wr.cell? ⟨w.heap.size, k, none⟩ = some (((zs.take k ++ List.replicate (zs.length - k) 0).map (Value.int .i64))[k]?.getD (.bool false)) := by
            rw [hown.cellAt k (by omega)]
            have : k < ((zs.take k ++ List.replicate (zs.length - k) (0 : Int)).map (Value.int .i64)).length := by simp; omega
            rw [List.getElem?_eq_getElem this]; rfl
          have hst := hown.stored k (.int .i64 (zs[k]?.getD 0))
          rw [← List.map_set, list_set_step zs k hlt] at hst
          have R1 := hst.1
          have R2 := hbel.setCell (p := ⟨w.heap.size, k, none⟩) (Nat.le_refl _) (.int .i64 (zs[k]?.getD 0))
          clear hc hown hst hbel hown0 hgrow0
          go_wp2
          go_roundw
          case rel => exact ⟨k + 1, by omega, by go_num, by simpa [hlt] using R1, by simpa [hlt] using R2⟩
          case measure => simp [intOf]; omega
      · have hk' : k = zs.length := by omega
        go_wp2
        go_ret
        subst hk'
        refine ⟨_, rfl, ?_, hbel⟩
        have := rowAt_of_owns hown
        simpa using this.2

set_option maxHeartbeats 1600000 in
set_option maxRecDepth 100000 in
theorem cloneBytes_any (a : Option Addr) (cap : Nat) (zs : List Int) (w : World) (hr : RowAt .u8 w a zs) (hlen : zs.length ≤ 1048576) (hnil : a = none → zs = [] ∧ cap = 0) :
    Calls Edxg.prog 16 #[.slice a zs.length cap] w fun e w' => ∃ a', e = .returned (.slice a' zs.length zs.length) ∧ RowAt .u8 w' a' zs ∧ Below w.heap.size w w' := by
  obtain ⟨i0, hi, hz0, hz1, hz2⟩ := info_parts Edxg.info5
  have hq := fun (w : World) (a : Option Addr) (n c : Nat) => Lib.run_eql_slice_nil (P := Edxg.prog) w 42 5 a n c 0 0 Edxg.underlying42
  cases a with
  | none =>
    obtain ⟨rfl, rfl⟩ := hnil rfl
    go_enter Edxg.func16, Edxg.ntmps16
    go_wp2
    go_ret
    exact ⟨none, rfl, .inl rfl, Below.refl _ _⟩
  | some x =>
    go_enter Edxg.func16, Edxg.ntmps16
    go_wp2_with (at_make; refine wpList_make_full _ rfl _ _ 42 rfl w.heap.size 5 i0 (.int .u8 0) 1 Edxg.underlying42 hi hz0 hz1 _ _ _ _ zs.length rfl rfl rfl rfl ?b2 ?b3 (Nat.le_refl _) ?_)
    case b2 => rw [hz2]; omega
    case b3 => unfold maxLen; omega
    intro w0 hown0 hgrow0
    go_wp2
    go_loopw [4] (fun i wr => ∃ k : Nat, k ≤ zs.length ∧ i = .int .i64 k ∧ wr.ownsRow w.heap.size 5 1 (.slice (some ⟨w.heap.size, 0, none⟩) zs.length zs.length) zs.length ((zs.take k ++ List.replicate (zs.length - k) 0).map (Value.int .u8)) ∧ Below w.heap.size w wr)
      (fun i _ => zs.length - (intOf i).toNat)
    case atStart => exact ⟨0, Nat.zero_le _, rfl, by simpa [Value.cells, toList_madeCells_one] using hown0, (Below.refl _ _).grown hgrow0 (Nat.le_refl _) (fun k h => by cases h)⟩
    case round =>
      obtain ⟨k, hk, rfl, hown, hbel⟩ := hrel
      by_cases hlt : k < zs.length
      · rcases hr with h | ⟨b, off, hx, hblt, hc⟩
        · subst h; simp at hlt
        · obtain rfl : x = ⟨b, off, none⟩ := by simpa using hx
          have hcx : wr.cell? ⟨b, off + k, none⟩ = some (.int .u8 (zs[k]?.getD 0)) := (hbel.cell (p := ⟨b, off + k, none⟩) hblt).trans (hc k hlt)
          have hfr : wr.frozen? ⟨w.heap.size, k, none⟩ = false := hown.frozenAt k
          have hold : wr.cell? ⟨w.heap.size, k, none⟩ = some (((zs.take k ++ List.replicate (zs.length - k) 0).map (Value.int .u8))[k]?.getD (.bool false)) := by
            rw [hown.cellAt k (by omega)]
            have : k < ((zs.take k ++ List.replicate (zs.length - k) (0 : Int)).map (Value.int .u8)).length := by simp; omega
            rw [List.getElem?_eq_getElem this]; rfl
          have hst := hown.stored k (.int .u8 (zs[k]?.getD 0))
          rw [← List.map_set, list_set_step zs k hlt] at hst
          have R1 := hst.1
          have R2 := hbel.setCell (p := ⟨w.heap.size, k, none⟩) (Nat.le_refl _) (.int .u8 (zs[k]?.getD 0))
          clear hc hown hst hbel hown0 hgrow0
          go_wp2
          go_roundw
          case rel => exact ⟨k + 1, by omega, by go_num, by simpa [hlt] using R1, by simpa [hlt] using R2⟩
          case measure => simp [intOf]; omega
      · have hk' : k = zs.length := by omega
        go_wp2
        go_ret
        subst hk'
        refine ⟨_, rfl, ?_, hbel⟩
        have := rowAt_of_owns hown
        simpa using this.2

end Go.Proofs.Yoedxw
