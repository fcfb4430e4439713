/- What the walks of this seat say of a slice of integers; small facts on worlds and lists. -/
import Derived.Test.YoedxwRows
import Derived.Test.YoedxwOpsPlain
import Derived.WalkKit
import Derived.WalkSpells
import Derived.ProofKit
import Derived.OpenShut
namespace Go.Proofs.Yoedxw
open Go.RowKit

theorem Edxg.info3 : (Edxg.prog.info? 3).map (fun i => (i.zero, i.size, i.bytes)) = some (some (.int .i64 0), 1, 8) := by kernel_rfl
theorem Edxg.info5 : (Edxg.prog.info? 5).map (fun i => (i.zero, i.size, i.bytes)) = some (some (.int .u8 0), 1, 1) := by kernel_rfl

/-- The address leads to the integers ys: nothing is asked of it where there is none. -/
def RowAt (k : IntKind) (w : World) (a : Option Addr) (ys : List Int) : Prop :=
  ys = [] ∨ ∃ b off, a = some ⟨b, off, none⟩ ∧ b < w.heap.size ∧ ∀ i, i < ys.length → w.cell? ⟨b, off + i, none⟩ = some (.int k (ys[i]?.getD 0))

theorem RowAt.below {k : IntKind} {w w' : World} {a : Option Addr} {ys : List Int} (h : RowAt k w a ys) (hb : Below w.heap.size w w') : RowAt k w' a ys := by
  rcases h with h | ⟨b, off, ha, hlt, hc⟩
  · exact .inl h
  · exact .inr ⟨b, off, ha, Nat.lt_of_lt_of_le hlt hb.size, fun i hi => (hb.cell (p := ⟨b, off + i, none⟩) hlt).trans (hc i hi)⟩

/-- The first cells of what came in. -/
theorem rowAt_of_cells {k : IntKind} {w : World} {x : Addr} {zs : List Int} {len : Nat} (hl : len ≤ zs.length) (hc : ∀ i, i < zs.length → w.cell? (x.add i) = some (.int k (zs.getD i 0))) : RowAt k w (some x) (zs.take len) := by
  by_cases h0 : len = 0
  · subst h0; exact .inl (by simp)
  · obtain ⟨b, off, rfl, h⟩ := ints_at hc (by omega)
    refine .inr ⟨b, off, rfl, World.block_lt_of_cell? w _ (h 0 (by omega)), fun i hi => ?_⟩
    have hi' : i < len := by simp at hi; omega
    rw [h i (by omega)]
    simp [hi']

/-- A row of the call's own. -/
theorem rowAt_of_owns {k : IntKind} {w : World} {base e n cap : Nat} {a : Option Addr} {ys : List Int} (h : w.ownsRow base e 1 (.slice a n cap) n (ys.map (Value.int k))) : ys.length = n ∧ RowAt k w a ys := by
  have hl : ys.length = n := by have := h.1; simpa using this
  refine ⟨hl, ?_⟩
  rcases h.2 with ⟨_, h0⟩ | ⟨g, cap', cur, hv, hb, hg, _⟩
  · exact .inl (List.eq_nil_of_length_eq_zero (by omega))
  · simp only [Value.slice.injEq, true_and] at hv
    obtain ⟨rfl, rfl⟩ := hv
    refine .inr ⟨g, 0, rfl, ?_, fun i hi => ?_⟩
    · rcases Nat.lt_or_ge g w.heap.size with hlt | hge
      · exact hlt
      · rw [Array.getElem?_eq_none hge] at hg; cases hg
    · rw [Nat.zero_add, h.cellAt i (by omega)]
      simp [hi]

theorem list_set_step (zs : List Int) (k : Nat) (h : k < zs.length) : (zs.take k ++ List.replicate (zs.length - k) (0 : Int)).set k (zs[k]?.getD 0) = zs.take (k + 1) ++ List.replicate (zs.length - (k + 1)) 0 := by
  have e : zs.length - k = (zs.length - (k + 1)) + 1 := by omega
  rw [Ops.take_succ zs k h, e, List.replicate_succ, List.set_append_right _ _ (by simp; omega)]
  have : k - (zs.take k).length = 0 := by simp; omega
  rw [this]; simp

end Go.Proofs.Yoedxw
