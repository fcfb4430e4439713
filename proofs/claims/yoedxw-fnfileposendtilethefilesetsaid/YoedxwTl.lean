/- FnFilePosEndTileTheFileSet: the walk. -/
import Derived.Test.YoedxwTf
import Derived.Lib.Builder
namespace Go.Proofs.Yoedxw
open Go.RowKit
set_option linter.unusedVariables false

theorem Edxg.info51 : (Edxg.prog.info? 51).isSome = true := by kernel_rfl

/-- Where the walk stands: a set with two files, a node a file; of what was there nothing has turned. -/
def St (w0 w : World) (S g cap Fa La Fb Lb Na Nb : Nat) (na nb : ByteArray) (ba sa bb sb B0 : Int) (last : Nat) : Prop :=
  Two w S g cap Fa La Fb Lb na nb ba sa bb sb B0 last ∧ NodeAt w Na Fa ∧ NodeAt w Nb Fb ∧ w0.heap.size ≤ S ∧ Below w0.heap.size w0 w

section
variable {w0 w w' : World} {S g cap Fa La Fb Lb Na Nb : Nat} {na nb : ByteArray} {ba sa bb sb B0 : Int} {last : Nat}

theorem St.draws (h : St w0 w S g cap Fa La Fb Lb Na Nb na nb ba sa bb sb B0 last) (hd : ∃ d, w' = w.drewN d) : St w0 w' S g cap Fa La Fb Lb Na Nb na nb ba sa bb sb B0 last := by
  obtain ⟨d, rfl⟩ := hd
  exact ⟨h.1, h.2.1, h.2.2.1, h.2.2.2.1, below_drewN h.2.2.2.2 d⟩

theorem St.looked (h : St w0 w S g cap Fa La Fb Lb Na Nb na nb ba sa bb sb B0 last) {l' : Nat} (ht : Two w' S g cap Fa La Fb Lb na nb ba sa bb sb B0 l') (hl : Looked S w w') : St w0 w' S g cap Fa La Fb Lb Na Nb na nb ba sa bb sb B0 l' := by
  obtain ⟨⟨hS, _⟩, h1, h2, h3, h4⟩ := h
  have hS' : w.heap[S]? = some (.cells #[.int .i64 B0, .slice (some ⟨g, 0, none⟩) 2 cap, .pointer (some ⟨last, 0, none⟩)] 40 (0, 0)) := hS
  exact ⟨ht, (hl.1 Na (lt_of_heap h1) (ne_of_type h1 hS' (by decide))).trans h1, (hl.1 Nb (lt_of_heap h2) (ne_of_type h2 hS' (by decide))).trans h2, h3, h4.trans (hl.2.mono h3)⟩
end

/-- What is owned at two pointers is a table of two files. -/
theorem files_of_own {w : World} {B Fa Fb : Nat} {v : Value} (h : w.ownsRow B 24 1 v (1 + 1) ([.pointer (some ⟨Fa, 0, none⟩)] ++ [.pointer (some ⟨Fb, 0, none⟩)])) : ∃ g cap, v = .slice (some ⟨g, 0, none⟩) 2 cap ∧ FilesAt w g Fa Fb := by
  rcases h.2 with ⟨_, h0⟩ | ⟨g, cap, cur, hv, hb, hg, hn, hm, hs, ht⟩
  · omega
  · refine ⟨g, cap, hv, cur, hg, ?_, ?_⟩
    · have := congrArg (fun l => l[0]?) ht
      simpa [List.getElem?_take] using this
    · have := congrArg (fun l => l[1]?) ht
      simpa [List.getElem?_take] using this

theorem own_ne {w : World} {B t k n : Nat} {v : Value} {xs : List Value} {c : Array Value} {f : Nat × Nat} (h : w.ownsRow B 24 1 v n xs) (hk : w.heap[k]? = some (.cells c t f)) (ht : t ≠ 24) : v.ownBlock ≠ some k := by
  rcases h.2 with ⟨rfl, _⟩ | ⟨g, cap, cur, rfl, hb, hg, _⟩
  · intro e; cases e
  · intro e
    have : g = k := by simpa [Value.ownBlock] using e
    exact ne_of_type hk hg ht this.symm

set_option maxHeartbeats 6400000 in
set_option maxRecDepth 100000 in
theorem tl_in (n1 n2 : Int) (w : World) (k1 : 0 ≤ n1) (k2 : n1 ≤ 1099511627776) (k3 : 0 ≤ n2) (k4 : n2 ≤ 1099511627776) :
    Calls Edxg.prog 3 #[.int .i64 n1, .int .i64 n2] w fun e w' => e = .returned (.bool true) ∧ Below w.heap.size w w' := by
  obtain ⟨j51, hj51⟩ := Option.isSome_iff_exists.1 Edxg.info51
  have hpe := fun (w : World) (a : Addr) => Lib.run_neq_ptr_same (P := Edxg.prog) w (tp := 24) (te := 51) (j := j51) a Edxg.underlying24 hj51
  clear hj51
  go_enter Edxg.func3, Edxg.ntmps3
  go_wp2_with fail
  refine (newSet_any w).mono ?_
  rintro e w0 ⟨rfl, rfl⟩
  go_wp2_with fail
  refine (addFile_any w.heap.size w.heap.size ⟨#[97]⟩ (-1) n1 1 1 (.slice none 0 0) 0 [] none _ (heap_alloc_new w _) (World.ownsRow_nil _ _ _ _) (Nat.le_refl _) (by simp [Value.ownBlock]) (by omega) (.inl ⟨by omega, rfl⟩) (by omega) (by omega) (by omega) k1 k2).mono ?_
  rintro e w1 ⟨Fa, La, v1, rfl, hFa, hS1, hown1, hne1, hFl, hLl, hfr, hb1⟩
  have bel1 : Below w.heap.size w w1 := ((Below.refl _ _).alloc (Nat.le_refl _) _).trans hb1
  clear hFl hLl hfr hb1
  go_wp2_with fail
  refine (addFile_any w.heap.size w.heap.size ⟨#[98]⟩ (-1) n2 (1 + n1 + 1) (1 + n1 + 1) v1 1 _ _ w1 hS1 hown1 (Nat.le_refl _) hne1 (by omega) (.inl ⟨by omega, rfl⟩) (by omega) (by omega) (by omega) k3 k4).mono ?_
  rintro e w2 ⟨Fb, Lb, v2, rfl, hFb, hS2, hown2, hne2, hFl, hLl, hfr, hb2⟩
  have bel2 : Below w.heap.size w w2 := bel1.trans hb2
  have hS1' : w1.heap[w.heap.size]? = some (.cells #[.int .i64 (1 + n1 + 1), v1, .pointer (some ⟨Fa, 0, none⟩)] 40 (0, 0)) := hS1
  have hFa2 : FileAt w2 Fa La w.heap.size ⟨#[97]⟩ 1 n1 := ⟨(hfr Fa (lt_of_heap hFa.1) (ne_of_type hFa.1 hS1' (by decide)) (own_ne hown1 hFa.1 (by decide))).trans hFa.1, (hfr La (lt_of_heap hFa.2) (ne_of_type hFa.2 hS1' (by decide)) (own_ne hown1 hFa.2 (by decide))).trans hFa.2⟩
  obtain ⟨g, cap, rfl, hG⟩ := files_of_own hown2
  have T2 : Two w2 w.heap.size g cap Fa La Fb Lb ⟨#[97]⟩ ⟨#[98]⟩ 1 n1 (1 + n1 + 1) n2 (1 + n1 + 1 + n2 + 1) Fb := ⟨hS2, hG, hFa2, hFb⟩
  clear hFa hS1 hown1 hne1 bel1 hFb hS2 hown2 hne2 hFl hLl hfr hb2 hS1' hFa2 hG
  go_wp2_with fail
  have hba : Below w2.heap.size w2 ((w2.alloc (.cells #[.pointer (some ⟨Fa, 0, none⟩), .slice none 0 0] 29)).alloc (.cells #[.pointer (some ⟨Fb, 0, none⟩), .slice none 0 0] 29)) := ((Below.refl _ _).alloc (Nat.le_refl _) _).alloc (by simp) _
  have hNa : NodeAt ((w2.alloc (.cells #[.pointer (some ⟨Fa, 0, none⟩), .slice none 0 0] 29)).alloc (.cells #[.pointer (some ⟨Fb, 0, none⟩), .slice none 0 0] 29)) w2.heap.size Fa := (heap_alloc_old _ _ (by simp)).trans (heap_alloc_new w2 _)
  have hNb : NodeAt ((w2.alloc (.cells #[.pointer (some ⟨Fa, 0, none⟩), .slice none 0 0] 29)).alloc (.cells #[.pointer (some ⟨Fb, 0, none⟩), .slice none 0 0] 29)) (w2.heap.size + 1) Fb := by
    have h := heap_alloc_new (w2.alloc (.cells #[.pointer (some ⟨Fa, 0, none⟩), .slice none 0 0] 29)) (.cells #[.pointer (some ⟨Fb, 0, none⟩), .slice none 0 0] 29)
    rw [World.size_alloc] at h
    exact h
  have st : St w ((w2.alloc (.cells #[.pointer (some ⟨Fa, 0, none⟩), .slice none 0 0] 29)).alloc (.cells #[.pointer (some ⟨Fb, 0, none⟩), .slice none 0 0] 29)) w.heap.size g cap Fa La Fb Lb w2.heap.size (w2.heap.size + 1) ⟨#[97]⟩ ⟨#[98]⟩ 1 n1 (1 + n1 + 1) n2 (1 + n1 + 1 + n2 + 1) Fb :=
    ⟨T2.below hba, hNa, hNb, Nat.le_refl _, bel2.trans (hba.mono bel2.size)⟩
  clear hba hNa hNb T2 bel2
  generalize (w2.alloc (.cells #[.pointer (some ⟨Fa, 0, none⟩), .slice none 0 0] 29)).alloc (.cells #[.pointer (some ⟨Fb, 0, none⟩), .slice none 0 0] 29) = W at st ⊢
  generalize w2.heap.size + 1 = Nb at st ⊢
  generalize w2.heap.size = Na at st ⊢
  obtain ⟨S, hSS⟩ : ∃ S, S = w.heap.size := ⟨_, rfl⟩
  have st0 := st
  rw [← hSS] at st0
  rw [← hSS]
  clear st hSS
  rename St w W S g cap Fa La Fb Lb Na Nb ⟨#[97]⟩ ⟨#[98]⟩ 1 n1 (1 + n1 + 1) n2 (1 + n1 + 1 + n2 + 1) Fb => st
  refine (pos_any Na Fa La S ⟨#[97]⟩ 1 n1 _ st.2.1 st.1.2.2.1).mono ?_
  rintro e x1 ⟨rfl, rfl⟩
  go_wp2_with fail
  refine (end_any Na Fa La S ⟨#[97]⟩ 1 n1 _ st.2.1 st.1.2.2.1 (by omega) (by omega) (by omega) (by omega)).mono ?_
  rintro e x2 ⟨rfl, hd⟩
  replace st := st.draws hd
  clear hd
  go_wp2_with fail
  refine (pos_any Nb Fb Lb S ⟨#[98]⟩ (1 + n1 + 1) n2 _ st.2.2.1 st.1.2.2.2).mono ?_
  rintro e x3 ⟨rfl, rfl⟩
  go_wp2_with fail
  refine (end_any Na Fa La S ⟨#[97]⟩ 1 n1 _ st.2.1 st.1.2.2.1 (by omega) (by omega) (by omega) (by omega)).mono ?_
  rintro e x4 ⟨rfl, hd⟩
  replace st := st.draws hd
  clear hd
  go_wp2_with fail
  refine (end_any Nb Fb Lb S ⟨#[98]⟩ (1 + n1 + 1) n2 _ st.2.2.1 st.1.2.2.2 (by omega) (by omega) (by omega) (by omega)).mono ?_
  rintro e x5 ⟨rfl, hd⟩
  replace st := st.draws hd
  clear hd
  go_wp2_with fail
  refine (pos_any Na Fa La S ⟨#[97]⟩ 1 n1 _ st.2.1 st.1.2.2.1).mono ?_
  rintro e x6 ⟨rfl, rfl⟩
  go_wp2_with fail
  refine (offset_any Fa La S ⟨#[97]⟩ 1 n1 1 _ st.1.2.2.1 (by omega) (by omega) (by omega) (by omega) (by omega) (by omega)).mono ?_
  rintro e x7 ⟨rfl, hd⟩
  replace st := st.draws hd
  clear hd
  go_wp2_with fail
  refine (end_any Na Fa La S ⟨#[97]⟩ 1 n1 _ st.2.1 st.1.2.2.1 (by omega) (by omega) (by omega) (by omega)).mono ?_
  rintro e x8 ⟨rfl, hd⟩
  replace st := st.draws hd
  clear hd
  go_wp2_with fail
  refine (offset_any Fa La S ⟨#[97]⟩ 1 n1 (1 + n1) _ st.1.2.2.1 (by omega) (by omega) (by omega) (by omega) (by omega) (by omega)).mono ?_
  rintro e x9 ⟨rfl, hd⟩
  replace st := st.draws hd
  clear hd
  go_wp2_with fail
  refine (pos_any Nb Fb Lb S ⟨#[98]⟩ (1 + n1 + 1) n2 _ st.2.2.1 st.1.2.2.2).mono ?_
  rintro e x10 ⟨rfl, rfl⟩
  go_wp2_with fail
  refine (offset_any Fb Lb S ⟨#[98]⟩ (1 + n1 + 1) n2 (1 + n1 + 1) _ st.1.2.2.2 (by omega) (by omega) (by omega) (by omega) (by omega) (by omega)).mono ?_
  rintro e x11 ⟨rfl, hd⟩
  replace st := st.draws hd
  clear hd
  go_wp2_with fail
  refine (end_any Nb Fb Lb S ⟨#[98]⟩ (1 + n1 + 1) n2 _ st.2.2.1 st.1.2.2.2 (by omega) (by omega) (by omega) (by omega)).mono ?_
  rintro e x12 ⟨rfl, hd⟩
  replace st := st.draws hd
  clear hd
  go_wp2_with fail
  refine (offset_any Fb Lb S ⟨#[98]⟩ (1 + n1 + 1) n2 (1 + n1 + 1 + n2) _ st.1.2.2.2 (by omega) (by omega) (by omega) (by omega) (by omega) (by omega)).mono ?_
  rintro e x13 ⟨rfl, hd⟩
  replace st := st.draws hd
  clear hd
  go_wp2_with fail
  refine (end_any Na Fa La S ⟨#[97]⟩ 1 n1 _ st.2.1 st.1.2.2.1 (by omega) (by omega) (by omega) (by omega)).mono ?_
  rintro e x14 ⟨rfl, hd⟩
  replace st := st.draws hd
  clear hd
  go_wp2_with fail
  refine (File_of S (1 + n1) _ (.pointer (some ⟨Fa, 0, none⟩)) _ (by simp; omega) (fileA S g cap Fa La Fb Lb ⟨#[97]⟩ ⟨#[98]⟩ 1 n1 (1 + n1 + 1) n2 (1 + n1 + 1 + n2 + 1) (1 + n1) _ st.1 (by omega) (by omega) (by omega) (by omega) (by omega) (by omega) (by omega) (by omega) (by omega) (by omega) (by omega))).mono ?_
  rintro e x15 ⟨rfl, ht, hl⟩
  replace st := st.looked ht hl
  clear ht hl
  go_wp2_with fail
  refine (pos_any Nb Fb Lb S ⟨#[98]⟩ (1 + n1 + 1) n2 _ st.2.2.1 st.1.2.2.2).mono ?_
  rintro e x16 ⟨rfl, rfl⟩
  go_wp2_with fail
  refine (File_of S (1 + n1 + 1) _ (.pointer (some ⟨Fb, 0, none⟩)) _ (by simp; omega) (fileB S g cap Fa La Fb Lb ⟨#[97]⟩ ⟨#[98]⟩ 1 n1 (1 + n1 + 1) n2 (1 + n1 + 1 + n2 + 1) (1 + n1 + 1) _ st.1 (by omega) (by omega) (by omega) (by omega) (by omega) (by omega) (by omega) (by omega) (by omega) (by omega) (by omega) (by omega))).mono ?_
  rintro e x17 ⟨rfl, ht, hl⟩
  replace st := st.looked ht hl
  clear ht hl
  go_wp2_with fail
  refine (end_any Nb Fb Lb S ⟨#[98]⟩ (1 + n1 + 1) n2 _ st.2.2.1 st.1.2.2.2 (by omega) (by omega) (by omega) (by omega)).mono ?_
  rintro e x18 ⟨rfl, hd⟩
  replace st := st.draws hd
  clear hd
  go_wp2_with fail
  refine (File_of S (1 + n1 + 1 + n2 + 1) _ (.pointer none) _ (by simp; omega) (fileC S g cap Fa La Fb Lb ⟨#[97]⟩ ⟨#[98]⟩ 1 n1 (1 + n1 + 1) n2 (1 + n1 + 1 + n2 + 1) (1 + n1 + 1 + n2 + 1) _ st.1 (by omega) (by omega) (by omega) (by omega) (by omega) (by omega) (by omega) (by omega) (by omega) (by omega))).mono ?_
  rintro e x19 ⟨rfl, ht, hl⟩
  replace st := st.looked ht hl
  clear ht hl
  go_wp2_with fail
  go_ret
  exact ⟨rfl, st.2.2.2.2⟩

theorem tl_any (n1 n2 : Int) (w : World) :
    Calls Edxg.prog 3 #[.int .i64 n1, .int .i64 n2] w fun e w' => e = .returned (.bool true) ∧ Below w.heap.size w w' := by
  rcases (by omega : n1 < 0 ∨ (0 ≤ n1 ∧ 1099511627776 < n1) ∨ (0 ≤ n1 ∧ n1 ≤ 1099511627776 ∧ n2 < 0) ∨ (0 ≤ n1 ∧ n1 ≤ 1099511627776 ∧ 0 ≤ n2 ∧ 1099511627776 < n2) ∨ (0 ≤ n1 ∧ n1 ≤ 1099511627776 ∧ 0 ≤ n2 ∧ n2 ≤ 1099511627776)) with k | ⟨k1, k2⟩ | ⟨k1, k2, k3⟩ | ⟨k1, k2, k3, k4⟩ | ⟨k1, k2, k3, k4⟩
  · go_enter Edxg.func3, Edxg.ntmps3
    go_wp2
    go_ret
    exact ⟨rfl, Below.refl _ _⟩
  · go_enter Edxg.func3, Edxg.ntmps3
    go_wp2
    go_ret
    exact ⟨rfl, Below.refl _ _⟩
  · go_enter Edxg.func3, Edxg.ntmps3
    go_wp2
    go_ret
    exact ⟨rfl, Below.refl _ _⟩
  · go_enter Edxg.func3, Edxg.ntmps3
    go_wp2
    go_ret
    exact ⟨rfl, Below.refl _ _⟩
  · exact tl_in n1 n2 w k1 k2 k3 k4

end Go.Proofs.Yoedxw
