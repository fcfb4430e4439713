/- The plain mathematics of parser.ReadOperands: no Go in sight. -/
namespace Go.Proofs.Yoedxw.Ops

/-- How many bytes the widths take. -/
def tot : List Int → Nat
  | [] => 0
  | w :: ws => w.toNat + tot ws

/-- What one width reads off the bytes ahead. -/
def op1 (w : Int) (bs : List Int) : List Int :=
  if w = 1 then [bs[0]?.getD 0]
  else if w = 2 then [bs[0]?.getD 0 * 256 + bs[1]?.getD 0]
  else if w = 4 then [((bs[0]?.getD 0 * 256 + bs[1]?.getD 0) * 256 + bs[2]?.getD 0) * 256 + bs[3]?.getD 0]
  else []

def ops : List Int → List Int → List Int
  | [], _ => []
  | w :: ws, bs => op1 w bs ++ ops ws (bs.drop w.toNat)

theorem tot_append (xs ys : List Int) : tot (xs ++ ys) = tot xs + tot ys := by
  induction xs with
  | nil => simp [tot]
  | cons x xs ih => simp only [List.cons_append, tot, ih]; omega

theorem ops_append (xs ys bs : List Int) : ops (xs ++ ys) bs = ops xs bs ++ ops ys (bs.drop (tot xs)) := by
  induction xs generalizing bs with
  | nil => simp [ops, tot]
  | cons x xs ih => simp only [List.cons_append, ops, tot, ih, List.drop_drop, List.append_assoc]

theorem op1_length (w : Int) (bs : List Int) : (op1 w bs).length ≤ 1 := by
  unfold op1; split
  · simp
  · split
    · simp
    · split <;> simp

theorem ops_length (ws bs : List Int) : (ops ws bs).length ≤ ws.length := by
  induction ws generalizing bs with
  | nil => simp [ops]
  | cons x xs ih =>
    have h1 := op1_length x bs
    have h2 := ih (bs.drop x.toNat)
    simp only [ops, List.length_append, List.length_cons]; omega

theorem take_succ (ws : List Int) (k : Nat) (h : k < ws.length) : ws.take (k + 1) = ws.take k ++ [ws[k]?.getD 0] := by
  rw [List.take_succ_eq_append_getElem h]; simp [h]

theorem tot_take_succ (ws : List Int) (k : Nat) (h : k < ws.length) : tot (ws.take (k + 1)) = tot (ws.take k) + (ws[k]?.getD 0).toNat := by
  rw [take_succ ws k h, tot_append]; simp [tot]

theorem ops_take_succ (ws bs : List Int) (k : Nat) (h : k < ws.length) : ops (ws.take (k + 1)) bs = ops (ws.take k) bs ++ op1 (ws[k]?.getD 0) (bs.drop (tot (ws.take k))) := by
  rw [take_succ ws k h, ops_append]; simp [ops]

theorem tot_take_le (ws : List Int) (k : Nat) : tot (ws.take k) ≤ tot ws := by
  have h := tot_append (ws.take k) (ws.drop k)
  rw [List.take_append_drop] at h; omega

theorem tot_take_add (ws : List Int) (k : Nat) (h : k < ws.length) : tot (ws.take k) + (ws[k]?.getD 0).toNat ≤ tot ws := by
  rw [← tot_take_succ ws k h]; exact tot_take_le _ _

theorem tot_split (ws : List Int) (k : Nat) : tot (ws.take k) + tot (ws.drop k) = tot ws := by
  rw [← tot_append, List.take_append_drop]

theorem ops_split (ws bs : List Int) (k : Nat) : ops ws bs = ops (ws.take k) bs ++ ops (ws.drop k) (bs.drop (tot (ws.take k))) := by
  rw [← ops_append, List.take_append_drop]

theorem tot_le (ws : List Int) (m : Nat) (h : ∀ x ∈ ws, x ≤ (m : Int)) : tot ws ≤ ws.length * m := by
  induction ws with
  | nil => simp [tot]
  | cons x xs ih =>
    have h1 := h x (by simp)
    have h2 := ih (fun y hy => h y (by simp [hy]))
    simp only [tot, List.length_cons, Nat.add_mul]; omega

theorem op1_pad (w : Int) (bs pad : List Int) (h : w.toNat ≤ bs.length) : op1 w (bs ++ pad) = op1 w bs := by
  unfold op1
  split
  · rw [List.getElem?_append_left (by omega)]
  · split
    · rw [List.getElem?_append_left (by omega), List.getElem?_append_left (by omega)]
    · split
      · rw [List.getElem?_append_left (by omega), List.getElem?_append_left (by omega), List.getElem?_append_left (by omega), List.getElem?_append_left (by omega)]
      · rfl

theorem ops_pad (ws bs pad : List Int) (h : tot ws ≤ bs.length) : ops ws (bs ++ pad) = ops ws bs := by
  induction ws generalizing bs with
  | nil => simp [ops]
  | cons x xs ih =>
    simp only [tot] at h
    simp only [ops]
    rw [op1_pad x bs pad (by omega), List.drop_append_of_le_length (by omega), ih _ (by rw [List.length_drop]; omega)]

end Go.Proofs.Yoedxw.Ops
