/- The plain law of the join: what is joined comes back. No Go in sight. -/
import Derived.Test.Qxb6602912aModelPlain
namespace Go.Proofs.Qxb6602912a.Split

def sep (esc : Bool) : List UInt8 := if esc then [92, 47] else [47]
/-- The names behind the first, each with its separator ahead. -/
def jgo (esc : Bool) : List (List UInt8) → List UInt8
  | [] => []
  | x :: r => sep esc ++ (x ++ jgo esc r)
def join (esc : Bool) : List (List UInt8) → List UInt8
  | [] => []
  | x :: r => x ++ jgo esc r

theorem jgo_snoc (esc : Bool) (p : List (List UInt8)) (x : List UInt8) : jgo esc (p ++ [x]) = jgo esc p ++ (sep esc ++ x) := by
  induction p with
  | nil => simp [jgo]
  | cons y p ih => simp only [List.cons_append, jgo, ih, List.append_assoc]
theorem join_snoc (esc : Bool) (p : List (List UInt8)) (x : List UInt8) (h : p ≠ []) : join esc (p ++ [x]) = join esc p ++ (sep esc ++ x) := by
  match p with
  | [] => exact absurd rfl h
  | y :: p => simp only [List.cons_append, join, jgo_snoc, List.append_assoc]
theorem join_one (esc : Bool) (x : List UInt8) : join esc [x] = x := by simp [join, jgo]

/-- What a name must be. -/
def Fine (x : List UInt8) : Prop := x ≠ [] ∧ slashFree x ∧ tb x % 2 = 0

theorem smGo_run (x r cur : List UInt8) (els : List (List UInt8)) (h : slashFree x) : smGo (x ++ r) cur els = smGo r (cur ++ x) els := by
  induction x generalizing cur with
  | nil => simp
  | cons c x ih =>
    rw [List.cons_append, smGo_byte (h c (by simp)), ih _ (fun d hd => h d (by simp [hd])), List.append_assoc]
    rfl

theorem smGo_sep (esc : Bool) (x r : List UInt8) (els : List (List UInt8)) (h : Fine x) : smGo (sep esc ++ r) x els = smGo r [] (els ++ [x]) := by
  have hp : push els x = els ++ [x] := if_neg h.1
  cases esc with
  | false =>
    show smGo (47 :: r) x els = _
    rw [smGo_slash (by decide), mend_even h.2.2, hp]
  | true =>
    show smGo (92 :: 47 :: r) x els = _
    rw [smGo_byte (by decide), smGo_slash (by decide), mend_odd h.2.2 (by decide), hp]

/-- The loop over names joined, from the first one gathered. -/
theorem smGo_join (esc : Bool) (l : List (List UInt8)) (x : List UInt8) (els : List (List UInt8)) (hx : Fine x) (hl : ∀ y ∈ l, Fine y) :
    ∃ z els', smGo (jgo esc l) x els = (z, els') ∧ z ≠ [] ∧ els' ++ [z] = els ++ (x :: l) := by
  induction l generalizing x els with
  | nil => exact ⟨x, els, rfl, hx.1, rfl⟩
  | cons y l ih =>
    have hy := hl y (by simp)
    obtain ⟨z, els', h1, h2, h3⟩ := ih y (els ++ [x]) hy (fun a ha => hl a (by simp [ha]))
    refine ⟨z, els', ?_, h2, by rw [h3]; simp⟩
    rw [jgo, smGo_sep esc x _ els hx, smGo_run y _ [] _ hy.2.1]
    exact h1

theorem pe_join (esc : Bool) (l : List (List UInt8)) (hl : ∀ y ∈ l, Fine y) : pe (join esc l) = l := by
  match l with
  | [] => exact pe_nil
  | x :: l =>
    have hx := hl x (by simp)
    obtain ⟨z, els', h1, h2, h3⟩ := smGo_join esc l x [] hx (fun a ha => hl a (by simp [ha]))
    have e : smGo (join esc (x :: l)) [] [] = (z, els') := by
      rw [join, smGo_run x _ [] [] hx.2.1]
      exact h1
    rw [pe_model, e]
    unfold fin
    rw [if_pos (.inl h2), h3]
    rfl

/-! ### Sums of lengths -/
def tot : List (List UInt8) → Nat
  | [] => 0
  | x :: r => 16 + x.length + tot r

theorem tot_snoc (p : List (List UInt8)) (x : List UInt8) : tot (p ++ [x]) = tot p + (16 + x.length) := by
  induction p with
  | nil => simp [tot]
  | cons y p ih => simp only [List.cons_append, tot, ih]; omega
theorem tot_at (l : List (List UInt8)) (k : Nat) (h : k < l.length) : tot (l.drop k) = 16 + (l[k]).length + tot (l.drop (k + 1)) := by
  rw [List.drop_eq_getElem_cons h, tot]
theorem tot_take (l : List (List UInt8)) (k : Nat) (h : k < l.length) : tot (l.take (k + 1)) = tot (l.take k) + (16 + (l[k]).length) := by
  rw [List.take_succ_eq_append_getElem h, tot_snoc]
theorem tot_split (l : List (List UInt8)) (k : Nat) : tot (l.take k) + tot (l.drop k) = tot l := by
  induction k generalizing l with
  | zero => simp [tot]
  | succ k ih =>
    match l with
    | [] => simp [tot]
    | x :: l => simp only [List.take_succ_cons, List.drop_succ_cons, tot]; have := ih l; omega
theorem sep_le (esc : Bool) : (sep esc).length ≤ 2 := by cases esc <;> decide
theorem jgo_tot (esc : Bool) (l : List (List UInt8)) : (jgo esc l).length ≤ tot l := by
  induction l with
  | nil => simp [jgo]
  | cons x l ih => simp only [jgo, tot, List.length_append]; have := sep_le esc; omega
theorem join_tot (esc : Bool) (l : List (List UInt8)) : (join esc l).length ≤ tot l := by
  match l with
  | [] => simp [join]
  | x :: l => simp only [join, tot, List.length_append]; have := jgo_tot esc l; omega
theorem len_tot (l : List (List UInt8)) : l.length ≤ tot l := by
  induction l with
  | nil => simp
  | cons x l ih => simp only [tot, List.length_cons]; omega

theorem join_take (esc : Bool) (l : List (List UInt8)) (k : Nat) (h : k < l.length) (h0 : 0 < k) : join esc (l.take (k + 1)) = join esc (l.take k) ++ (sep esc ++ l[k]) := by
  rw [List.take_succ_eq_append_getElem h, join_snoc]
  intro e
  have := congrArg List.length e
  rw [List.length_take, List.length_nil] at this
  omega
theorem join_take0 (esc : Bool) (l : List (List UInt8)) (h : 0 < l.length) : join esc (l.take 1) = l[0] := by
  rw [List.take_succ_eq_append_getElem h, List.take_zero, List.nil_append, join_one]
end Go.Proofs.Qxb6602912a.Split
