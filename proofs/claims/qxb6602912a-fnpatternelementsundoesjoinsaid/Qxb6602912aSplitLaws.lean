/- Plain laws of pe: no Go in sight. -/
import Derived.Test.Qxb6602912aSplitPlain
namespace Go.Proofs.Qxb6602912a.Split

def slashFree (x : List UInt8) : Prop := ∀ c ∈ x, c.toNat ≠ 47
def Good (x : List UInt8) : Prop := x ≠ [] ∧ slashFree x

theorem slashFree_snoc {x : List UInt8} {c : UInt8} (h : slashFree x) (hc : c.toNat ≠ 47) : slashFree (x ++ [c]) := by
  intro d hd
  rw [List.mem_append] at hd
  rcases hd with hd | hd
  · exact h d hd
  · simp at hd; rw [hd]; exact hc

/-- The loop keeps: what it has gathered holds no slash; every element that it has laid away is not empty. -/
theorem peGo_good : ∀ (n : Nat) (r acc : List UInt8) (els : List (List UInt8)), r.length ≤ n → slashFree acc → (∀ x ∈ els, Good x) → slashFree (peGo r acc els).1 ∧ ∀ x ∈ (peGo r acc els).2, Good x := by
  intro n
  induction n with
  | zero =>
    intro r acc els hn ha he
    have : r = [] := List.eq_nil_of_length_eq_zero (by omega)
    subst this
    exact ⟨ha, he⟩
  | succ n ih =>
    intro r acc els hn ha he
    have push : acc ≠ [] → ∀ x ∈ els ++ [acc], Good x := by
      intro h0 x hx
      rw [List.mem_append] at hx
      rcases hx with hx | hx
      · exact he x hx
      · simp at hx; rw [hx]; exact ⟨h0, ha⟩
    have nilFree : slashFree ([] : List UInt8) := by intro c hc; simp at hc
    match r with
    | [] => exact ⟨ha, he⟩
    | [c] =>
      simp only [peGo]
      by_cases h47 : c.toNat = 47
      · rw [if_pos h47]
        by_cases h0 : acc = []
        · rw [if_pos h0]; exact ⟨ha, he⟩
        · rw [if_neg h0]; exact ⟨nilFree, push h0⟩
      · rw [if_neg h47]; exact ⟨slashFree_snoc ha h47, he⟩
    | c :: d :: r =>
      rw [peGo]
      by_cases h92 : c.toNat = 92
      · rw [if_pos h92]
        by_cases d47 : d.toNat = 47
        · rw [if_pos d47]; exact ih _ _ _ (by simp at hn ⊢; omega) ha he
        · rw [if_neg d47]
          refine ih _ _ _ (by simp at hn ⊢; omega) ?_ he
          have := slashFree_snoc (slashFree_snoc ha (c := c) (by omega)) d47
          simpa using this
      · rw [if_neg h92]
        by_cases h47 : c.toNat = 47
        · rw [if_pos h47]
          by_cases h0 : acc = []
          · rw [if_pos h0]; exact ih _ _ _ (by simp at hn ⊢; omega) ha he
          · rw [if_neg h0]; exact ih _ _ _ (by simp at hn ⊢; omega) nilFree (push h0)
        · rw [if_neg h47]; exact ih _ _ _ (by simp at hn ⊢; omega) (slashFree_snoc ha h47) he

/-- How many elements there are, at most. -/
theorem peGo_len : ∀ (n : Nat) (r acc : List UInt8) (els : List (List UInt8)), r.length ≤ n → (peGo r acc els).2.length ≤ els.length + r.length := by
  intro n
  induction n with
  | zero =>
    intro r acc els hn
    have : r = [] := List.eq_nil_of_length_eq_zero (by omega)
    subst this
    exact Nat.le_add_right _ _
  | succ n ih =>
    intro r acc els hn
    match r with
    | [] => exact Nat.le_add_right _ _
    | [c] =>
      simp only [peGo]
      split
      · split <;> simp
      · simp
    | c :: d :: r =>
      rw [peGo]
      have i1 := ih (d :: r) acc els (by simp at hn ⊢; omega)
      have i2 := ih r (acc ++ [c, d]) els (by simp at hn ⊢; omega)
      have i3 := ih (d :: r) [] (els ++ [acc]) (by simp at hn ⊢; omega)
      have i4 := ih (d :: r) (acc ++ [c]) els (by simp at hn ⊢; omega)
      simp only [List.length_cons, List.length_append, List.length_nil] at *
      split
      · split <;> omega
      · split
        · split <;> omega
        · omega

/-- A pattern that ends in a slash leaves nothing in the element; another that is not empty leaves something. -/
theorem peGo_last : ∀ (n : Nat) (r acc : List UInt8) (els : List (List UInt8)), r.length ≤ n → r ≠ [] →
    ((∃ c, r.getLast? = some c ∧ c.toNat = 47) → (peGo r acc els).1 = []) ∧ ((∃ c, r.getLast? = some c ∧ c.toNat ≠ 47) → (peGo r acc els).1 ≠ []) := by
  intro n
  induction n with
  | zero =>
    intro r acc els hn h0
    exact absurd (List.eq_nil_of_length_eq_zero (by omega)) h0
  | succ n ih =>
    intro r acc els hn h0
    match r with
    | [] => exact absurd rfl h0
    | [c] =>
      simp only [peGo, List.getLast?_singleton, Option.some.injEq, exists_eq_left']
      refine ⟨fun h => ?_, fun h => ?_⟩
      · rw [if_pos h]; split <;> simp_all
      · rw [if_neg h]; simp
    | c :: d :: r =>
      have key : ∀ acc els, ((∃ x, (c :: d :: r).getLast? = some x ∧ x.toNat = 47) → (peGo (d :: r) acc els).1 = []) ∧ ((∃ x, (c :: d :: r).getLast? = some x ∧ x.toNat ≠ 47) → (peGo (d :: r) acc els).1 ≠ []) := by
        intro acc els
        have := ih (d :: r) acc els (by simp at hn ⊢; omega) (by simp)
        rw [List.getLast?_cons_cons]
        exact this
      rw [peGo]
      by_cases h92 : c.toNat = 92
      · rw [if_pos h92]
        by_cases d47 : d.toNat = 47
        · rw [if_pos d47]; exact key _ _
        · rw [if_neg d47]
          by_cases hr : r = []
          · subst hr
            simp only [peGo, List.getLast?_cons_cons, List.getLast?_singleton, Option.some.injEq, exists_eq_left']
            exact ⟨fun h => absurd h d47, fun _ => by simp⟩
          · have := ih r (acc ++ [c, d]) els (by simp at hn ⊢; omega) hr
            obtain ⟨x, r', rfl⟩ := List.exists_cons_of_ne_nil hr
            rw [List.getLast?_cons_cons, List.getLast?_cons_cons]
            exact this
      · rw [if_neg h92]
        by_cases h47 : c.toNat = 47
        · rw [if_pos h47]
          by_cases hacc : acc = []
          · rw [if_pos hacc]; exact key _ _
          · rw [if_neg hacc]; exact key _ _
        · rw [if_neg h47]; exact key _ _

/-- No element is longer than the pattern. -/
theorem peGo_bound (M : Nat) : ∀ (n : Nat) (r acc : List UInt8) (els : List (List UInt8)), r.length ≤ n → acc.length + r.length ≤ M → (∀ x ∈ els, x.length ≤ M) → (peGo r acc els).1.length ≤ M ∧ ∀ x ∈ (peGo r acc els).2, x.length ≤ M := by
  intro n
  induction n with
  | zero =>
    intro r acc els hn ha he
    have : r = [] := List.eq_nil_of_length_eq_zero (by omega)
    subst this
    exact ⟨by simpa [peGo] using ha, he⟩
  | succ n ih =>
    intro r acc els hn ha he
    have push : acc.length ≤ M → ∀ x ∈ els ++ [acc], x.length ≤ M := by
      intro h0 x hx
      rw [List.mem_append] at hx
      rcases hx with hx | hx
      · exact he x hx
      · simp at hx; rw [hx]; exact h0
    match r with
    | [] => exact ⟨by simpa [peGo] using ha, he⟩
    | [c] =>
      simp only [peGo]
      simp at ha
      split
      · split
        · exact ⟨by simp; omega, he⟩
        · exact ⟨by simp, push (by omega)⟩
      · exact ⟨by simpa using ha, he⟩
    | c :: d :: r =>
      rw [peGo]
      simp at ha hn
      split
      · split
        · exact ih _ _ _ (by simp; omega) (by simp; omega) he
        · exact ih _ _ _ (by omega) (by simp; omega) he
      · split
        · split
          · exact ih _ _ _ (by simp; omega) (by simp; omega) he
          · exact ih _ _ _ (by simp; omega) (by simp; omega) (push (by omega))
        · exact ih _ _ _ (by simp; omega) (by simp; omega) he

theorem suffix_iff (p : List UInt8) : [47].isSuffixOf p = true ↔ ∃ c, p.getLast? = some c ∧ c.toNat = 47 := by
  rw [List.isSuffixOf_iff_suffix]
  constructor
  · rintro ⟨t, rfl⟩
    exact ⟨47, by simp, rfl⟩
  · rintro ⟨c, h1, h2⟩
    obtain ⟨t, rfl⟩ := List.getLast?_eq_some_iff.1 h1
    have : c = 47 := UInt8.toNat.inj (by rw [h2]; rfl)
    exact ⟨t, by rw [this]⟩

/-- The shape of the answer: elements that are not empty and hold no slash; behind them, where the pattern ends in a slash, one empty element. -/
theorem pe_shape (p : List UInt8) (h0 : p ≠ []) :
    ∃ els x, pe p = els ++ [x] ∧ (∀ y ∈ els, Good y) ∧ slashFree x ∧ ((x = []) ↔ ∃ c, p.getLast? = some c ∧ c.toNat = 47) ∧ els.length ≤ p.length ∧ ∀ y ∈ els ++ [x], y.length ≤ p.length := by
  have hg := peGo_good p.length p [] [] (Nat.le_refl _) (by intro c hc; simp at hc) (by simp)
  have hl := peGo_last p.length p [] [] (Nat.le_refl _) h0
  have hn := peGo_len p.length p [] [] (Nat.le_refl _)
  have hm := peGo_bound p.length p.length p [] [] (Nat.le_refl _) (by simp) (by simp)
  refine ⟨(peGo p [] []).2, (peGo p [] []).1, ?_, hg.2, hg.1, ?_, by simpa using hn, ?_⟩
  · unfold pe fin
    refine if_pos ?_
    obtain ⟨c, hc⟩ : ∃ c, p.getLast? = some c := ⟨p.getLast h0, List.getLast?_eq_some_getLast h0⟩
    by_cases h47 : c.toNat = 47
    · exact .inr ((suffix_iff p).2 ⟨c, hc, h47⟩)
    · exact .inl (hl.2 ⟨c, hc, h47⟩)
  · refine ⟨fun h => ?_, fun h => hl.1 h⟩
    obtain ⟨c, hc⟩ : ∃ c, p.getLast? = some c := ⟨p.getLast h0, List.getLast?_eq_some_getLast h0⟩
    by_cases h47 : c.toNat = 47
    · exact ⟨c, hc, h47⟩
    · exact absurd h (hl.2 ⟨c, hc, h47⟩)
  · intro y hy
    rw [List.mem_append] at hy
    rcases hy with hy | hy
    · exact hm.2 y hy
    · simp at hy; rw [hy]; exact hm.1

theorem pe_nil : pe [] = [] := by decide

/-- A slash ahead of a pattern that is not empty changes nothing. -/
theorem pe_slash (p : List UInt8) (h0 : p ≠ []) : pe (47 :: p) = pe p := by
  obtain ⟨d, r, rfl⟩ := List.exists_cons_of_ne_nil h0
  have e : peGo (47 :: d :: r) [] [] = peGo (d :: r) [] [] := by
    rw [peGo, if_neg (by decide), if_pos (by decide), if_pos rfl]
  have e2 : [47].isSuffixOf (47 :: d :: r) = [47].isSuffixOf (d :: r) := by
    rw [Bool.eq_iff_iff, suffix_iff, suffix_iff, List.getLast?_cons_cons]
  unfold pe fin
  rw [e, e2]
end Go.Proofs.Qxb6602912a.Split
