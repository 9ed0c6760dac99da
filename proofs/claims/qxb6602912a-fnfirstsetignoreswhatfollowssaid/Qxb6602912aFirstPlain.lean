/- The plain law of firstSet: no Go in sight. -/
namespace Go.Proofs.Qxb6602912a.First

/-- What firstSet's loop answers on the rest of the pattern, from place i, with n marks seen. -/
def fsGo : List UInt8 → Nat → Nat → Int × Int
  | [], _, _ => (-1, 0)
  | c :: r, i, n =>
    if c.toNat = 63 then fsGo r (i + 1) (n + 1)
    else if c.toNat = 91 then (if 0 < n then ((i : Int), (n : Int)) else (-1, 0))
    else if c.toNat = 42 then fsGo r (i + 1) n
    else (-1, 0)

def fs : List UInt8 → Int × Int
  | [] => (-1, 0)
  | c :: r => if c.toNat = 42 then fsGo r 1 0 else (-1, 0)

theorem fsGo_none (r : List UInt8) (i n : Nat) (h : ∀ c ∈ r, c.toNat ≠ 91) : fsGo r i n = (-1, 0) := by
  induction r generalizing i n with
  | nil => rfl
  | cons c r ih =>
    have hc := h c (by simp)
    have hr : ∀ c ∈ r, c.toNat ≠ 91 := fun d hd => h d (by simp [hd])
    unfold fsGo
    rw [if_neg hc]
    split
    · exact ih _ _ hr
    · split
      · exact ih _ _ hr
      · rfl

/-- A refusal is (-1, 0); else the facts on what is found, and whatever is appended changes nothing. -/
theorem fsGo_facts (r : List UInt8) (i n : Nat) (hn : n < i) :
    fsGo r i n = (-1, 0) ∨ ∃ k m : Nat, fsGo r i n = ((k : Int), (m : Int)) ∧ 0 < m ∧ m < k ∧ i ≤ k ∧ k < i + r.length ∧ (∃ c, r[k - i]? = some c ∧ c.toNat = 91) ∧ ∀ q, fsGo (r ++ q) i n = ((k : Int), (m : Int)) := by
  induction r generalizing i n with
  | nil => left; rfl
  | cons c r ih =>
    by_cases h63 : c.toNat = 63
    · have e : ∀ q, fsGo (c :: q) i n = fsGo q (i + 1) (n + 1) := fun q => by rw [fsGo, if_pos h63]
      rcases ih (i + 1) (n + 1) (by omega) with h | ⟨k, m, h1, h2, h3, h4, h5, ⟨d, h6, h6'⟩, h7⟩
      · left; rw [e]; exact h
      · right
        refine ⟨k, m, by rw [e]; exact h1, h2, h3, by omega, by simp; omega, ⟨d, ?_, h6'⟩, fun q => by rw [List.cons_append, e]; exact h7 q⟩
        rw [show k - i = (k - (i + 1)) + 1 by omega, List.getElem?_cons_succ]; exact h6
    · by_cases h91 : c.toNat = 91
      · have e : ∀ q, fsGo (c :: q) i n = if 0 < n then ((i : Int), (n : Int)) else (-1, 0) := fun q => by rw [fsGo, if_neg h63, if_pos h91]
        by_cases h0 : 0 < n
        · right
          exact ⟨i, n, by rw [e, if_pos h0], h0, hn, Nat.le_refl _, by simp, ⟨c, by simp, h91⟩, fun q => by rw [List.cons_append, e, if_pos h0]⟩
        · left; rw [e, if_neg h0]
      · by_cases h42 : c.toNat = 42
        · have e : ∀ q, fsGo (c :: q) i n = fsGo q (i + 1) n := fun q => by rw [fsGo, if_neg h63, if_neg h91, if_pos h42]
          rcases ih (i + 1) n (by omega) with h | ⟨k, m, h1, h2, h3, h4, h5, ⟨d, h6, h6'⟩, h7⟩
          · left; rw [e]; exact h
          · right
            refine ⟨k, m, by rw [e]; exact h1, h2, h3, by omega, by simp; omega, ⟨d, ?_, h6'⟩, fun q => by rw [List.cons_append, e]; exact h7 q⟩
            rw [show k - i = (k - (i + 1)) + 1 by omega, List.getElem?_cons_succ]; exact h6
        · left; rw [fsGo, if_neg h63, if_neg h91, if_neg h42]

theorem fs_facts (l : List UInt8) :
    fs l = (-1, 0) ∨ ∃ k m : Nat, fs l = ((k : Int), (m : Int)) ∧ 0 < m ∧ m < k ∧ k < l.length ∧ (∃ c, l[k]? = some c ∧ c.toNat = 91) ∧ ∀ q, fs (l ++ q) = ((k : Int), (m : Int)) := by
  match l with
  | [] => left; rfl
  | c :: r =>
    by_cases h42 : c.toNat = 42
    · have e : ∀ q, fs (c :: q) = fsGo q 1 0 := fun q => by rw [fs, if_pos h42]
      rcases fsGo_facts r 1 0 (by omega) with h | ⟨k, m, h1, h2, h3, h4, h5, ⟨d, h6, h6'⟩, h7⟩
      · left; rw [e]; exact h
      · right
        refine ⟨k, m, by rw [e]; exact h1, h2, h3, by simp; omega, ⟨d, ?_, h6'⟩, fun q => by rw [List.cons_append, e]; exact h7 q⟩
        rw [show k = (k - 1) + 1 by omega, List.getElem?_cons_succ]; exact h6
    · left; rw [fs, if_neg h42]

theorem drop_at (s : ByteArray) (k : Nat) (h : k < s.size) : s.data.toList.drop k = s[k] :: s.data.toList.drop (k + 1) := by
  rw [List.drop_eq_getElem_cons (by simpa using h)]; rfl

/-- One round of the loop, by the byte at k. -/
theorem step_mark (s : ByteArray) (k n : Nat) (h : k < s.size) (hc : s[k].toNat = 63) : fsGo (s.data.toList.drop k) k n = fsGo (s.data.toList.drop (k + 1)) (k + 1) (n + 1) := by
  rw [drop_at s k h, fsGo, if_pos hc]
theorem step_star (s : ByteArray) (k n : Nat) (h : k < s.size) (hc : s[k].toNat = 42) : fsGo (s.data.toList.drop k) k n = fsGo (s.data.toList.drop (k + 1)) (k + 1) n := by
  rw [drop_at s k h, fsGo, if_neg (by omega), if_neg (by omega), if_pos hc]
theorem step_open (s : ByteArray) (k n : Nat) (h : k < s.size) (hc : s[k].toNat = 91) : fsGo (s.data.toList.drop k) k n = if 0 < n then ((k : Int), (n : Int)) else (-1, 0) := by
  rw [drop_at s k h, fsGo, if_neg (by omega), if_pos hc]
theorem step_other (s : ByteArray) (k n : Nat) (h : k < s.size) (h1 : s[k].toNat ≠ 63) (h2 : s[k].toNat ≠ 91) (h3 : s[k].toNat ≠ 42) : fsGo (s.data.toList.drop k) k n = (-1, 0) := by
  rw [drop_at s k h, fsGo, if_neg h1, if_neg h2, if_neg h3]
theorem step_end (s : ByteArray) (k n : Nat) (h : s.size ≤ k) : fsGo (s.data.toList.drop k) k n = (-1, 0) := by
  rw [List.drop_of_length_le (by simpa using h)]; rfl
theorem fs_star (s : ByteArray) (h : 0 < s.size) (hc : s[0].toNat = 42) : fs s.data.toList = fsGo (s.data.toList.drop 1) 1 0 := by
  have e := drop_at s 0 h
  rw [List.drop_zero] at e
  rw [e, fs, if_pos hc]
  simp
theorem fs_no (s : ByteArray) (h : ∀ h : 0 < s.size, s[0].toNat ≠ 42) : fs s.data.toList = (-1, 0) := by
  by_cases h0 : 0 < s.size
  · have e := drop_at s 0 h0
    rw [List.drop_zero] at e
    rw [e, fs, if_neg (h h0)]
  · have hl : s.data.toList.length = s.size := by simp
    have : s.data.toList = [] := List.eq_nil_of_length_eq_zero (by omega)
    rw [this]; rfl
theorem no_open (s : ByteArray) (h : ∀ (j : Nat) (hj : j < s.size), s[j].toNat ≠ 91) : fs s.data.toList = (-1, 0) := by
  have hall : ∀ c ∈ s.data.toList, c.toNat ≠ 91 := by
    intro c hc
    obtain ⟨j, hj, rfl⟩ := List.getElem_of_mem hc
    exact h j (by simpa using hj)
  match hl : s.data.toList with
  | [] => rfl
  | c :: r =>
    rw [fs]
    split
    · exact fsGo_none _ _ _ fun d hd => hall d (by rw [hl]; simp [hd])
    · rfl
end Go.Proofs.Qxb6602912a.First
