/- The plain function of b1SplitModel, and that it is patternElements'. No Go in sight. -/
import Derived.Test.Qxb6602912aSplitLaws
namespace Go.Proofs.Qxb6602912a.Split

/-- How many backslashes a list begins with. -/
def cnt : List UInt8 → Nat
  | [] => 0
  | c :: r => if c.toNat = 92 then cnt r + 1 else 0
/-- How many it ends with. -/
def tb (x : List UInt8) : Nat := cnt x.reverse

theorem tb_snoc (x : List UInt8) (c : UInt8) : tb (x ++ [c]) = if c.toNat = 92 then tb x + 1 else 0 := by
  unfold tb
  rw [List.reverse_append]
  rfl
theorem tb_pair (x : List UInt8) (c d : UInt8) : tb (x ++ [c, d]) = if d.toNat = 92 then (if c.toNat = 92 then tb x + 1 else 0) + 1 else 0 := by
  rw [show x ++ [c, d] = (x ++ [c]) ++ [d] by simp, tb_snoc, tb_snoc]

def mend (x : List UInt8) : List UInt8 := if tb x % 2 = 1 then x.dropLast else x

theorem mend_even {x : List UInt8} (h : tb x % 2 = 0) : mend x = x := by unfold mend; rw [if_neg (by omega)]
theorem mend_odd {x : List UInt8} {c : UInt8} (h : tb x % 2 = 0) (hc : c.toNat = 92) : mend (x ++ [c]) = x := by
  unfold mend
  rw [tb_snoc, if_pos hc, if_pos (by omega)]
  simp

def push (els : List (List UInt8)) (x : List UInt8) : List (List UInt8) := if x = [] then els else els ++ [x]

def smGo : List UInt8 → List UInt8 → List (List UInt8) → List UInt8 × List (List UInt8)
  | [], cur, els => (cur, els)
  | c :: r, cur, els => if c.toNat = 47 then smGo r [] (push els (mend cur)) else smGo r (cur ++ [c]) els

theorem smGo_slash {c : UInt8} (h : c.toNat = 47) (r cur : List UInt8) (els : List (List UInt8)) : smGo (c :: r) cur els = smGo r [] (push els (mend cur)) := by rw [smGo, if_pos h]
theorem smGo_byte {c : UInt8} (h : c.toNat ≠ 47) (r cur : List UInt8) (els : List (List UInt8)) : smGo (c :: r) cur els = smGo r (cur ++ [c]) els := by rw [smGo, if_neg h]

theorem push_eq (els : List (List UInt8)) (acc : List UInt8) (r : List UInt8) :
    (if acc = [] then smGo r acc els else smGo r [] (els ++ [acc])) = smGo r [] (push els acc) := by
  unfold push
  by_cases h : acc = []
  · rw [if_pos h, if_pos h, h]
  · rw [if_neg h, if_neg h]

/-- THE PLAIN LAW: patternElements' loop is the model's, from an element that ends in an even run of backslashes. -/
theorem pe_sm : ∀ (n : Nat) (r acc : List UInt8) (els : List (List UInt8)), r.length ≤ n → tb acc % 2 = 0 → peGo r acc els = smGo r acc els := by
  intro n
  induction n with
  | zero =>
    intro r acc els hn _
    have : r = [] := List.eq_nil_of_length_eq_zero (by omega)
    subst this
    rfl
  | succ n ih =>
    intro r acc els hn ha
    have h0 : tb ([] : List UInt8) % 2 = 0 := rfl
    match r with
    | [] => rfl
    | [c] =>
      simp only [peGo]
      by_cases h47 : c.toNat = 47
      · rw [if_pos h47, smGo_slash h47, mend_even ha, ← push_eq]
        rfl
      · rw [if_neg h47, smGo_byte h47]
        rfl
    | c :: d :: r =>
      rw [peGo]
      simp only [List.length_cons] at hn
      by_cases h92 : c.toNat = 92
      · rw [if_pos h92, smGo_byte (by omega)]
        by_cases d47 : d.toNat = 47
        · rw [if_pos d47, ih _ _ _ (by simp; omega) ha, smGo_slash d47, smGo_slash d47, mend_even ha, mend_odd ha h92]
        · rw [if_neg d47, smGo_byte d47, List.append_assoc, ih _ _ _ (by omega)]
          · rfl
          · rw [tb_pair, if_pos h92]
            split <;> omega
      · rw [if_neg h92]
        by_cases h47 : c.toNat = 47
        · rw [if_pos h47, smGo_slash h47, mend_even ha, ← push_eq, ih _ _ _ (by simp; omega) ha, ih _ _ _ (by simp; omega) h0]
        · rw [if_neg h47, smGo_byte h47]
          exact ih _ _ _ (by simp; omega) (by rw [tb_snoc, if_neg h92])

theorem pe_model (p : List UInt8) : pe p = fin p (smGo p [] []) := by
  unfold pe
  rw [pe_sm p.length p [] [] (Nat.le_refl _) rfl]

/-! ### The model's loop, by places -/
def field (s : ByteArray) (a b : Nat) : List UInt8 := (s.data.toList.drop a).take (b - a)

theorem field_data (s : ByteArray) (a b : Nat) : (s.extract a b).data.toList = field s a b := by
  simp [field, ByteArray.data_extract, Array.toList_extract, List.extract_eq_take_drop]
theorem field_eq (s : ByteArray) (a b : Nat) : s.extract a b = ⟨(field s a b).toArray⟩ := by
  rw [← field_data]
theorem field_self (s : ByteArray) (a : Nat) : field s a a = [] := by simp [field]
theorem field_length (s : ByteArray) (a b : Nat) (h : b ≤ s.size) : (field s a b).length = b - a := by
  have : s.data.toList.length = s.size := by simp
  simp only [field, List.length_take, List.length_drop]; omega
theorem field_snoc (s : ByteArray) (a k : Nat) (h : a ≤ k) (hk : k < s.size) : field s a (k + 1) = field s a k ++ [s[k]] := by
  unfold field
  rw [show k + 1 - a = (k - a) + 1 by omega, List.take_succ_eq_append_getElem (by simp; omega)]
  congr 2
  rw [List.getElem_drop]
  simp only [show a + (k - a) = k by omega]
  rfl

theorem sm_byte (s : ByteArray) (a k : Nat) (els : List (List UInt8)) (h : a ≤ k) (hk : k < s.size) (hc : s[k].toNat ≠ 47) : smGo (s.data.toList.drop k) (field s a k) els = smGo (s.data.toList.drop (k + 1)) (field s a (k + 1)) els := by
  rw [drop_at s k hk, smGo_byte hc, field_snoc s a k h hk]
theorem sm_slash (s : ByteArray) (a k : Nat) (els : List (List UInt8)) (hk : k < s.size) (hc : s[k].toNat = 47) : smGo (s.data.toList.drop k) (field s a k) els = smGo (s.data.toList.drop (k + 1)) (field s (k + 1) (k + 1)) (push els (mend (field s a k))) := by
  rw [drop_at s k hk, smGo_slash hc, field_self]
theorem sm_end (s : ByteArray) (a k : Nat) (els : List (List UInt8)) (hk : s.size ≤ k) : smGo (s.data.toList.drop k) (field s a k) els = (field s a k, els) := by
  rw [drop_end s k hk]; rfl

/-- The trailing run, by places from the end. -/
theorem cnt_at (s : ByteArray) (m : Nat) (h : m < s.size) : cnt (s.data.toList.reverse.drop m) = if (s[s.size - 1 - m]).toNat = 92 then cnt (s.data.toList.reverse.drop (m + 1)) + 1 else 0 := by
  have hl : s.data.toList.length = s.size := by simp
  rw [List.drop_eq_getElem_cons (by rw [List.length_reverse]; omega), cnt, List.getElem_reverse]
  have : s.data.toList[s.data.toList.length - 1 - m]'(by omega) = s[s.size - 1 - m] := by
    simp only [hl]; rfl
  rw [this]
theorem cnt_end (s : ByteArray) (m : Nat) (h : s.size ≤ m) : cnt (s.data.toList.reverse.drop m) = 0 := by
  rw [List.drop_of_length_le (by simpa using h)]; rfl
end Go.Proofs.Qxb6602912a.Split
