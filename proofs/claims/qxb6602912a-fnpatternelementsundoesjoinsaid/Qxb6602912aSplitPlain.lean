/- The plain function of patternElements: no Go in sight. -/
namespace Go.Proofs.Qxb6602912a.Split

/-- The loop of patternElements: the rest of the pattern, the element so far, the elements so far. -/
def peGo : List UInt8 → List UInt8 → List (List UInt8) → List UInt8 × List (List UInt8)
  | [], acc, els => (acc, els)
  | [c], acc, els =>
    if c.toNat = 47 then (if acc = [] then (acc, els) else ([], els ++ [acc])) else (acc ++ [c], els)
  | c :: d :: r, acc, els =>
    if c.toNat = 92 then (if d.toNat = 47 then peGo (d :: r) acc els else peGo r (acc ++ [c, d]) els)
    else if c.toNat = 47 then (if acc = [] then peGo (d :: r) acc els else peGo (d :: r) [] (els ++ [acc]))
    else peGo (d :: r) (acc ++ [c]) els

def fin (p : List UInt8) (x : List UInt8 × List (List UInt8)) : List (List UInt8) :=
  if x.1 ≠ [] ∨ [47].isSuffixOf p = true then x.2 ++ [x.1] else x.2

def pe (p : List UInt8) : List (List UInt8) := fin p (peGo p [] [])

theorem drop_at (s : ByteArray) (k : Nat) (h : k < s.size) : s.data.toList.drop k = s[k] :: s.data.toList.drop (k + 1) := by
  rw [List.drop_eq_getElem_cons (by simpa using h)]; rfl
theorem drop_end (s : ByteArray) (k : Nat) (h : s.size ≤ k) : s.data.toList.drop k = [] := List.drop_of_length_le (by simpa using h)

section
variable (s : ByteArray) (k : Nat) (acc : List UInt8) (els : List (List UInt8))
theorem st_pair (h : k + 1 < s.size) (hc : s[k].toNat = 92) (hd : s[k + 1].toNat ≠ 47) : peGo (s.data.toList.drop k) acc els = peGo (s.data.toList.drop (k + 2)) (acc ++ [s[k], s[k + 1]]) els := by
  rw [drop_at s k (by omega), drop_at s (k + 1) h, peGo, if_pos hc, if_neg hd]
theorem st_esc (h : k + 1 < s.size) (hc : s[k].toNat = 92) (hd : s[k + 1].toNat = 47) : peGo (s.data.toList.drop k) acc els = peGo (s.data.toList.drop (k + 1)) acc els := by
  rw [drop_at s k (by omega), drop_at s (k + 1) h, peGo, if_pos hc, if_pos hd]
theorem st_byte (h : k < s.size) (hc : s[k].toNat ≠ 92 ∨ s.size ≤ k + 1) (hd : s[k].toNat ≠ 47) : peGo (s.data.toList.drop k) acc els = peGo (s.data.toList.drop (k + 1)) (acc ++ [s[k]]) els := by
  by_cases h1 : k + 1 < s.size
  · have hc' : s[k].toNat ≠ 92 := by omega
    rw [drop_at s k (by omega), drop_at s (k + 1) h1, peGo, if_neg hc', if_neg hd]
  · rw [drop_at s k (by omega), drop_end s (k + 1) (by omega)]; simp only [peGo, if_neg hd]
theorem st_slash (h : k < s.size) (hd : s[k].toNat = 47) (ha : acc ≠ []) : peGo (s.data.toList.drop k) acc els = peGo (s.data.toList.drop (k + 1)) [] (els ++ [acc]) := by
  by_cases h1 : k + 1 < s.size
  · rw [drop_at s k (by omega), drop_at s (k + 1) h1, peGo, if_neg (by omega), if_pos hd, if_neg ha]
  · rw [drop_at s k (by omega), drop_end s (k + 1) (by omega)]; simp only [peGo, if_pos hd, if_neg ha]
theorem st_slash0 (h : k < s.size) (hd : s[k].toNat = 47) : peGo (s.data.toList.drop k) [] els = peGo (s.data.toList.drop (k + 1)) [] els := by
  by_cases h1 : k + 1 < s.size
  · rw [drop_at s k (by omega), drop_at s (k + 1) h1, peGo, if_neg (by omega), if_pos hd, if_pos rfl]
  · rw [drop_at s k (by omega), drop_end s (k + 1) (by omega)]; simp only [peGo, if_pos hd, if_true]
theorem st_end (h : s.size ≤ k) : peGo (s.data.toList.drop k) acc els = (acc, els) := by
  rw [drop_end s k h]; rfl
end
end Go.Proofs.Qxb6602912a.Split
