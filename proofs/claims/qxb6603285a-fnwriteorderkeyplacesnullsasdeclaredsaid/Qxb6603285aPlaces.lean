/- The walk of the law on where NULLs stand, at each of the sixteen cases. -/
import Derived.Test.Qxb6603285aPrefix
namespace Go.Proofs.Qxb6603285a.Ord
open Go.RowKit
set_option linter.unusedSimpArgs false
set_option linter.unusedVariables false

theorem below_drewN {B : Nat} {a w : World} (h : Below B a w) (n : Nat) : Below B a (w.drewN n) := h.trans ⟨rfl, rfl, rfl, Nat.le_refl _, fun _ _ => rfl⟩

/-- A string value under a name, its bytes kept as a hidden fact. -/
theorem named (s : ByteArray) (l : List UInt8) (h : s.data.toList = l) : ∃ t : ByteArray, t = s ∧ Hid (t.data.toList = l) ∧ t.size = l.length := ⟨s, rfl, h, by rw [← h]; simp⟩

/-- A text that opens with the expression parts from a leading term at the byte behind the bracketed expression. -/
theorem part_lead (x l t : List UInt8) (h : (32 :: l)[1]? ≠ some 41) : (x ++ (32 :: l))[x.length + 1]? ≠ ((40 :: (x ++ (41 :: t)) : List UInt8))[x.length + 1]? := by
  rw [List.getElem?_append_right (by omega), List.getElem?_cons_succ, List.getElem?_append_right (by omega)]
  simp only [Nat.sub_self, Nat.add_sub_cancel_left]
  exact h
/-- ') IS NULL' parts from ') IS NOT NULL' at its seventh byte. -/
theorem part_nn (x t : List UInt8) : ((40 :: (x ++ [41, 32, 73, 83, 32, 78, 85, 76, 76, 44, 32]) : List UInt8) ++ t)[x.length + 7]? ≠ ((40 :: (x ++ [41, 32, 73, 83, 32, 78, 79, 84, 32, 78, 85, 76, 76, 44, 32]) : List UInt8))[x.length + 7]? := by
  rw [List.cons_append, show x.length + 7 = (x.length + 6) + 1 from rfl, List.getElem?_cons_succ, List.getElem?_cons_succ, List.append_assoc, List.getElem?_append_right (l₁ := x) (by omega), List.getElem?_append_right (l₁ := x) (by omega)]
  simp only [Nat.add_sub_cancel_left]
  simp

set_option maxHeartbeats 1000000 in
theorem pl_000 (a1 a2 a3 : ByteArray) (a6 : Int) (a7 : Bool) (h1 : a1.size ≤ 65536) (h2 : a2.size ≤ 65536) (h3 : a3.size ≤ 65536) (w : World) :
    Calls Try.prog 4 #[.int .i64 0, .string a1, .string a2, .string a3, .int .i64 0, .int .i64 0, .int .i64 a6, .bool a7] w fun e w' => e = .returned (.bool true) ∧ Below w.heap.size w w' := by
  have hl2 : a2.data.toList.length = a2.size := by simp
  have hl1 : a1.data.toList.length = a1.size := by simp
  have HL1 := hide hl1
  have HL2 := hide hl2
  have hT : term 0 0 0 a2.data.toList = (a2.data.toList ++ (32 :: [65, 83, 67] : List UInt8)) := by simp [term, lead, clause, tAsc, tDesc, tFirst, tLast, tNotNull, tNull]
  have HT := hide hT
  clear hl1 hl2 hT
  go_enter Try.func4, Try.ntmps4
  go_wp2_with (first | (go_at_call 11; go_in))
  refine (ZZ_any 0 0 0 (by omega) (by omega) (by omega) (by omega) (by omega) (by omega) a1 a2 a3 a6 a7 (by omega) (by omega) _).mono ?_
  rintro e w1 ⟨rfl, hbel⟩
  rw [HT.out]
  obtain ⟨G, hG, HG, hGs⟩ := named ⟨(a1.data.toList ++ (a2.data.toList ++ (32 :: [65, 83, 67] : List UInt8))).toArray⟩ (a1.data.toList ++ (a2.data.toList ++ (32 :: [65, 83, 67] : List UInt8))) (by simp)
  rw [← hG]
  have hGb : G.size ≤ 16777216 := by rw [hGs]; simp only [List.length_append, List.length_cons, List.length_nil, HL1.out, HL2.out]; omega
  have hGa : a1.size ≤ G.size := by rw [hGs, List.length_append, HL1.out]; omega
  clear hG hGs HT
  go_wp2_with fail
  refine (hp_yes G a1 _ HG.out hGb _).mono ?_
  rintro e w2 ⟨rfl, n2, rfl⟩
  go_wp2_with fail
  obtain ⟨S, hS, HS, hSs⟩ := named (G.extract a1.size G.size) (a2.data.toList ++ (32 :: [65, 83, 67] : List UInt8)) (cut_list G a1.size _ _ HG.out HL1.out)
  obtain ⟨N, hN, HN, hNs⟩ := named (({ data := #[40] } : ByteArray) ++ a2 ++ ⟨#[41, 32, 73, 83, 32, 78, 79, 84, 32, 78, 85, 76, 76, 44, 32]⟩) (40 :: (a2.data.toList ++ [41, 32, 73, 83, 32, 78, 79, 84, 32, 78, 85, 76, 76, 44, 32]) : List UInt8) (by simp)
  obtain ⟨M, hM, HM, hMs⟩ := named (({ data := #[40] } : ByteArray) ++ a2 ++ ⟨#[41, 32, 73, 83, 32, 78, 85, 76, 76, 44, 32]⟩) (40 :: (a2.data.toList ++ [41, 32, 73, 83, 32, 78, 85, 76, 76, 44, 32]) : List UInt8) (by simp)
  rw [← hS, ← hN, ← hM]
  simp only [List.length_append, List.length_cons, List.length_nil, HL2.out] at hSs hNs hMs
  have HSs := hide hSs
  have hSb : S.size ≤ 16777216 := by omega
  have hNb : N.size ≤ 16777216 := by omega
  have hMb : M.size ≤ 16777216 := by omega
  have HNs := hide hNs
  have HMs := hide hMs
  clear hS hN hM hSs hNs hMs HG hGb hGa
  refine (hp_no S N (a2.data.toList.length + 1) (by rw [HNs.out, HL2.out]; omega) (by rw [HS.out, HN.out]; exact part_lead _ _ _ (by decide)) hSb hNb _).mono ?_
  rintro e w3 ⟨rfl, n3, rfl⟩
  go_wp2_with fail
  refine (hp_no S M (a2.data.toList.length + 1) (by rw [HMs.out, HL2.out]; omega) (by rw [HS.out, HM.out]; exact part_lead _ _ _ (by decide)) hSb hMb _).mono ?_
  rintro e w4 ⟨rfl, n4, rfl⟩
  go_wp2_with fail
  have hRa : a2.size + 1 ≤ S.size := by have := HSs.out; omega
  have h5 : S.data.toList = (a2 ++ ({ data := #[32] } : ByteArray)).data.toList ++ ([65, 83, 67] : List UInt8) := by rw [HS.out]; simp
  have H5 := hide h5
  clear h5
  refine (hp_yes S (a2 ++ ({ data := #[32] } : ByteArray)) _ H5.out hSb _).mono ?_
  rintro e w5 ⟨rfl, n5, rfl⟩
  go_wp2_with fail
  have hE : S.extract (a2.size + 1) S.size = ⟨#[65, 83, 67]⟩ := str_eq (cut_list S (a2.size + 1) (a2.data.toList ++ [32]) [65, 83, 67] (by rw [HS.out]; simp) (by rw [List.length_append, HL2.out]; rfl))
  rw [hE]
  clear hE hRa
  refine (hp_no ⟨#[65, 83, 67]⟩ ⟨#[68, 69, 83, 67]⟩ 0 (by decide) (by decide) (by decide) (by decide) _).mono ?_
  rintro e w6 ⟨rfl, n6, rfl⟩
  go_wp2_with fail
  refine (hp_yes ⟨#[65, 83, 67]⟩ ⟨#[65, 83, 67]⟩ [] (by rfl) (by decide) _).mono ?_
  rintro e w7 ⟨rfl, n7, rfl⟩
  go_wp2
  go_ret
  exact ⟨rfl, below_drewN hbel _⟩

set_option maxHeartbeats 1000000 in
theorem pl_001 (a1 a2 a3 : ByteArray) (a6 : Int) (a7 : Bool) (h1 : a1.size ≤ 65536) (h2 : a2.size ≤ 65536) (h3 : a3.size ≤ 65536) (w : World) :
    Calls Try.prog 4 #[.int .i64 0, .string a1, .string a2, .string a3, .int .i64 0, .int .i64 1, .int .i64 a6, .bool a7] w fun e w' => e = .returned (.bool true) ∧ Below w.heap.size w w' := by
  have hl2 : a2.data.toList.length = a2.size := by simp
  have hl1 : a1.data.toList.length = a1.size := by simp
  have HL1 := hide hl1
  have HL2 := hide hl2
  have hT : term 0 0 1 a2.data.toList = (a2.data.toList ++ (32 :: [65, 83, 67, 32, 78, 85, 76, 76, 83, 32, 76, 65, 83, 84] : List UInt8)) := by simp [term, lead, clause, tAsc, tDesc, tFirst, tLast, tNotNull, tNull]
  have HT := hide hT
  clear hl1 hl2 hT
  go_enter Try.func4, Try.ntmps4
  go_wp2_with (first | (go_at_call 11; go_in))
  refine (ZZ_any 0 0 1 (by omega) (by omega) (by omega) (by omega) (by omega) (by omega) a1 a2 a3 a6 a7 (by omega) (by omega) _).mono ?_
  rintro e w1 ⟨rfl, hbel⟩
  rw [HT.out]
  obtain ⟨G, hG, HG, hGs⟩ := named ⟨(a1.data.toList ++ (a2.data.toList ++ (32 :: [65, 83, 67, 32, 78, 85, 76, 76, 83, 32, 76, 65, 83, 84] : List UInt8))).toArray⟩ (a1.data.toList ++ (a2.data.toList ++ (32 :: [65, 83, 67, 32, 78, 85, 76, 76, 83, 32, 76, 65, 83, 84] : List UInt8))) (by simp)
  rw [← hG]
  have hGb : G.size ≤ 16777216 := by rw [hGs]; simp only [List.length_append, List.length_cons, List.length_nil, HL1.out, HL2.out]; omega
  have hGa : a1.size ≤ G.size := by rw [hGs, List.length_append, HL1.out]; omega
  clear hG hGs HT
  go_wp2_with fail
  refine (hp_yes G a1 _ HG.out hGb _).mono ?_
  rintro e w2 ⟨rfl, n2, rfl⟩
  go_wp2_with fail
  obtain ⟨S, hS, HS, hSs⟩ := named (G.extract a1.size G.size) (a2.data.toList ++ (32 :: [65, 83, 67, 32, 78, 85, 76, 76, 83, 32, 76, 65, 83, 84] : List UInt8)) (cut_list G a1.size _ _ HG.out HL1.out)
  obtain ⟨N, hN, HN, hNs⟩ := named (({ data := #[40] } : ByteArray) ++ a2 ++ ⟨#[41, 32, 73, 83, 32, 78, 79, 84, 32, 78, 85, 76, 76, 44, 32]⟩) (40 :: (a2.data.toList ++ [41, 32, 73, 83, 32, 78, 79, 84, 32, 78, 85, 76, 76, 44, 32]) : List UInt8) (by simp)
  obtain ⟨M, hM, HM, hMs⟩ := named (({ data := #[40] } : ByteArray) ++ a2 ++ ⟨#[41, 32, 73, 83, 32, 78, 85, 76, 76, 44, 32]⟩) (40 :: (a2.data.toList ++ [41, 32, 73, 83, 32, 78, 85, 76, 76, 44, 32]) : List UInt8) (by simp)
  rw [← hS, ← hN, ← hM]
  simp only [List.length_append, List.length_cons, List.length_nil, HL2.out] at hSs hNs hMs
  have HSs := hide hSs
  have hSb : S.size ≤ 16777216 := by omega
  have hNb : N.size ≤ 16777216 := by omega
  have hMb : M.size ≤ 16777216 := by omega
  have HNs := hide hNs
  have HMs := hide hMs
  clear hS hN hM hSs hNs hMs HG hGb hGa
  refine (hp_no S N (a2.data.toList.length + 1) (by rw [HNs.out, HL2.out]; omega) (by rw [HS.out, HN.out]; exact part_lead _ _ _ (by decide)) hSb hNb _).mono ?_
  rintro e w3 ⟨rfl, n3, rfl⟩
  go_wp2_with fail
  refine (hp_no S M (a2.data.toList.length + 1) (by rw [HMs.out, HL2.out]; omega) (by rw [HS.out, HM.out]; exact part_lead _ _ _ (by decide)) hSb hMb _).mono ?_
  rintro e w4 ⟨rfl, n4, rfl⟩
  go_wp2_with fail
  have hRa : a2.size + 1 ≤ S.size := by have := HSs.out; omega
  have h5 : S.data.toList = (a2 ++ ({ data := #[32] } : ByteArray)).data.toList ++ ([65, 83, 67, 32, 78, 85, 76, 76, 83, 32, 76, 65, 83, 84] : List UInt8) := by rw [HS.out]; simp
  have H5 := hide h5
  clear h5
  refine (hp_yes S (a2 ++ ({ data := #[32] } : ByteArray)) _ H5.out hSb _).mono ?_
  rintro e w5 ⟨rfl, n5, rfl⟩
  go_wp2_with fail
  have hE : S.extract (a2.size + 1) S.size = ⟨#[65, 83, 67, 32, 78, 85, 76, 76, 83, 32, 76, 65, 83, 84]⟩ := str_eq (cut_list S (a2.size + 1) (a2.data.toList ++ [32]) [65, 83, 67, 32, 78, 85, 76, 76, 83, 32, 76, 65, 83, 84] (by rw [HS.out]; simp) (by rw [List.length_append, HL2.out]; rfl))
  rw [hE]
  clear hE hRa
  refine (hp_no ⟨#[65, 83, 67, 32, 78, 85, 76, 76, 83, 32, 76, 65, 83, 84]⟩ ⟨#[68, 69, 83, 67]⟩ 0 (by decide) (by decide) (by decide) (by decide) _).mono ?_
  rintro e w6 ⟨rfl, n6, rfl⟩
  go_wp2_with fail
  refine (hp_yes ⟨#[65, 83, 67, 32, 78, 85, 76, 76, 83, 32, 76, 65, 83, 84]⟩ ⟨#[65, 83, 67]⟩ [32, 78, 85, 76, 76, 83, 32, 76, 65, 83, 84] (by rfl) (by decide) _).mono ?_
  rintro e w7 ⟨rfl, n7, rfl⟩
  have hX : ((⟨#[65, 83, 67, 32, 78, 85, 76, 76, 83, 32, 76, 65, 83, 84]⟩ : ByteArray).extract 3 14) = ⟨#[32, 78, 85, 76, 76, 83, 32, 76, 65, 83, 84]⟩ := str_eq (cut_list ⟨#[65, 83, 67, 32, 78, 85, 76, 76, 83, 32, 76, 65, 83, 84]⟩ 3 [65, 83, 67] [32, 78, 85, 76, 76, 83, 32, 76, 65, 83, 84] rfl rfl)
  have x1 : (((⟨#[65, 83, 67, 32, 78, 85, 76, 76, 83, 32, 76, 65, 83, 84]⟩ : ByteArray).extract 3 14).toList == [32, 78, 85, 76, 76, 83, 32, 70, 73, 82, 83, 84]) = false := by rw [hX, ByteArray.toList_eq]; rfl
  have x2 : (((⟨#[65, 83, 67, 32, 78, 85, 76, 76, 83, 32, 76, 65, 83, 84]⟩ : ByteArray).extract 3 14).toList == [32, 78, 85, 76, 76, 83, 32, 76, 65, 83, 84]) = true := by rw [hX, ByteArray.toList_eq]; rfl
  clear hX
  go_wp2
  go_ret
  exact ⟨rfl, below_drewN hbel _⟩

set_option maxHeartbeats 1000000 in
theorem pl_002 (a1 a2 a3 : ByteArray) (a6 : Int) (a7 : Bool) (h1 : a1.size ≤ 65536) (h2 : a2.size ≤ 65536) (h3 : a3.size ≤ 65536) (w : World) :
    Calls Try.prog 4 #[.int .i64 0, .string a1, .string a2, .string a3, .int .i64 0, .int .i64 2, .int .i64 a6, .bool a7] w fun e w' => e = .returned (.bool true) ∧ Below w.heap.size w w' := by
  have hl2 : a2.data.toList.length = a2.size := by simp
  have hl1 : a1.data.toList.length = a1.size := by simp
  have HL1 := hide hl1
  have HL2 := hide hl2
  have hT : term 0 0 2 a2.data.toList = (a2.data.toList ++ (32 :: [65, 83, 67, 32, 78, 85, 76, 76, 83, 32, 70, 73, 82, 83, 84] : List UInt8)) := by simp [term, lead, clause, tAsc, tDesc, tFirst, tLast, tNotNull, tNull]
  have HT := hide hT
  clear hl1 hl2 hT
  go_enter Try.func4, Try.ntmps4
  go_wp2_with (first | (go_at_call 11; go_in))
  refine (ZZ_any 0 0 2 (by omega) (by omega) (by omega) (by omega) (by omega) (by omega) a1 a2 a3 a6 a7 (by omega) (by omega) _).mono ?_
  rintro e w1 ⟨rfl, hbel⟩
  rw [HT.out]
  obtain ⟨G, hG, HG, hGs⟩ := named ⟨(a1.data.toList ++ (a2.data.toList ++ (32 :: [65, 83, 67, 32, 78, 85, 76, 76, 83, 32, 70, 73, 82, 83, 84] : List UInt8))).toArray⟩ (a1.data.toList ++ (a2.data.toList ++ (32 :: [65, 83, 67, 32, 78, 85, 76, 76, 83, 32, 70, 73, 82, 83, 84] : List UInt8))) (by simp)
  rw [← hG]
  have hGb : G.size ≤ 16777216 := by rw [hGs]; simp only [List.length_append, List.length_cons, List.length_nil, HL1.out, HL2.out]; omega
  have hGa : a1.size ≤ G.size := by rw [hGs, List.length_append, HL1.out]; omega
  clear hG hGs HT
  go_wp2_with fail
  refine (hp_yes G a1 _ HG.out hGb _).mono ?_
  rintro e w2 ⟨rfl, n2, rfl⟩
  go_wp2_with fail
  obtain ⟨S, hS, HS, hSs⟩ := named (G.extract a1.size G.size) (a2.data.toList ++ (32 :: [65, 83, 67, 32, 78, 85, 76, 76, 83, 32, 70, 73, 82, 83, 84] : List UInt8)) (cut_list G a1.size _ _ HG.out HL1.out)
  obtain ⟨N, hN, HN, hNs⟩ := named (({ data := #[40] } : ByteArray) ++ a2 ++ ⟨#[41, 32, 73, 83, 32, 78, 79, 84, 32, 78, 85, 76, 76, 44, 32]⟩) (40 :: (a2.data.toList ++ [41, 32, 73, 83, 32, 78, 79, 84, 32, 78, 85, 76, 76, 44, 32]) : List UInt8) (by simp)
  obtain ⟨M, hM, HM, hMs⟩ := named (({ data := #[40] } : ByteArray) ++ a2 ++ ⟨#[41, 32, 73, 83, 32, 78, 85, 76, 76, 44, 32]⟩) (40 :: (a2.data.toList ++ [41, 32, 73, 83, 32, 78, 85, 76, 76, 44, 32]) : List UInt8) (by simp)
  rw [← hS, ← hN, ← hM]
  simp only [List.length_append, List.length_cons, List.length_nil, HL2.out] at hSs hNs hMs
  have HSs := hide hSs
  have hSb : S.size ≤ 16777216 := by omega
  have hNb : N.size ≤ 16777216 := by omega
  have hMb : M.size ≤ 16777216 := by omega
  have HNs := hide hNs
  have HMs := hide hMs
  clear hS hN hM hSs hNs hMs HG hGb hGa
  refine (hp_no S N (a2.data.toList.length + 1) (by rw [HNs.out, HL2.out]; omega) (by rw [HS.out, HN.out]; exact part_lead _ _ _ (by decide)) hSb hNb _).mono ?_
  rintro e w3 ⟨rfl, n3, rfl⟩
  go_wp2_with fail
  refine (hp_no S M (a2.data.toList.length + 1) (by rw [HMs.out, HL2.out]; omega) (by rw [HS.out, HM.out]; exact part_lead _ _ _ (by decide)) hSb hMb _).mono ?_
  rintro e w4 ⟨rfl, n4, rfl⟩
  go_wp2_with fail
  have hRa : a2.size + 1 ≤ S.size := by have := HSs.out; omega
  have h5 : S.data.toList = (a2 ++ ({ data := #[32] } : ByteArray)).data.toList ++ ([65, 83, 67, 32, 78, 85, 76, 76, 83, 32, 70, 73, 82, 83, 84] : List UInt8) := by rw [HS.out]; simp
  have H5 := hide h5
  clear h5
  refine (hp_yes S (a2 ++ ({ data := #[32] } : ByteArray)) _ H5.out hSb _).mono ?_
  rintro e w5 ⟨rfl, n5, rfl⟩
  go_wp2_with fail
  have hE : S.extract (a2.size + 1) S.size = ⟨#[65, 83, 67, 32, 78, 85, 76, 76, 83, 32, 70, 73, 82, 83, 84]⟩ := str_eq (cut_list S (a2.size + 1) (a2.data.toList ++ [32]) [65, 83, 67, 32, 78, 85, 76, 76, 83, 32, 70, 73, 82, 83, 84] (by rw [HS.out]; simp) (by rw [List.length_append, HL2.out]; rfl))
  rw [hE]
  clear hE hRa
  refine (hp_no ⟨#[65, 83, 67, 32, 78, 85, 76, 76, 83, 32, 70, 73, 82, 83, 84]⟩ ⟨#[68, 69, 83, 67]⟩ 0 (by decide) (by decide) (by decide) (by decide) _).mono ?_
  rintro e w6 ⟨rfl, n6, rfl⟩
  go_wp2_with fail
  refine (hp_yes ⟨#[65, 83, 67, 32, 78, 85, 76, 76, 83, 32, 70, 73, 82, 83, 84]⟩ ⟨#[65, 83, 67]⟩ [32, 78, 85, 76, 76, 83, 32, 70, 73, 82, 83, 84] (by rfl) (by decide) _).mono ?_
  rintro e w7 ⟨rfl, n7, rfl⟩
  have hX : ((⟨#[65, 83, 67, 32, 78, 85, 76, 76, 83, 32, 70, 73, 82, 83, 84]⟩ : ByteArray).extract 3 15) = ⟨#[32, 78, 85, 76, 76, 83, 32, 70, 73, 82, 83, 84]⟩ := str_eq (cut_list ⟨#[65, 83, 67, 32, 78, 85, 76, 76, 83, 32, 70, 73, 82, 83, 84]⟩ 3 [65, 83, 67] [32, 78, 85, 76, 76, 83, 32, 70, 73, 82, 83, 84] rfl rfl)
  have x1 : (((⟨#[65, 83, 67, 32, 78, 85, 76, 76, 83, 32, 70, 73, 82, 83, 84]⟩ : ByteArray).extract 3 15).toList == [32, 78, 85, 76, 76, 83, 32, 70, 73, 82, 83, 84]) = true := by rw [hX, ByteArray.toList_eq]; rfl
  have x2 : (((⟨#[65, 83, 67, 32, 78, 85, 76, 76, 83, 32, 70, 73, 82, 83, 84]⟩ : ByteArray).extract 3 15).toList == [32, 78, 85, 76, 76, 83, 32, 76, 65, 83, 84]) = false := by rw [hX, ByteArray.toList_eq]; rfl
  clear hX
  go_wp2
  go_ret
  exact ⟨rfl, below_drewN hbel _⟩

set_option maxHeartbeats 1000000 in
theorem pl_003 (a1 a2 a3 : ByteArray) (a6 : Int) (a7 : Bool) (h1 : a1.size ≤ 65536) (h2 : a2.size ≤ 65536) (h3 : a3.size ≤ 65536) (w : World) :
    Calls Try.prog 4 #[.int .i64 0, .string a1, .string a2, .string a3, .int .i64 0, .int .i64 3, .int .i64 a6, .bool a7] w fun e w' => e = .returned (.bool true) ∧ Below w.heap.size w w' := by
  have hl2 : a2.data.toList.length = a2.size := by simp
  have hl1 : a1.data.toList.length = a1.size := by simp
  have HL1 := hide hl1
  have HL2 := hide hl2
  have hT : term 0 0 3 a2.data.toList = (a2.data.toList ++ (32 :: [65, 83, 67, 32, 78, 85, 76, 76, 83, 32, 76, 65, 83, 84] : List UInt8)) := by simp [term, lead, clause, tAsc, tDesc, tFirst, tLast, tNotNull, tNull]
  have HT := hide hT
  clear hl1 hl2 hT
  go_enter Try.func4, Try.ntmps4
  go_wp2_with (first | (go_at_call 11; go_in))
  refine (ZZ_any 0 0 3 (by omega) (by omega) (by omega) (by omega) (by omega) (by omega) a1 a2 a3 a6 a7 (by omega) (by omega) _).mono ?_
  rintro e w1 ⟨rfl, hbel⟩
  rw [HT.out]
  obtain ⟨G, hG, HG, hGs⟩ := named ⟨(a1.data.toList ++ (a2.data.toList ++ (32 :: [65, 83, 67, 32, 78, 85, 76, 76, 83, 32, 76, 65, 83, 84] : List UInt8))).toArray⟩ (a1.data.toList ++ (a2.data.toList ++ (32 :: [65, 83, 67, 32, 78, 85, 76, 76, 83, 32, 76, 65, 83, 84] : List UInt8))) (by simp)
  rw [← hG]
  have hGb : G.size ≤ 16777216 := by rw [hGs]; simp only [List.length_append, List.length_cons, List.length_nil, HL1.out, HL2.out]; omega
  have hGa : a1.size ≤ G.size := by rw [hGs, List.length_append, HL1.out]; omega
  clear hG hGs HT
  go_wp2_with fail
  refine (hp_yes G a1 _ HG.out hGb _).mono ?_
  rintro e w2 ⟨rfl, n2, rfl⟩
  go_wp2_with fail
  obtain ⟨S, hS, HS, hSs⟩ := named (G.extract a1.size G.size) (a2.data.toList ++ (32 :: [65, 83, 67, 32, 78, 85, 76, 76, 83, 32, 76, 65, 83, 84] : List UInt8)) (cut_list G a1.size _ _ HG.out HL1.out)
  obtain ⟨N, hN, HN, hNs⟩ := named (({ data := #[40] } : ByteArray) ++ a2 ++ ⟨#[41, 32, 73, 83, 32, 78, 79, 84, 32, 78, 85, 76, 76, 44, 32]⟩) (40 :: (a2.data.toList ++ [41, 32, 73, 83, 32, 78, 79, 84, 32, 78, 85, 76, 76, 44, 32]) : List UInt8) (by simp)
  obtain ⟨M, hM, HM, hMs⟩ := named (({ data := #[40] } : ByteArray) ++ a2 ++ ⟨#[41, 32, 73, 83, 32, 78, 85, 76, 76, 44, 32]⟩) (40 :: (a2.data.toList ++ [41, 32, 73, 83, 32, 78, 85, 76, 76, 44, 32]) : List UInt8) (by simp)
  rw [← hS, ← hN, ← hM]
  simp only [List.length_append, List.length_cons, List.length_nil, HL2.out] at hSs hNs hMs
  have HSs := hide hSs
  have hSb : S.size ≤ 16777216 := by omega
  have hNb : N.size ≤ 16777216 := by omega
  have hMb : M.size ≤ 16777216 := by omega
  have HNs := hide hNs
  have HMs := hide hMs
  clear hS hN hM hSs hNs hMs HG hGb hGa
  refine (hp_no S N (a2.data.toList.length + 1) (by rw [HNs.out, HL2.out]; omega) (by rw [HS.out, HN.out]; exact part_lead _ _ _ (by decide)) hSb hNb _).mono ?_
  rintro e w3 ⟨rfl, n3, rfl⟩
  go_wp2_with fail
  refine (hp_no S M (a2.data.toList.length + 1) (by rw [HMs.out, HL2.out]; omega) (by rw [HS.out, HM.out]; exact part_lead _ _ _ (by decide)) hSb hMb _).mono ?_
  rintro e w4 ⟨rfl, n4, rfl⟩
  go_wp2_with fail
  have hRa : a2.size + 1 ≤ S.size := by have := HSs.out; omega
  have h5 : S.data.toList = (a2 ++ ({ data := #[32] } : ByteArray)).data.toList ++ ([65, 83, 67, 32, 78, 85, 76, 76, 83, 32, 76, 65, 83, 84] : List UInt8) := by rw [HS.out]; simp
  have H5 := hide h5
  clear h5
  refine (hp_yes S (a2 ++ ({ data := #[32] } : ByteArray)) _ H5.out hSb _).mono ?_
  rintro e w5 ⟨rfl, n5, rfl⟩
  go_wp2_with fail
  have hE : S.extract (a2.size + 1) S.size = ⟨#[65, 83, 67, 32, 78, 85, 76, 76, 83, 32, 76, 65, 83, 84]⟩ := str_eq (cut_list S (a2.size + 1) (a2.data.toList ++ [32]) [65, 83, 67, 32, 78, 85, 76, 76, 83, 32, 76, 65, 83, 84] (by rw [HS.out]; simp) (by rw [List.length_append, HL2.out]; rfl))
  rw [hE]
  clear hE hRa
  refine (hp_no ⟨#[65, 83, 67, 32, 78, 85, 76, 76, 83, 32, 76, 65, 83, 84]⟩ ⟨#[68, 69, 83, 67]⟩ 0 (by decide) (by decide) (by decide) (by decide) _).mono ?_
  rintro e w6 ⟨rfl, n6, rfl⟩
  go_wp2_with fail
  refine (hp_yes ⟨#[65, 83, 67, 32, 78, 85, 76, 76, 83, 32, 76, 65, 83, 84]⟩ ⟨#[65, 83, 67]⟩ [32, 78, 85, 76, 76, 83, 32, 76, 65, 83, 84] (by rfl) (by decide) _).mono ?_
  rintro e w7 ⟨rfl, n7, rfl⟩
  have hX : ((⟨#[65, 83, 67, 32, 78, 85, 76, 76, 83, 32, 76, 65, 83, 84]⟩ : ByteArray).extract 3 14) = ⟨#[32, 78, 85, 76, 76, 83, 32, 76, 65, 83, 84]⟩ := str_eq (cut_list ⟨#[65, 83, 67, 32, 78, 85, 76, 76, 83, 32, 76, 65, 83, 84]⟩ 3 [65, 83, 67] [32, 78, 85, 76, 76, 83, 32, 76, 65, 83, 84] rfl rfl)
  have x1 : (((⟨#[65, 83, 67, 32, 78, 85, 76, 76, 83, 32, 76, 65, 83, 84]⟩ : ByteArray).extract 3 14).toList == [32, 78, 85, 76, 76, 83, 32, 70, 73, 82, 83, 84]) = false := by rw [hX, ByteArray.toList_eq]; rfl
  have x2 : (((⟨#[65, 83, 67, 32, 78, 85, 76, 76, 83, 32, 76, 65, 83, 84]⟩ : ByteArray).extract 3 14).toList == [32, 78, 85, 76, 76, 83, 32, 76, 65, 83, 84]) = true := by rw [hX, ByteArray.toList_eq]; rfl
  clear hX
  go_wp2
  go_ret
  exact ⟨rfl, below_drewN hbel _⟩

set_option maxHeartbeats 1000000 in
theorem pl_010 (a1 a2 a3 : ByteArray) (a6 : Int) (a7 : Bool) (h1 : a1.size ≤ 65536) (h2 : a2.size ≤ 65536) (h3 : a3.size ≤ 65536) (w : World) :
    Calls Try.prog 4 #[.int .i64 0, .string a1, .string a2, .string a3, .int .i64 1, .int .i64 0, .int .i64 a6, .bool a7] w fun e w' => e = .returned (.bool true) ∧ Below w.heap.size w w' := by
  have hl2 : a2.data.toList.length = a2.size := by simp
  have hl1 : a1.data.toList.length = a1.size := by simp
  have HL1 := hide hl1
  have HL2 := hide hl2
  have hT : term 0 1 0 a2.data.toList = (a2.data.toList ++ (32 :: [68, 69, 83, 67] : List UInt8)) := by simp [term, lead, clause, tAsc, tDesc, tFirst, tLast, tNotNull, tNull]
  have HT := hide hT
  clear hl1 hl2 hT
  go_enter Try.func4, Try.ntmps4
  go_wp2_with (first | (go_at_call 11; go_in))
  refine (ZZ_any 0 1 0 (by omega) (by omega) (by omega) (by omega) (by omega) (by omega) a1 a2 a3 a6 a7 (by omega) (by omega) _).mono ?_
  rintro e w1 ⟨rfl, hbel⟩
  rw [HT.out]
  obtain ⟨G, hG, HG, hGs⟩ := named ⟨(a1.data.toList ++ (a2.data.toList ++ (32 :: [68, 69, 83, 67] : List UInt8))).toArray⟩ (a1.data.toList ++ (a2.data.toList ++ (32 :: [68, 69, 83, 67] : List UInt8))) (by simp)
  rw [← hG]
  have hGb : G.size ≤ 16777216 := by rw [hGs]; simp only [List.length_append, List.length_cons, List.length_nil, HL1.out, HL2.out]; omega
  have hGa : a1.size ≤ G.size := by rw [hGs, List.length_append, HL1.out]; omega
  clear hG hGs HT
  go_wp2_with fail
  refine (hp_yes G a1 _ HG.out hGb _).mono ?_
  rintro e w2 ⟨rfl, n2, rfl⟩
  go_wp2_with fail
  obtain ⟨S, hS, HS, hSs⟩ := named (G.extract a1.size G.size) (a2.data.toList ++ (32 :: [68, 69, 83, 67] : List UInt8)) (cut_list G a1.size _ _ HG.out HL1.out)
  obtain ⟨N, hN, HN, hNs⟩ := named (({ data := #[40] } : ByteArray) ++ a2 ++ ⟨#[41, 32, 73, 83, 32, 78, 79, 84, 32, 78, 85, 76, 76, 44, 32]⟩) (40 :: (a2.data.toList ++ [41, 32, 73, 83, 32, 78, 79, 84, 32, 78, 85, 76, 76, 44, 32]) : List UInt8) (by simp)
  obtain ⟨M, hM, HM, hMs⟩ := named (({ data := #[40] } : ByteArray) ++ a2 ++ ⟨#[41, 32, 73, 83, 32, 78, 85, 76, 76, 44, 32]⟩) (40 :: (a2.data.toList ++ [41, 32, 73, 83, 32, 78, 85, 76, 76, 44, 32]) : List UInt8) (by simp)
  rw [← hS, ← hN, ← hM]
  simp only [List.length_append, List.length_cons, List.length_nil, HL2.out] at hSs hNs hMs
  have HSs := hide hSs
  have hSb : S.size ≤ 16777216 := by omega
  have hNb : N.size ≤ 16777216 := by omega
  have hMb : M.size ≤ 16777216 := by omega
  have HNs := hide hNs
  have HMs := hide hMs
  clear hS hN hM hSs hNs hMs HG hGb hGa
  refine (hp_no S N (a2.data.toList.length + 1) (by rw [HNs.out, HL2.out]; omega) (by rw [HS.out, HN.out]; exact part_lead _ _ _ (by decide)) hSb hNb _).mono ?_
  rintro e w3 ⟨rfl, n3, rfl⟩
  go_wp2_with fail
  refine (hp_no S M (a2.data.toList.length + 1) (by rw [HMs.out, HL2.out]; omega) (by rw [HS.out, HM.out]; exact part_lead _ _ _ (by decide)) hSb hMb _).mono ?_
  rintro e w4 ⟨rfl, n4, rfl⟩
  go_wp2_with fail
  have hRa : a2.size + 1 ≤ S.size := by have := HSs.out; omega
  have h5 : S.data.toList = (a2 ++ ({ data := #[32] } : ByteArray)).data.toList ++ ([68, 69, 83, 67] : List UInt8) := by rw [HS.out]; simp
  have H5 := hide h5
  clear h5
  refine (hp_yes S (a2 ++ ({ data := #[32] } : ByteArray)) _ H5.out hSb _).mono ?_
  rintro e w5 ⟨rfl, n5, rfl⟩
  go_wp2_with fail
  have hE : S.extract (a2.size + 1) S.size = ⟨#[68, 69, 83, 67]⟩ := str_eq (cut_list S (a2.size + 1) (a2.data.toList ++ [32]) [68, 69, 83, 67] (by rw [HS.out]; simp) (by rw [List.length_append, HL2.out]; rfl))
  rw [hE]
  clear hE hRa
  refine (hp_yes ⟨#[68, 69, 83, 67]⟩ ⟨#[68, 69, 83, 67]⟩ [] (by rfl) (by decide) _).mono ?_
  rintro e w6 ⟨rfl, n6, rfl⟩
  go_wp2
  go_ret
  exact ⟨rfl, below_drewN hbel _⟩

set_option maxHeartbeats 1000000 in
theorem pl_011 (a1 a2 a3 : ByteArray) (a6 : Int) (a7 : Bool) (h1 : a1.size ≤ 65536) (h2 : a2.size ≤ 65536) (h3 : a3.size ≤ 65536) (w : World) :
    Calls Try.prog 4 #[.int .i64 0, .string a1, .string a2, .string a3, .int .i64 1, .int .i64 1, .int .i64 a6, .bool a7] w fun e w' => e = .returned (.bool true) ∧ Below w.heap.size w w' := by
  have hl2 : a2.data.toList.length = a2.size := by simp
  have hl1 : a1.data.toList.length = a1.size := by simp
  have HL1 := hide hl1
  have HL2 := hide hl2
  have hT : term 0 1 1 a2.data.toList = (a2.data.toList ++ (32 :: [68, 69, 83, 67, 32, 78, 85, 76, 76, 83, 32, 70, 73, 82, 83, 84] : List UInt8)) := by simp [term, lead, clause, tAsc, tDesc, tFirst, tLast, tNotNull, tNull]
  have HT := hide hT
  clear hl1 hl2 hT
  go_enter Try.func4, Try.ntmps4
  go_wp2_with (first | (go_at_call 11; go_in))
  refine (ZZ_any 0 1 1 (by omega) (by omega) (by omega) (by omega) (by omega) (by omega) a1 a2 a3 a6 a7 (by omega) (by omega) _).mono ?_
  rintro e w1 ⟨rfl, hbel⟩
  rw [HT.out]
  obtain ⟨G, hG, HG, hGs⟩ := named ⟨(a1.data.toList ++ (a2.data.toList ++ (32 :: [68, 69, 83, 67, 32, 78, 85, 76, 76, 83, 32, 70, 73, 82, 83, 84] : List UInt8))).toArray⟩ (a1.data.toList ++ (a2.data.toList ++ (32 :: [68, 69, 83, 67, 32, 78, 85, 76, 76, 83, 32, 70, 73, 82, 83, 84] : List UInt8))) (by simp)
  rw [← hG]
  have hGb : G.size ≤ 16777216 := by rw [hGs]; simp only [List.length_append, List.length_cons, List.length_nil, HL1.out, HL2.out]; omega
  have hGa : a1.size ≤ G.size := by rw [hGs, List.length_append, HL1.out]; omega
  clear hG hGs HT
  go_wp2_with fail
  refine (hp_yes G a1 _ HG.out hGb _).mono ?_
  rintro e w2 ⟨rfl, n2, rfl⟩
  go_wp2_with fail
  obtain ⟨S, hS, HS, hSs⟩ := named (G.extract a1.size G.size) (a2.data.toList ++ (32 :: [68, 69, 83, 67, 32, 78, 85, 76, 76, 83, 32, 70, 73, 82, 83, 84] : List UInt8)) (cut_list G a1.size _ _ HG.out HL1.out)
  obtain ⟨N, hN, HN, hNs⟩ := named (({ data := #[40] } : ByteArray) ++ a2 ++ ⟨#[41, 32, 73, 83, 32, 78, 79, 84, 32, 78, 85, 76, 76, 44, 32]⟩) (40 :: (a2.data.toList ++ [41, 32, 73, 83, 32, 78, 79, 84, 32, 78, 85, 76, 76, 44, 32]) : List UInt8) (by simp)
  obtain ⟨M, hM, HM, hMs⟩ := named (({ data := #[40] } : ByteArray) ++ a2 ++ ⟨#[41, 32, 73, 83, 32, 78, 85, 76, 76, 44, 32]⟩) (40 :: (a2.data.toList ++ [41, 32, 73, 83, 32, 78, 85, 76, 76, 44, 32]) : List UInt8) (by simp)
  rw [← hS, ← hN, ← hM]
  simp only [List.length_append, List.length_cons, List.length_nil, HL2.out] at hSs hNs hMs
  have HSs := hide hSs
  have hSb : S.size ≤ 16777216 := by omega
  have hNb : N.size ≤ 16777216 := by omega
  have hMb : M.size ≤ 16777216 := by omega
  have HNs := hide hNs
  have HMs := hide hMs
  clear hS hN hM hSs hNs hMs HG hGb hGa
  refine (hp_no S N (a2.data.toList.length + 1) (by rw [HNs.out, HL2.out]; omega) (by rw [HS.out, HN.out]; exact part_lead _ _ _ (by decide)) hSb hNb _).mono ?_
  rintro e w3 ⟨rfl, n3, rfl⟩
  go_wp2_with fail
  refine (hp_no S M (a2.data.toList.length + 1) (by rw [HMs.out, HL2.out]; omega) (by rw [HS.out, HM.out]; exact part_lead _ _ _ (by decide)) hSb hMb _).mono ?_
  rintro e w4 ⟨rfl, n4, rfl⟩
  go_wp2_with fail
  have hRa : a2.size + 1 ≤ S.size := by have := HSs.out; omega
  have h5 : S.data.toList = (a2 ++ ({ data := #[32] } : ByteArray)).data.toList ++ ([68, 69, 83, 67, 32, 78, 85, 76, 76, 83, 32, 70, 73, 82, 83, 84] : List UInt8) := by rw [HS.out]; simp
  have H5 := hide h5
  clear h5
  refine (hp_yes S (a2 ++ ({ data := #[32] } : ByteArray)) _ H5.out hSb _).mono ?_
  rintro e w5 ⟨rfl, n5, rfl⟩
  go_wp2_with fail
  have hE : S.extract (a2.size + 1) S.size = ⟨#[68, 69, 83, 67, 32, 78, 85, 76, 76, 83, 32, 70, 73, 82, 83, 84]⟩ := str_eq (cut_list S (a2.size + 1) (a2.data.toList ++ [32]) [68, 69, 83, 67, 32, 78, 85, 76, 76, 83, 32, 70, 73, 82, 83, 84] (by rw [HS.out]; simp) (by rw [List.length_append, HL2.out]; rfl))
  rw [hE]
  clear hE hRa
  refine (hp_yes ⟨#[68, 69, 83, 67, 32, 78, 85, 76, 76, 83, 32, 70, 73, 82, 83, 84]⟩ ⟨#[68, 69, 83, 67]⟩ [32, 78, 85, 76, 76, 83, 32, 70, 73, 82, 83, 84] (by rfl) (by decide) _).mono ?_
  rintro e w6 ⟨rfl, n6, rfl⟩
  have hX : ((⟨#[68, 69, 83, 67, 32, 78, 85, 76, 76, 83, 32, 70, 73, 82, 83, 84]⟩ : ByteArray).extract 4 16) = ⟨#[32, 78, 85, 76, 76, 83, 32, 70, 73, 82, 83, 84]⟩ := str_eq (cut_list ⟨#[68, 69, 83, 67, 32, 78, 85, 76, 76, 83, 32, 70, 73, 82, 83, 84]⟩ 4 [68, 69, 83, 67] [32, 78, 85, 76, 76, 83, 32, 70, 73, 82, 83, 84] rfl rfl)
  have x1 : (((⟨#[68, 69, 83, 67, 32, 78, 85, 76, 76, 83, 32, 70, 73, 82, 83, 84]⟩ : ByteArray).extract 4 16).toList == [32, 78, 85, 76, 76, 83, 32, 70, 73, 82, 83, 84]) = true := by rw [hX, ByteArray.toList_eq]; rfl
  have x2 : (((⟨#[68, 69, 83, 67, 32, 78, 85, 76, 76, 83, 32, 70, 73, 82, 83, 84]⟩ : ByteArray).extract 4 16).toList == [32, 78, 85, 76, 76, 83, 32, 76, 65, 83, 84]) = false := by rw [hX, ByteArray.toList_eq]; rfl
  clear hX
  go_wp2
  go_ret
  exact ⟨rfl, below_drewN hbel _⟩

set_option maxHeartbeats 1000000 in
theorem pl_012 (a1 a2 a3 : ByteArray) (a6 : Int) (a7 : Bool) (h1 : a1.size ≤ 65536) (h2 : a2.size ≤ 65536) (h3 : a3.size ≤ 65536) (w : World) :
    Calls Try.prog 4 #[.int .i64 0, .string a1, .string a2, .string a3, .int .i64 1, .int .i64 2, .int .i64 a6, .bool a7] w fun e w' => e = .returned (.bool true) ∧ Below w.heap.size w w' := by
  have hl2 : a2.data.toList.length = a2.size := by simp
  have hl1 : a1.data.toList.length = a1.size := by simp
  have HL1 := hide hl1
  have HL2 := hide hl2
  have hT : term 0 1 2 a2.data.toList = (a2.data.toList ++ (32 :: [68, 69, 83, 67, 32, 78, 85, 76, 76, 83, 32, 70, 73, 82, 83, 84] : List UInt8)) := by simp [term, lead, clause, tAsc, tDesc, tFirst, tLast, tNotNull, tNull]
  have HT := hide hT
  clear hl1 hl2 hT
  go_enter Try.func4, Try.ntmps4
  go_wp2_with (first | (go_at_call 11; go_in))
  refine (ZZ_any 0 1 2 (by omega) (by omega) (by omega) (by omega) (by omega) (by omega) a1 a2 a3 a6 a7 (by omega) (by omega) _).mono ?_
  rintro e w1 ⟨rfl, hbel⟩
  rw [HT.out]
  obtain ⟨G, hG, HG, hGs⟩ := named ⟨(a1.data.toList ++ (a2.data.toList ++ (32 :: [68, 69, 83, 67, 32, 78, 85, 76, 76, 83, 32, 70, 73, 82, 83, 84] : List UInt8))).toArray⟩ (a1.data.toList ++ (a2.data.toList ++ (32 :: [68, 69, 83, 67, 32, 78, 85, 76, 76, 83, 32, 70, 73, 82, 83, 84] : List UInt8))) (by simp)
  rw [← hG]
  have hGb : G.size ≤ 16777216 := by rw [hGs]; simp only [List.length_append, List.length_cons, List.length_nil, HL1.out, HL2.out]; omega
  have hGa : a1.size ≤ G.size := by rw [hGs, List.length_append, HL1.out]; omega
  clear hG hGs HT
  go_wp2_with fail
  refine (hp_yes G a1 _ HG.out hGb _).mono ?_
  rintro e w2 ⟨rfl, n2, rfl⟩
  go_wp2_with fail
  obtain ⟨S, hS, HS, hSs⟩ := named (G.extract a1.size G.size) (a2.data.toList ++ (32 :: [68, 69, 83, 67, 32, 78, 85, 76, 76, 83, 32, 70, 73, 82, 83, 84] : List UInt8)) (cut_list G a1.size _ _ HG.out HL1.out)
  obtain ⟨N, hN, HN, hNs⟩ := named (({ data := #[40] } : ByteArray) ++ a2 ++ ⟨#[41, 32, 73, 83, 32, 78, 79, 84, 32, 78, 85, 76, 76, 44, 32]⟩) (40 :: (a2.data.toList ++ [41, 32, 73, 83, 32, 78, 79, 84, 32, 78, 85, 76, 76, 44, 32]) : List UInt8) (by simp)
  obtain ⟨M, hM, HM, hMs⟩ := named (({ data := #[40] } : ByteArray) ++ a2 ++ ⟨#[41, 32, 73, 83, 32, 78, 85, 76, 76, 44, 32]⟩) (40 :: (a2.data.toList ++ [41, 32, 73, 83, 32, 78, 85, 76, 76, 44, 32]) : List UInt8) (by simp)
  rw [← hS, ← hN, ← hM]
  simp only [List.length_append, List.length_cons, List.length_nil, HL2.out] at hSs hNs hMs
  have HSs := hide hSs
  have hSb : S.size ≤ 16777216 := by omega
  have hNb : N.size ≤ 16777216 := by omega
  have hMb : M.size ≤ 16777216 := by omega
  have HNs := hide hNs
  have HMs := hide hMs
  clear hS hN hM hSs hNs hMs HG hGb hGa
  refine (hp_no S N (a2.data.toList.length + 1) (by rw [HNs.out, HL2.out]; omega) (by rw [HS.out, HN.out]; exact part_lead _ _ _ (by decide)) hSb hNb _).mono ?_
  rintro e w3 ⟨rfl, n3, rfl⟩
  go_wp2_with fail
  refine (hp_no S M (a2.data.toList.length + 1) (by rw [HMs.out, HL2.out]; omega) (by rw [HS.out, HM.out]; exact part_lead _ _ _ (by decide)) hSb hMb _).mono ?_
  rintro e w4 ⟨rfl, n4, rfl⟩
  go_wp2_with fail
  have hRa : a2.size + 1 ≤ S.size := by have := HSs.out; omega
  have h5 : S.data.toList = (a2 ++ ({ data := #[32] } : ByteArray)).data.toList ++ ([68, 69, 83, 67, 32, 78, 85, 76, 76, 83, 32, 70, 73, 82, 83, 84] : List UInt8) := by rw [HS.out]; simp
  have H5 := hide h5
  clear h5
  refine (hp_yes S (a2 ++ ({ data := #[32] } : ByteArray)) _ H5.out hSb _).mono ?_
  rintro e w5 ⟨rfl, n5, rfl⟩
  go_wp2_with fail
  have hE : S.extract (a2.size + 1) S.size = ⟨#[68, 69, 83, 67, 32, 78, 85, 76, 76, 83, 32, 70, 73, 82, 83, 84]⟩ := str_eq (cut_list S (a2.size + 1) (a2.data.toList ++ [32]) [68, 69, 83, 67, 32, 78, 85, 76, 76, 83, 32, 70, 73, 82, 83, 84] (by rw [HS.out]; simp) (by rw [List.length_append, HL2.out]; rfl))
  rw [hE]
  clear hE hRa
  refine (hp_yes ⟨#[68, 69, 83, 67, 32, 78, 85, 76, 76, 83, 32, 70, 73, 82, 83, 84]⟩ ⟨#[68, 69, 83, 67]⟩ [32, 78, 85, 76, 76, 83, 32, 70, 73, 82, 83, 84] (by rfl) (by decide) _).mono ?_
  rintro e w6 ⟨rfl, n6, rfl⟩
  have hX : ((⟨#[68, 69, 83, 67, 32, 78, 85, 76, 76, 83, 32, 70, 73, 82, 83, 84]⟩ : ByteArray).extract 4 16) = ⟨#[32, 78, 85, 76, 76, 83, 32, 70, 73, 82, 83, 84]⟩ := str_eq (cut_list ⟨#[68, 69, 83, 67, 32, 78, 85, 76, 76, 83, 32, 70, 73, 82, 83, 84]⟩ 4 [68, 69, 83, 67] [32, 78, 85, 76, 76, 83, 32, 70, 73, 82, 83, 84] rfl rfl)
  have x1 : (((⟨#[68, 69, 83, 67, 32, 78, 85, 76, 76, 83, 32, 70, 73, 82, 83, 84]⟩ : ByteArray).extract 4 16).toList == [32, 78, 85, 76, 76, 83, 32, 70, 73, 82, 83, 84]) = true := by rw [hX, ByteArray.toList_eq]; rfl
  have x2 : (((⟨#[68, 69, 83, 67, 32, 78, 85, 76, 76, 83, 32, 70, 73, 82, 83, 84]⟩ : ByteArray).extract 4 16).toList == [32, 78, 85, 76, 76, 83, 32, 76, 65, 83, 84]) = false := by rw [hX, ByteArray.toList_eq]; rfl
  clear hX
  go_wp2
  go_ret
  exact ⟨rfl, below_drewN hbel _⟩

set_option maxHeartbeats 1000000 in
theorem pl_013 (a1 a2 a3 : ByteArray) (a6 : Int) (a7 : Bool) (h1 : a1.size ≤ 65536) (h2 : a2.size ≤ 65536) (h3 : a3.size ≤ 65536) (w : World) :
    Calls Try.prog 4 #[.int .i64 0, .string a1, .string a2, .string a3, .int .i64 1, .int .i64 3, .int .i64 a6, .bool a7] w fun e w' => e = .returned (.bool true) ∧ Below w.heap.size w w' := by
  have hl2 : a2.data.toList.length = a2.size := by simp
  have hl1 : a1.data.toList.length = a1.size := by simp
  have HL1 := hide hl1
  have HL2 := hide hl2
  have hT : term 0 1 3 a2.data.toList = (a2.data.toList ++ (32 :: [68, 69, 83, 67, 32, 78, 85, 76, 76, 83, 32, 76, 65, 83, 84] : List UInt8)) := by simp [term, lead, clause, tAsc, tDesc, tFirst, tLast, tNotNull, tNull]
  have HT := hide hT
  clear hl1 hl2 hT
  go_enter Try.func4, Try.ntmps4
  go_wp2_with (first | (go_at_call 11; go_in))
  refine (ZZ_any 0 1 3 (by omega) (by omega) (by omega) (by omega) (by omega) (by omega) a1 a2 a3 a6 a7 (by omega) (by omega) _).mono ?_
  rintro e w1 ⟨rfl, hbel⟩
  rw [HT.out]
  obtain ⟨G, hG, HG, hGs⟩ := named ⟨(a1.data.toList ++ (a2.data.toList ++ (32 :: [68, 69, 83, 67, 32, 78, 85, 76, 76, 83, 32, 76, 65, 83, 84] : List UInt8))).toArray⟩ (a1.data.toList ++ (a2.data.toList ++ (32 :: [68, 69, 83, 67, 32, 78, 85, 76, 76, 83, 32, 76, 65, 83, 84] : List UInt8))) (by simp)
  rw [← hG]
  have hGb : G.size ≤ 16777216 := by rw [hGs]; simp only [List.length_append, List.length_cons, List.length_nil, HL1.out, HL2.out]; omega
  have hGa : a1.size ≤ G.size := by rw [hGs, List.length_append, HL1.out]; omega
  clear hG hGs HT
  go_wp2_with fail
  refine (hp_yes G a1 _ HG.out hGb _).mono ?_
  rintro e w2 ⟨rfl, n2, rfl⟩
  go_wp2_with fail
  obtain ⟨S, hS, HS, hSs⟩ := named (G.extract a1.size G.size) (a2.data.toList ++ (32 :: [68, 69, 83, 67, 32, 78, 85, 76, 76, 83, 32, 76, 65, 83, 84] : List UInt8)) (cut_list G a1.size _ _ HG.out HL1.out)
  obtain ⟨N, hN, HN, hNs⟩ := named (({ data := #[40] } : ByteArray) ++ a2 ++ ⟨#[41, 32, 73, 83, 32, 78, 79, 84, 32, 78, 85, 76, 76, 44, 32]⟩) (40 :: (a2.data.toList ++ [41, 32, 73, 83, 32, 78, 79, 84, 32, 78, 85, 76, 76, 44, 32]) : List UInt8) (by simp)
  obtain ⟨M, hM, HM, hMs⟩ := named (({ data := #[40] } : ByteArray) ++ a2 ++ ⟨#[41, 32, 73, 83, 32, 78, 85, 76, 76, 44, 32]⟩) (40 :: (a2.data.toList ++ [41, 32, 73, 83, 32, 78, 85, 76, 76, 44, 32]) : List UInt8) (by simp)
  rw [← hS, ← hN, ← hM]
  simp only [List.length_append, List.length_cons, List.length_nil, HL2.out] at hSs hNs hMs
  have HSs := hide hSs
  have hSb : S.size ≤ 16777216 := by omega
  have hNb : N.size ≤ 16777216 := by omega
  have hMb : M.size ≤ 16777216 := by omega
  have HNs := hide hNs
  have HMs := hide hMs
  clear hS hN hM hSs hNs hMs HG hGb hGa
  refine (hp_no S N (a2.data.toList.length + 1) (by rw [HNs.out, HL2.out]; omega) (by rw [HS.out, HN.out]; exact part_lead _ _ _ (by decide)) hSb hNb _).mono ?_
  rintro e w3 ⟨rfl, n3, rfl⟩
  go_wp2_with fail
  refine (hp_no S M (a2.data.toList.length + 1) (by rw [HMs.out, HL2.out]; omega) (by rw [HS.out, HM.out]; exact part_lead _ _ _ (by decide)) hSb hMb _).mono ?_
  rintro e w4 ⟨rfl, n4, rfl⟩
  go_wp2_with fail
  have hRa : a2.size + 1 ≤ S.size := by have := HSs.out; omega
  have h5 : S.data.toList = (a2 ++ ({ data := #[32] } : ByteArray)).data.toList ++ ([68, 69, 83, 67, 32, 78, 85, 76, 76, 83, 32, 76, 65, 83, 84] : List UInt8) := by rw [HS.out]; simp
  have H5 := hide h5
  clear h5
  refine (hp_yes S (a2 ++ ({ data := #[32] } : ByteArray)) _ H5.out hSb _).mono ?_
  rintro e w5 ⟨rfl, n5, rfl⟩
  go_wp2_with fail
  have hE : S.extract (a2.size + 1) S.size = ⟨#[68, 69, 83, 67, 32, 78, 85, 76, 76, 83, 32, 76, 65, 83, 84]⟩ := str_eq (cut_list S (a2.size + 1) (a2.data.toList ++ [32]) [68, 69, 83, 67, 32, 78, 85, 76, 76, 83, 32, 76, 65, 83, 84] (by rw [HS.out]; simp) (by rw [List.length_append, HL2.out]; rfl))
  rw [hE]
  clear hE hRa
  refine (hp_yes ⟨#[68, 69, 83, 67, 32, 78, 85, 76, 76, 83, 32, 76, 65, 83, 84]⟩ ⟨#[68, 69, 83, 67]⟩ [32, 78, 85, 76, 76, 83, 32, 76, 65, 83, 84] (by rfl) (by decide) _).mono ?_
  rintro e w6 ⟨rfl, n6, rfl⟩
  have hX : ((⟨#[68, 69, 83, 67, 32, 78, 85, 76, 76, 83, 32, 76, 65, 83, 84]⟩ : ByteArray).extract 4 15) = ⟨#[32, 78, 85, 76, 76, 83, 32, 76, 65, 83, 84]⟩ := str_eq (cut_list ⟨#[68, 69, 83, 67, 32, 78, 85, 76, 76, 83, 32, 76, 65, 83, 84]⟩ 4 [68, 69, 83, 67] [32, 78, 85, 76, 76, 83, 32, 76, 65, 83, 84] rfl rfl)
  have x1 : (((⟨#[68, 69, 83, 67, 32, 78, 85, 76, 76, 83, 32, 76, 65, 83, 84]⟩ : ByteArray).extract 4 15).toList == [32, 78, 85, 76, 76, 83, 32, 70, 73, 82, 83, 84]) = false := by rw [hX, ByteArray.toList_eq]; rfl
  have x2 : (((⟨#[68, 69, 83, 67, 32, 78, 85, 76, 76, 83, 32, 76, 65, 83, 84]⟩ : ByteArray).extract 4 15).toList == [32, 78, 85, 76, 76, 83, 32, 76, 65, 83, 84]) = true := by rw [hX, ByteArray.toList_eq]; rfl
  clear hX
  go_wp2
  go_ret
  exact ⟨rfl, below_drewN hbel _⟩

set_option maxHeartbeats 1000000 in
theorem pl_100 (a1 a2 a3 : ByteArray) (a6 : Int) (a7 : Bool) (h1 : a1.size ≤ 65536) (h2 : a2.size ≤ 65536) (h3 : a3.size ≤ 65536) (w : World) :
    Calls Try.prog 4 #[.int .i64 1, .string a1, .string a2, .string a3, .int .i64 0, .int .i64 0, .int .i64 a6, .bool a7] w fun e w' => e = .returned (.bool true) ∧ Below w.heap.size w w' := by
  have hl2 : a2.data.toList.length = a2.size := by simp
  have hl1 : a1.data.toList.length = a1.size := by simp
  have HL1 := hide hl1
  have HL2 := hide hl2
  have hT : term 1 0 0 a2.data.toList = (a2.data.toList ++ (32 :: [65, 83, 67] : List UInt8)) := by simp [term, lead, clause, tAsc, tDesc, tFirst, tLast, tNotNull, tNull]
  have HT := hide hT
  clear hl1 hl2 hT
  go_enter Try.func4, Try.ntmps4
  go_wp2_with (first | (go_at_call 11; go_in))
  refine (ZZ_any 1 0 0 (by omega) (by omega) (by omega) (by omega) (by omega) (by omega) a1 a2 a3 a6 a7 (by omega) (by omega) _).mono ?_
  rintro e w1 ⟨rfl, hbel⟩
  rw [HT.out]
  obtain ⟨G, hG, HG, hGs⟩ := named ⟨(a1.data.toList ++ (a2.data.toList ++ (32 :: [65, 83, 67] : List UInt8))).toArray⟩ (a1.data.toList ++ (a2.data.toList ++ (32 :: [65, 83, 67] : List UInt8))) (by simp)
  rw [← hG]
  have hGb : G.size ≤ 16777216 := by rw [hGs]; simp only [List.length_append, List.length_cons, List.length_nil, HL1.out, HL2.out]; omega
  have hGa : a1.size ≤ G.size := by rw [hGs, List.length_append, HL1.out]; omega
  clear hG hGs HT
  go_wp2_with fail
  refine (hp_yes G a1 _ HG.out hGb _).mono ?_
  rintro e w2 ⟨rfl, n2, rfl⟩
  go_wp2_with fail
  obtain ⟨S, hS, HS, hSs⟩ := named (G.extract a1.size G.size) (a2.data.toList ++ (32 :: [65, 83, 67] : List UInt8)) (cut_list G a1.size _ _ HG.out HL1.out)
  obtain ⟨N, hN, HN, hNs⟩ := named (({ data := #[40] } : ByteArray) ++ a2 ++ ⟨#[41, 32, 73, 83, 32, 78, 79, 84, 32, 78, 85, 76, 76, 44, 32]⟩) (40 :: (a2.data.toList ++ [41, 32, 73, 83, 32, 78, 79, 84, 32, 78, 85, 76, 76, 44, 32]) : List UInt8) (by simp)
  obtain ⟨M, hM, HM, hMs⟩ := named (({ data := #[40] } : ByteArray) ++ a2 ++ ⟨#[41, 32, 73, 83, 32, 78, 85, 76, 76, 44, 32]⟩) (40 :: (a2.data.toList ++ [41, 32, 73, 83, 32, 78, 85, 76, 76, 44, 32]) : List UInt8) (by simp)
  rw [← hS, ← hN, ← hM]
  simp only [List.length_append, List.length_cons, List.length_nil, HL2.out] at hSs hNs hMs
  have HSs := hide hSs
  have hSb : S.size ≤ 16777216 := by omega
  have hNb : N.size ≤ 16777216 := by omega
  have hMb : M.size ≤ 16777216 := by omega
  have HNs := hide hNs
  have HMs := hide hMs
  clear hS hN hM hSs hNs hMs HG hGb hGa
  refine (hp_no S N (a2.data.toList.length + 1) (by rw [HNs.out, HL2.out]; omega) (by rw [HS.out, HN.out]; exact part_lead _ _ _ (by decide)) hSb hNb _).mono ?_
  rintro e w3 ⟨rfl, n3, rfl⟩
  go_wp2_with fail
  refine (hp_no S M (a2.data.toList.length + 1) (by rw [HMs.out, HL2.out]; omega) (by rw [HS.out, HM.out]; exact part_lead _ _ _ (by decide)) hSb hMb _).mono ?_
  rintro e w4 ⟨rfl, n4, rfl⟩
  go_wp2_with fail
  have hRa : a2.size + 1 ≤ S.size := by have := HSs.out; omega
  have h5 : S.data.toList = (a2 ++ ({ data := #[32] } : ByteArray)).data.toList ++ ([65, 83, 67] : List UInt8) := by rw [HS.out]; simp
  have H5 := hide h5
  clear h5
  refine (hp_yes S (a2 ++ ({ data := #[32] } : ByteArray)) _ H5.out hSb _).mono ?_
  rintro e w5 ⟨rfl, n5, rfl⟩
  go_wp2_with fail
  have hE : S.extract (a2.size + 1) S.size = ⟨#[65, 83, 67]⟩ := str_eq (cut_list S (a2.size + 1) (a2.data.toList ++ [32]) [65, 83, 67] (by rw [HS.out]; simp) (by rw [List.length_append, HL2.out]; rfl))
  rw [hE]
  clear hE hRa
  refine (hp_no ⟨#[65, 83, 67]⟩ ⟨#[68, 69, 83, 67]⟩ 0 (by decide) (by decide) (by decide) (by decide) _).mono ?_
  rintro e w6 ⟨rfl, n6, rfl⟩
  go_wp2_with fail
  refine (hp_yes ⟨#[65, 83, 67]⟩ ⟨#[65, 83, 67]⟩ [] (by rfl) (by decide) _).mono ?_
  rintro e w7 ⟨rfl, n7, rfl⟩
  go_wp2
  go_ret
  exact ⟨rfl, below_drewN hbel _⟩

set_option maxHeartbeats 1000000 in
theorem pl_101 (a1 a2 a3 : ByteArray) (a6 : Int) (a7 : Bool) (h1 : a1.size ≤ 65536) (h2 : a2.size ≤ 65536) (h3 : a3.size ≤ 65536) (w : World) :
    Calls Try.prog 4 #[.int .i64 1, .string a1, .string a2, .string a3, .int .i64 0, .int .i64 1, .int .i64 a6, .bool a7] w fun e w' => e = .returned (.bool true) ∧ Below w.heap.size w w' := by
  have hl2 : a2.data.toList.length = a2.size := by simp
  have hl1 : a1.data.toList.length = a1.size := by simp
  have HL1 := hide hl1
  have HL2 := hide hl2
  have hT : term 1 0 1 a2.data.toList = (a2.data.toList ++ (32 :: [65, 83, 67] : List UInt8)) := by simp [term, lead, clause, tAsc, tDesc, tFirst, tLast, tNotNull, tNull]
  have HT := hide hT
  clear hl1 hl2 hT
  go_enter Try.func4, Try.ntmps4
  go_wp2_with (first | (go_at_call 11; go_in))
  refine (ZZ_any 1 0 1 (by omega) (by omega) (by omega) (by omega) (by omega) (by omega) a1 a2 a3 a6 a7 (by omega) (by omega) _).mono ?_
  rintro e w1 ⟨rfl, hbel⟩
  rw [HT.out]
  obtain ⟨G, hG, HG, hGs⟩ := named ⟨(a1.data.toList ++ (a2.data.toList ++ (32 :: [65, 83, 67] : List UInt8))).toArray⟩ (a1.data.toList ++ (a2.data.toList ++ (32 :: [65, 83, 67] : List UInt8))) (by simp)
  rw [← hG]
  have hGb : G.size ≤ 16777216 := by rw [hGs]; simp only [List.length_append, List.length_cons, List.length_nil, HL1.out, HL2.out]; omega
  have hGa : a1.size ≤ G.size := by rw [hGs, List.length_append, HL1.out]; omega
  clear hG hGs HT
  go_wp2_with fail
  refine (hp_yes G a1 _ HG.out hGb _).mono ?_
  rintro e w2 ⟨rfl, n2, rfl⟩
  go_wp2_with fail
  obtain ⟨S, hS, HS, hSs⟩ := named (G.extract a1.size G.size) (a2.data.toList ++ (32 :: [65, 83, 67] : List UInt8)) (cut_list G a1.size _ _ HG.out HL1.out)
  obtain ⟨N, hN, HN, hNs⟩ := named (({ data := #[40] } : ByteArray) ++ a2 ++ ⟨#[41, 32, 73, 83, 32, 78, 79, 84, 32, 78, 85, 76, 76, 44, 32]⟩) (40 :: (a2.data.toList ++ [41, 32, 73, 83, 32, 78, 79, 84, 32, 78, 85, 76, 76, 44, 32]) : List UInt8) (by simp)
  obtain ⟨M, hM, HM, hMs⟩ := named (({ data := #[40] } : ByteArray) ++ a2 ++ ⟨#[41, 32, 73, 83, 32, 78, 85, 76, 76, 44, 32]⟩) (40 :: (a2.data.toList ++ [41, 32, 73, 83, 32, 78, 85, 76, 76, 44, 32]) : List UInt8) (by simp)
  rw [← hS, ← hN, ← hM]
  simp only [List.length_append, List.length_cons, List.length_nil, HL2.out] at hSs hNs hMs
  have HSs := hide hSs
  have hSb : S.size ≤ 16777216 := by omega
  have hNb : N.size ≤ 16777216 := by omega
  have hMb : M.size ≤ 16777216 := by omega
  have HNs := hide hNs
  have HMs := hide hMs
  clear hS hN hM hSs hNs hMs HG hGb hGa
  refine (hp_no S N (a2.data.toList.length + 1) (by rw [HNs.out, HL2.out]; omega) (by rw [HS.out, HN.out]; exact part_lead _ _ _ (by decide)) hSb hNb _).mono ?_
  rintro e w3 ⟨rfl, n3, rfl⟩
  go_wp2_with fail
  refine (hp_no S M (a2.data.toList.length + 1) (by rw [HMs.out, HL2.out]; omega) (by rw [HS.out, HM.out]; exact part_lead _ _ _ (by decide)) hSb hMb _).mono ?_
  rintro e w4 ⟨rfl, n4, rfl⟩
  go_wp2_with fail
  have hRa : a2.size + 1 ≤ S.size := by have := HSs.out; omega
  have h5 : S.data.toList = (a2 ++ ({ data := #[32] } : ByteArray)).data.toList ++ ([65, 83, 67] : List UInt8) := by rw [HS.out]; simp
  have H5 := hide h5
  clear h5
  refine (hp_yes S (a2 ++ ({ data := #[32] } : ByteArray)) _ H5.out hSb _).mono ?_
  rintro e w5 ⟨rfl, n5, rfl⟩
  go_wp2_with fail
  have hE : S.extract (a2.size + 1) S.size = ⟨#[65, 83, 67]⟩ := str_eq (cut_list S (a2.size + 1) (a2.data.toList ++ [32]) [65, 83, 67] (by rw [HS.out]; simp) (by rw [List.length_append, HL2.out]; rfl))
  rw [hE]
  clear hE hRa
  refine (hp_no ⟨#[65, 83, 67]⟩ ⟨#[68, 69, 83, 67]⟩ 0 (by decide) (by decide) (by decide) (by decide) _).mono ?_
  rintro e w6 ⟨rfl, n6, rfl⟩
  go_wp2_with fail
  refine (hp_yes ⟨#[65, 83, 67]⟩ ⟨#[65, 83, 67]⟩ [] (by rfl) (by decide) _).mono ?_
  rintro e w7 ⟨rfl, n7, rfl⟩
  go_wp2
  go_ret
  exact ⟨rfl, below_drewN hbel _⟩

set_option maxHeartbeats 1000000 in
theorem pl_102 (a1 a2 a3 : ByteArray) (a6 : Int) (a7 : Bool) (h1 : a1.size ≤ 65536) (h2 : a2.size ≤ 65536) (h3 : a3.size ≤ 65536) (w : World) :
    Calls Try.prog 4 #[.int .i64 1, .string a1, .string a2, .string a3, .int .i64 0, .int .i64 2, .int .i64 a6, .bool a7] w fun e w' => e = .returned (.bool true) ∧ Below w.heap.size w w' := by
  have hl2 : a2.data.toList.length = a2.size := by simp
  have hl1 : a1.data.toList.length = a1.size := by simp
  have HL1 := hide hl1
  have HL2 := hide hl2
  have hT : term 1 0 2 a2.data.toList = (a2.data.toList ++ (32 :: [65, 83, 67] : List UInt8)) := by simp [term, lead, clause, tAsc, tDesc, tFirst, tLast, tNotNull, tNull]
  have HT := hide hT
  clear hl1 hl2 hT
  go_enter Try.func4, Try.ntmps4
  go_wp2_with (first | (go_at_call 11; go_in))
  refine (ZZ_any 1 0 2 (by omega) (by omega) (by omega) (by omega) (by omega) (by omega) a1 a2 a3 a6 a7 (by omega) (by omega) _).mono ?_
  rintro e w1 ⟨rfl, hbel⟩
  rw [HT.out]
  obtain ⟨G, hG, HG, hGs⟩ := named ⟨(a1.data.toList ++ (a2.data.toList ++ (32 :: [65, 83, 67] : List UInt8))).toArray⟩ (a1.data.toList ++ (a2.data.toList ++ (32 :: [65, 83, 67] : List UInt8))) (by simp)
  rw [← hG]
  have hGb : G.size ≤ 16777216 := by rw [hGs]; simp only [List.length_append, List.length_cons, List.length_nil, HL1.out, HL2.out]; omega
  have hGa : a1.size ≤ G.size := by rw [hGs, List.length_append, HL1.out]; omega
  clear hG hGs HT
  go_wp2_with fail
  refine (hp_yes G a1 _ HG.out hGb _).mono ?_
  rintro e w2 ⟨rfl, n2, rfl⟩
  go_wp2_with fail
  obtain ⟨S, hS, HS, hSs⟩ := named (G.extract a1.size G.size) (a2.data.toList ++ (32 :: [65, 83, 67] : List UInt8)) (cut_list G a1.size _ _ HG.out HL1.out)
  obtain ⟨N, hN, HN, hNs⟩ := named (({ data := #[40] } : ByteArray) ++ a2 ++ ⟨#[41, 32, 73, 83, 32, 78, 79, 84, 32, 78, 85, 76, 76, 44, 32]⟩) (40 :: (a2.data.toList ++ [41, 32, 73, 83, 32, 78, 79, 84, 32, 78, 85, 76, 76, 44, 32]) : List UInt8) (by simp)
  obtain ⟨M, hM, HM, hMs⟩ := named (({ data := #[40] } : ByteArray) ++ a2 ++ ⟨#[41, 32, 73, 83, 32, 78, 85, 76, 76, 44, 32]⟩) (40 :: (a2.data.toList ++ [41, 32, 73, 83, 32, 78, 85, 76, 76, 44, 32]) : List UInt8) (by simp)
  rw [← hS, ← hN, ← hM]
  simp only [List.length_append, List.length_cons, List.length_nil, HL2.out] at hSs hNs hMs
  have HSs := hide hSs
  have hSb : S.size ≤ 16777216 := by omega
  have hNb : N.size ≤ 16777216 := by omega
  have hMb : M.size ≤ 16777216 := by omega
  have HNs := hide hNs
  have HMs := hide hMs
  clear hS hN hM hSs hNs hMs HG hGb hGa
  refine (hp_no S N (a2.data.toList.length + 1) (by rw [HNs.out, HL2.out]; omega) (by rw [HS.out, HN.out]; exact part_lead _ _ _ (by decide)) hSb hNb _).mono ?_
  rintro e w3 ⟨rfl, n3, rfl⟩
  go_wp2_with fail
  refine (hp_no S M (a2.data.toList.length + 1) (by rw [HMs.out, HL2.out]; omega) (by rw [HS.out, HM.out]; exact part_lead _ _ _ (by decide)) hSb hMb _).mono ?_
  rintro e w4 ⟨rfl, n4, rfl⟩
  go_wp2_with fail
  have hRa : a2.size + 1 ≤ S.size := by have := HSs.out; omega
  have h5 : S.data.toList = (a2 ++ ({ data := #[32] } : ByteArray)).data.toList ++ ([65, 83, 67] : List UInt8) := by rw [HS.out]; simp
  have H5 := hide h5
  clear h5
  refine (hp_yes S (a2 ++ ({ data := #[32] } : ByteArray)) _ H5.out hSb _).mono ?_
  rintro e w5 ⟨rfl, n5, rfl⟩
  go_wp2_with fail
  have hE : S.extract (a2.size + 1) S.size = ⟨#[65, 83, 67]⟩ := str_eq (cut_list S (a2.size + 1) (a2.data.toList ++ [32]) [65, 83, 67] (by rw [HS.out]; simp) (by rw [List.length_append, HL2.out]; rfl))
  rw [hE]
  clear hE hRa
  refine (hp_no ⟨#[65, 83, 67]⟩ ⟨#[68, 69, 83, 67]⟩ 0 (by decide) (by decide) (by decide) (by decide) _).mono ?_
  rintro e w6 ⟨rfl, n6, rfl⟩
  go_wp2_with fail
  refine (hp_yes ⟨#[65, 83, 67]⟩ ⟨#[65, 83, 67]⟩ [] (by rfl) (by decide) _).mono ?_
  rintro e w7 ⟨rfl, n7, rfl⟩
  go_wp2
  go_ret
  exact ⟨rfl, below_drewN hbel _⟩

set_option maxHeartbeats 1000000 in
theorem pl_103 (a1 a2 a3 : ByteArray) (a6 : Int) (a7 : Bool) (h1 : a1.size ≤ 65536) (h2 : a2.size ≤ 65536) (h3 : a3.size ≤ 65536) (w : World) :
    Calls Try.prog 4 #[.int .i64 1, .string a1, .string a2, .string a3, .int .i64 0, .int .i64 3, .int .i64 a6, .bool a7] w fun e w' => e = .returned (.bool true) ∧ Below w.heap.size w w' := by
  have hl2 : a2.data.toList.length = a2.size := by simp
  have hl1 : a1.data.toList.length = a1.size := by simp
  have HL1 := hide hl1
  have HL2 := hide hl2
  have hT : term 1 0 3 a2.data.toList = ((40 :: (a2.data.toList ++ [41, 32, 73, 83, 32, 78, 85, 76, 76, 44, 32]) : List UInt8) ++ (a2.data.toList ++ (32 :: [65, 83, 67] : List UInt8))) := by simp [term, lead, clause, tAsc, tDesc, tFirst, tLast, tNotNull, tNull]
  have HT := hide hT
  clear hl1 hl2 hT
  go_enter Try.func4, Try.ntmps4
  go_wp2_with (first | (go_at_call 11; go_in))
  refine (ZZ_any 1 0 3 (by omega) (by omega) (by omega) (by omega) (by omega) (by omega) a1 a2 a3 a6 a7 (by omega) (by omega) _).mono ?_
  rintro e w1 ⟨rfl, hbel⟩
  rw [HT.out]
  obtain ⟨G, hG, HG, hGs⟩ := named ⟨(a1.data.toList ++ ((40 :: (a2.data.toList ++ [41, 32, 73, 83, 32, 78, 85, 76, 76, 44, 32]) : List UInt8) ++ (a2.data.toList ++ (32 :: [65, 83, 67] : List UInt8)))).toArray⟩ (a1.data.toList ++ ((40 :: (a2.data.toList ++ [41, 32, 73, 83, 32, 78, 85, 76, 76, 44, 32]) : List UInt8) ++ (a2.data.toList ++ (32 :: [65, 83, 67] : List UInt8)))) (by simp)
  rw [← hG]
  have hGb : G.size ≤ 16777216 := by rw [hGs]; simp only [List.length_append, List.length_cons, List.length_nil, HL1.out, HL2.out]; omega
  have hGa : a1.size ≤ G.size := by rw [hGs, List.length_append, HL1.out]; omega
  clear hG hGs HT
  go_wp2_with fail
  refine (hp_yes G a1 _ HG.out hGb _).mono ?_
  rintro e w2 ⟨rfl, n2, rfl⟩
  go_wp2_with fail
  obtain ⟨S, hS, HS, hSs⟩ := named (G.extract a1.size G.size) ((40 :: (a2.data.toList ++ [41, 32, 73, 83, 32, 78, 85, 76, 76, 44, 32]) : List UInt8) ++ (a2.data.toList ++ (32 :: [65, 83, 67] : List UInt8))) (cut_list G a1.size _ _ HG.out HL1.out)
  obtain ⟨N, hN, HN, hNs⟩ := named (({ data := #[40] } : ByteArray) ++ a2 ++ ⟨#[41, 32, 73, 83, 32, 78, 79, 84, 32, 78, 85, 76, 76, 44, 32]⟩) (40 :: (a2.data.toList ++ [41, 32, 73, 83, 32, 78, 79, 84, 32, 78, 85, 76, 76, 44, 32]) : List UInt8) (by simp)
  obtain ⟨M, hM, HM, hMs⟩ := named (({ data := #[40] } : ByteArray) ++ a2 ++ ⟨#[41, 32, 73, 83, 32, 78, 85, 76, 76, 44, 32]⟩) (40 :: (a2.data.toList ++ [41, 32, 73, 83, 32, 78, 85, 76, 76, 44, 32]) : List UInt8) (by simp)
  rw [← hS, ← hN, ← hM]
  simp only [List.length_append, List.length_cons, List.length_nil, HL2.out] at hSs hNs hMs
  have HSs := hide hSs
  have hSb : S.size ≤ 16777216 := by omega
  have hNb : N.size ≤ 16777216 := by omega
  have hMb : M.size ≤ 16777216 := by omega
  have HNs := hide hNs
  have HMs := hide hMs
  have hMS : M.size ≤ S.size := by omega
  clear hS hN hM hSs hNs hMs HG hGb hGa
  refine (hp_no S N (a2.data.toList.length + 7) (by rw [HNs.out, HL2.out]; omega) (by rw [HS.out, HN.out]; exact part_nn _ _) hSb hNb _).mono ?_
  rintro e w3 ⟨rfl, n3, rfl⟩
  go_wp2_with fail
  refine (hp_yes S M (a2.data.toList ++ (32 :: [65, 83, 67] : List UInt8)) (by rw [HS.out, HM.out]) hSb _).mono ?_
  rintro e w4 ⟨rfl, n4, rfl⟩
  go_wp2_with fail
  obtain ⟨R, hR, HR, hRs⟩ := named (S.extract M.size S.size) (a2.data.toList ++ (32 :: [65, 83, 67] : List UInt8)) (cut_list S M.size (40 :: (a2.data.toList ++ [41, 32, 73, 83, 32, 78, 85, 76, 76, 44, 32]) : List UInt8) _ HS.out (by rw [← HM.out]; simp))
  rw [← hR]
  clear hR hMS
  have hRl : R.size = a2.size + (1 + 3) := by rw [hRs]; simp only [List.length_append, List.length_cons, List.length_nil, HL2.out]
  have hRb : R.size ≤ 16777216 := by omega
  have hRa : a2.size + 1 ≤ R.size := by omega
  clear hRs hRl
  have h5 : R.data.toList = (a2 ++ ({ data := #[32] } : ByteArray)).data.toList ++ ([65, 83, 67] : List UInt8) := by rw [HR.out]; simp
  have H5 := hide h5
  clear h5
  refine (hp_yes R (a2 ++ ({ data := #[32] } : ByteArray)) _ H5.out hRb _).mono ?_
  rintro e w5 ⟨rfl, n5, rfl⟩
  go_wp2_with fail
  have hE : R.extract (a2.size + 1) R.size = ⟨#[65, 83, 67]⟩ := str_eq (cut_list R (a2.size + 1) (a2.data.toList ++ [32]) [65, 83, 67] (by rw [HR.out]; simp) (by rw [List.length_append, HL2.out]; rfl))
  rw [hE]
  clear hE hRa
  refine (hp_no ⟨#[65, 83, 67]⟩ ⟨#[68, 69, 83, 67]⟩ 0 (by decide) (by decide) (by decide) (by decide) _).mono ?_
  rintro e w6 ⟨rfl, n6, rfl⟩
  go_wp2_with fail
  refine (hp_yes ⟨#[65, 83, 67]⟩ ⟨#[65, 83, 67]⟩ [] (by rfl) (by decide) _).mono ?_
  rintro e w7 ⟨rfl, n7, rfl⟩
  go_wp2
  go_ret
  exact ⟨rfl, below_drewN hbel _⟩

set_option maxHeartbeats 1000000 in
theorem pl_110 (a1 a2 a3 : ByteArray) (a6 : Int) (a7 : Bool) (h1 : a1.size ≤ 65536) (h2 : a2.size ≤ 65536) (h3 : a3.size ≤ 65536) (w : World) :
    Calls Try.prog 4 #[.int .i64 1, .string a1, .string a2, .string a3, .int .i64 1, .int .i64 0, .int .i64 a6, .bool a7] w fun e w' => e = .returned (.bool true) ∧ Below w.heap.size w w' := by
  have hl2 : a2.data.toList.length = a2.size := by simp
  have hl1 : a1.data.toList.length = a1.size := by simp
  have HL1 := hide hl1
  have HL2 := hide hl2
  have hT : term 1 1 0 a2.data.toList = (a2.data.toList ++ (32 :: [68, 69, 83, 67] : List UInt8)) := by simp [term, lead, clause, tAsc, tDesc, tFirst, tLast, tNotNull, tNull]
  have HT := hide hT
  clear hl1 hl2 hT
  go_enter Try.func4, Try.ntmps4
  go_wp2_with (first | (go_at_call 11; go_in))
  refine (ZZ_any 1 1 0 (by omega) (by omega) (by omega) (by omega) (by omega) (by omega) a1 a2 a3 a6 a7 (by omega) (by omega) _).mono ?_
  rintro e w1 ⟨rfl, hbel⟩
  rw [HT.out]
  obtain ⟨G, hG, HG, hGs⟩ := named ⟨(a1.data.toList ++ (a2.data.toList ++ (32 :: [68, 69, 83, 67] : List UInt8))).toArray⟩ (a1.data.toList ++ (a2.data.toList ++ (32 :: [68, 69, 83, 67] : List UInt8))) (by simp)
  rw [← hG]
  have hGb : G.size ≤ 16777216 := by rw [hGs]; simp only [List.length_append, List.length_cons, List.length_nil, HL1.out, HL2.out]; omega
  have hGa : a1.size ≤ G.size := by rw [hGs, List.length_append, HL1.out]; omega
  clear hG hGs HT
  go_wp2_with fail
  refine (hp_yes G a1 _ HG.out hGb _).mono ?_
  rintro e w2 ⟨rfl, n2, rfl⟩
  go_wp2_with fail
  obtain ⟨S, hS, HS, hSs⟩ := named (G.extract a1.size G.size) (a2.data.toList ++ (32 :: [68, 69, 83, 67] : List UInt8)) (cut_list G a1.size _ _ HG.out HL1.out)
  obtain ⟨N, hN, HN, hNs⟩ := named (({ data := #[40] } : ByteArray) ++ a2 ++ ⟨#[41, 32, 73, 83, 32, 78, 79, 84, 32, 78, 85, 76, 76, 44, 32]⟩) (40 :: (a2.data.toList ++ [41, 32, 73, 83, 32, 78, 79, 84, 32, 78, 85, 76, 76, 44, 32]) : List UInt8) (by simp)
  obtain ⟨M, hM, HM, hMs⟩ := named (({ data := #[40] } : ByteArray) ++ a2 ++ ⟨#[41, 32, 73, 83, 32, 78, 85, 76, 76, 44, 32]⟩) (40 :: (a2.data.toList ++ [41, 32, 73, 83, 32, 78, 85, 76, 76, 44, 32]) : List UInt8) (by simp)
  rw [← hS, ← hN, ← hM]
  simp only [List.length_append, List.length_cons, List.length_nil, HL2.out] at hSs hNs hMs
  have HSs := hide hSs
  have hSb : S.size ≤ 16777216 := by omega
  have hNb : N.size ≤ 16777216 := by omega
  have hMb : M.size ≤ 16777216 := by omega
  have HNs := hide hNs
  have HMs := hide hMs
  clear hS hN hM hSs hNs hMs HG hGb hGa
  refine (hp_no S N (a2.data.toList.length + 1) (by rw [HNs.out, HL2.out]; omega) (by rw [HS.out, HN.out]; exact part_lead _ _ _ (by decide)) hSb hNb _).mono ?_
  rintro e w3 ⟨rfl, n3, rfl⟩
  go_wp2_with fail
  refine (hp_no S M (a2.data.toList.length + 1) (by rw [HMs.out, HL2.out]; omega) (by rw [HS.out, HM.out]; exact part_lead _ _ _ (by decide)) hSb hMb _).mono ?_
  rintro e w4 ⟨rfl, n4, rfl⟩
  go_wp2_with fail
  have hRa : a2.size + 1 ≤ S.size := by have := HSs.out; omega
  have h5 : S.data.toList = (a2 ++ ({ data := #[32] } : ByteArray)).data.toList ++ ([68, 69, 83, 67] : List UInt8) := by rw [HS.out]; simp
  have H5 := hide h5
  clear h5
  refine (hp_yes S (a2 ++ ({ data := #[32] } : ByteArray)) _ H5.out hSb _).mono ?_
  rintro e w5 ⟨rfl, n5, rfl⟩
  go_wp2_with fail
  have hE : S.extract (a2.size + 1) S.size = ⟨#[68, 69, 83, 67]⟩ := str_eq (cut_list S (a2.size + 1) (a2.data.toList ++ [32]) [68, 69, 83, 67] (by rw [HS.out]; simp) (by rw [List.length_append, HL2.out]; rfl))
  rw [hE]
  clear hE hRa
  refine (hp_yes ⟨#[68, 69, 83, 67]⟩ ⟨#[68, 69, 83, 67]⟩ [] (by rfl) (by decide) _).mono ?_
  rintro e w6 ⟨rfl, n6, rfl⟩
  go_wp2
  go_ret
  exact ⟨rfl, below_drewN hbel _⟩

set_option maxHeartbeats 1000000 in
theorem pl_111 (a1 a2 a3 : ByteArray) (a6 : Int) (a7 : Bool) (h1 : a1.size ≤ 65536) (h2 : a2.size ≤ 65536) (h3 : a3.size ≤ 65536) (w : World) :
    Calls Try.prog 4 #[.int .i64 1, .string a1, .string a2, .string a3, .int .i64 1, .int .i64 1, .int .i64 a6, .bool a7] w fun e w' => e = .returned (.bool true) ∧ Below w.heap.size w w' := by
  have hl2 : a2.data.toList.length = a2.size := by simp
  have hl1 : a1.data.toList.length = a1.size := by simp
  have HL1 := hide hl1
  have HL2 := hide hl2
  have hT : term 1 1 1 a2.data.toList = (a2.data.toList ++ (32 :: [68, 69, 83, 67] : List UInt8)) := by simp [term, lead, clause, tAsc, tDesc, tFirst, tLast, tNotNull, tNull]
  have HT := hide hT
  clear hl1 hl2 hT
  go_enter Try.func4, Try.ntmps4
  go_wp2_with (first | (go_at_call 11; go_in))
  refine (ZZ_any 1 1 1 (by omega) (by omega) (by omega) (by omega) (by omega) (by omega) a1 a2 a3 a6 a7 (by omega) (by omega) _).mono ?_
  rintro e w1 ⟨rfl, hbel⟩
  rw [HT.out]
  obtain ⟨G, hG, HG, hGs⟩ := named ⟨(a1.data.toList ++ (a2.data.toList ++ (32 :: [68, 69, 83, 67] : List UInt8))).toArray⟩ (a1.data.toList ++ (a2.data.toList ++ (32 :: [68, 69, 83, 67] : List UInt8))) (by simp)
  rw [← hG]
  have hGb : G.size ≤ 16777216 := by rw [hGs]; simp only [List.length_append, List.length_cons, List.length_nil, HL1.out, HL2.out]; omega
  have hGa : a1.size ≤ G.size := by rw [hGs, List.length_append, HL1.out]; omega
  clear hG hGs HT
  go_wp2_with fail
  refine (hp_yes G a1 _ HG.out hGb _).mono ?_
  rintro e w2 ⟨rfl, n2, rfl⟩
  go_wp2_with fail
  obtain ⟨S, hS, HS, hSs⟩ := named (G.extract a1.size G.size) (a2.data.toList ++ (32 :: [68, 69, 83, 67] : List UInt8)) (cut_list G a1.size _ _ HG.out HL1.out)
  obtain ⟨N, hN, HN, hNs⟩ := named (({ data := #[40] } : ByteArray) ++ a2 ++ ⟨#[41, 32, 73, 83, 32, 78, 79, 84, 32, 78, 85, 76, 76, 44, 32]⟩) (40 :: (a2.data.toList ++ [41, 32, 73, 83, 32, 78, 79, 84, 32, 78, 85, 76, 76, 44, 32]) : List UInt8) (by simp)
  obtain ⟨M, hM, HM, hMs⟩ := named (({ data := #[40] } : ByteArray) ++ a2 ++ ⟨#[41, 32, 73, 83, 32, 78, 85, 76, 76, 44, 32]⟩) (40 :: (a2.data.toList ++ [41, 32, 73, 83, 32, 78, 85, 76, 76, 44, 32]) : List UInt8) (by simp)
  rw [← hS, ← hN, ← hM]
  simp only [List.length_append, List.length_cons, List.length_nil, HL2.out] at hSs hNs hMs
  have HSs := hide hSs
  have hSb : S.size ≤ 16777216 := by omega
  have hNb : N.size ≤ 16777216 := by omega
  have hMb : M.size ≤ 16777216 := by omega
  have HNs := hide hNs
  have HMs := hide hMs
  clear hS hN hM hSs hNs hMs HG hGb hGa
  refine (hp_no S N (a2.data.toList.length + 1) (by rw [HNs.out, HL2.out]; omega) (by rw [HS.out, HN.out]; exact part_lead _ _ _ (by decide)) hSb hNb _).mono ?_
  rintro e w3 ⟨rfl, n3, rfl⟩
  go_wp2_with fail
  refine (hp_no S M (a2.data.toList.length + 1) (by rw [HMs.out, HL2.out]; omega) (by rw [HS.out, HM.out]; exact part_lead _ _ _ (by decide)) hSb hMb _).mono ?_
  rintro e w4 ⟨rfl, n4, rfl⟩
  go_wp2_with fail
  have hRa : a2.size + 1 ≤ S.size := by have := HSs.out; omega
  have h5 : S.data.toList = (a2 ++ ({ data := #[32] } : ByteArray)).data.toList ++ ([68, 69, 83, 67] : List UInt8) := by rw [HS.out]; simp
  have H5 := hide h5
  clear h5
  refine (hp_yes S (a2 ++ ({ data := #[32] } : ByteArray)) _ H5.out hSb _).mono ?_
  rintro e w5 ⟨rfl, n5, rfl⟩
  go_wp2_with fail
  have hE : S.extract (a2.size + 1) S.size = ⟨#[68, 69, 83, 67]⟩ := str_eq (cut_list S (a2.size + 1) (a2.data.toList ++ [32]) [68, 69, 83, 67] (by rw [HS.out]; simp) (by rw [List.length_append, HL2.out]; rfl))
  rw [hE]
  clear hE hRa
  refine (hp_yes ⟨#[68, 69, 83, 67]⟩ ⟨#[68, 69, 83, 67]⟩ [] (by rfl) (by decide) _).mono ?_
  rintro e w6 ⟨rfl, n6, rfl⟩
  go_wp2
  go_ret
  exact ⟨rfl, below_drewN hbel _⟩

set_option maxHeartbeats 1000000 in
theorem pl_112 (a1 a2 a3 : ByteArray) (a6 : Int) (a7 : Bool) (h1 : a1.size ≤ 65536) (h2 : a2.size ≤ 65536) (h3 : a3.size ≤ 65536) (w : World) :
    Calls Try.prog 4 #[.int .i64 1, .string a1, .string a2, .string a3, .int .i64 1, .int .i64 2, .int .i64 a6, .bool a7] w fun e w' => e = .returned (.bool true) ∧ Below w.heap.size w w' := by
  have hl2 : a2.data.toList.length = a2.size := by simp
  have hl1 : a1.data.toList.length = a1.size := by simp
  have HL1 := hide hl1
  have HL2 := hide hl2
  have hT : term 1 1 2 a2.data.toList = ((40 :: (a2.data.toList ++ [41, 32, 73, 83, 32, 78, 79, 84, 32, 78, 85, 76, 76, 44, 32]) : List UInt8) ++ (a2.data.toList ++ (32 :: [68, 69, 83, 67] : List UInt8))) := by simp [term, lead, clause, tAsc, tDesc, tFirst, tLast, tNotNull, tNull]
  have HT := hide hT
  clear hl1 hl2 hT
  go_enter Try.func4, Try.ntmps4
  go_wp2_with (first | (go_at_call 11; go_in))
  refine (ZZ_any 1 1 2 (by omega) (by omega) (by omega) (by omega) (by omega) (by omega) a1 a2 a3 a6 a7 (by omega) (by omega) _).mono ?_
  rintro e w1 ⟨rfl, hbel⟩
  rw [HT.out]
  obtain ⟨G, hG, HG, hGs⟩ := named ⟨(a1.data.toList ++ ((40 :: (a2.data.toList ++ [41, 32, 73, 83, 32, 78, 79, 84, 32, 78, 85, 76, 76, 44, 32]) : List UInt8) ++ (a2.data.toList ++ (32 :: [68, 69, 83, 67] : List UInt8)))).toArray⟩ (a1.data.toList ++ ((40 :: (a2.data.toList ++ [41, 32, 73, 83, 32, 78, 79, 84, 32, 78, 85, 76, 76, 44, 32]) : List UInt8) ++ (a2.data.toList ++ (32 :: [68, 69, 83, 67] : List UInt8)))) (by simp)
  rw [← hG]
  have hGb : G.size ≤ 16777216 := by rw [hGs]; simp only [List.length_append, List.length_cons, List.length_nil, HL1.out, HL2.out]; omega
  have hGa : a1.size ≤ G.size := by rw [hGs, List.length_append, HL1.out]; omega
  clear hG hGs HT
  go_wp2_with fail
  refine (hp_yes G a1 _ HG.out hGb _).mono ?_
  rintro e w2 ⟨rfl, n2, rfl⟩
  go_wp2_with fail
  obtain ⟨S, hS, HS, hSs⟩ := named (G.extract a1.size G.size) ((40 :: (a2.data.toList ++ [41, 32, 73, 83, 32, 78, 79, 84, 32, 78, 85, 76, 76, 44, 32]) : List UInt8) ++ (a2.data.toList ++ (32 :: [68, 69, 83, 67] : List UInt8))) (cut_list G a1.size _ _ HG.out HL1.out)
  obtain ⟨N, hN, HN, hNs⟩ := named (({ data := #[40] } : ByteArray) ++ a2 ++ ⟨#[41, 32, 73, 83, 32, 78, 79, 84, 32, 78, 85, 76, 76, 44, 32]⟩) (40 :: (a2.data.toList ++ [41, 32, 73, 83, 32, 78, 79, 84, 32, 78, 85, 76, 76, 44, 32]) : List UInt8) (by simp)
  obtain ⟨M, hM, HM, hMs⟩ := named (({ data := #[40] } : ByteArray) ++ a2 ++ ⟨#[41, 32, 73, 83, 32, 78, 85, 76, 76, 44, 32]⟩) (40 :: (a2.data.toList ++ [41, 32, 73, 83, 32, 78, 85, 76, 76, 44, 32]) : List UInt8) (by simp)
  rw [← hS, ← hN, ← hM]
  simp only [List.length_append, List.length_cons, List.length_nil, HL2.out] at hSs hNs hMs
  have HSs := hide hSs
  have hSb : S.size ≤ 16777216 := by omega
  have hNb : N.size ≤ 16777216 := by omega
  have hMb : M.size ≤ 16777216 := by omega
  have HNs := hide hNs
  have HMs := hide hMs
  have hNS : N.size ≤ S.size := by omega
  clear hS hN hM hSs hNs hMs HG hGb hGa
  refine (hp_yes S N (a2.data.toList ++ (32 :: [68, 69, 83, 67] : List UInt8)) (by rw [HS.out, HN.out]) hSb _).mono ?_
  rintro e w3 ⟨rfl, n3, rfl⟩
  go_wp2_with fail
  obtain ⟨R, hR, HR, hRs⟩ := named (S.extract N.size S.size) (a2.data.toList ++ (32 :: [68, 69, 83, 67] : List UInt8)) (cut_list S N.size (40 :: (a2.data.toList ++ [41, 32, 73, 83, 32, 78, 79, 84, 32, 78, 85, 76, 76, 44, 32]) : List UInt8) _ HS.out (by rw [← HN.out]; simp))
  rw [← hR]
  clear hR hNS
  have hRl : R.size = a2.size + (1 + 4) := by rw [hRs]; simp only [List.length_append, List.length_cons, List.length_nil, HL2.out]
  have hRb : R.size ≤ 16777216 := by omega
  have hRa : a2.size + 1 ≤ R.size := by omega
  clear hRs hRl
  have h5 : R.data.toList = (a2 ++ ({ data := #[32] } : ByteArray)).data.toList ++ ([68, 69, 83, 67] : List UInt8) := by rw [HR.out]; simp
  have H5 := hide h5
  clear h5
  refine (hp_yes R (a2 ++ ({ data := #[32] } : ByteArray)) _ H5.out hRb _).mono ?_
  rintro e w4 ⟨rfl, n4, rfl⟩
  go_wp2_with fail
  have hE : R.extract (a2.size + 1) R.size = ⟨#[68, 69, 83, 67]⟩ := str_eq (cut_list R (a2.size + 1) (a2.data.toList ++ [32]) [68, 69, 83, 67] (by rw [HR.out]; simp) (by rw [List.length_append, HL2.out]; rfl))
  rw [hE]
  clear hE hRa
  refine (hp_yes ⟨#[68, 69, 83, 67]⟩ ⟨#[68, 69, 83, 67]⟩ [] (by rfl) (by decide) _).mono ?_
  rintro e w5 ⟨rfl, n5, rfl⟩
  go_wp2
  go_ret
  exact ⟨rfl, below_drewN hbel _⟩

set_option maxHeartbeats 1000000 in
theorem pl_113 (a1 a2 a3 : ByteArray) (a6 : Int) (a7 : Bool) (h1 : a1.size ≤ 65536) (h2 : a2.size ≤ 65536) (h3 : a3.size ≤ 65536) (w : World) :
    Calls Try.prog 4 #[.int .i64 1, .string a1, .string a2, .string a3, .int .i64 1, .int .i64 3, .int .i64 a6, .bool a7] w fun e w' => e = .returned (.bool true) ∧ Below w.heap.size w w' := by
  have hl2 : a2.data.toList.length = a2.size := by simp
  have hl1 : a1.data.toList.length = a1.size := by simp
  have HL1 := hide hl1
  have HL2 := hide hl2
  have hT : term 1 1 3 a2.data.toList = (a2.data.toList ++ (32 :: [68, 69, 83, 67] : List UInt8)) := by simp [term, lead, clause, tAsc, tDesc, tFirst, tLast, tNotNull, tNull]
  have HT := hide hT
  clear hl1 hl2 hT
  go_enter Try.func4, Try.ntmps4
  go_wp2_with (first | (go_at_call 11; go_in))
  refine (ZZ_any 1 1 3 (by omega) (by omega) (by omega) (by omega) (by omega) (by omega) a1 a2 a3 a6 a7 (by omega) (by omega) _).mono ?_
  rintro e w1 ⟨rfl, hbel⟩
  rw [HT.out]
  obtain ⟨G, hG, HG, hGs⟩ := named ⟨(a1.data.toList ++ (a2.data.toList ++ (32 :: [68, 69, 83, 67] : List UInt8))).toArray⟩ (a1.data.toList ++ (a2.data.toList ++ (32 :: [68, 69, 83, 67] : List UInt8))) (by simp)
  rw [← hG]
  have hGb : G.size ≤ 16777216 := by rw [hGs]; simp only [List.length_append, List.length_cons, List.length_nil, HL1.out, HL2.out]; omega
  have hGa : a1.size ≤ G.size := by rw [hGs, List.length_append, HL1.out]; omega
  clear hG hGs HT
  go_wp2_with fail
  refine (hp_yes G a1 _ HG.out hGb _).mono ?_
  rintro e w2 ⟨rfl, n2, rfl⟩
  go_wp2_with fail
  obtain ⟨S, hS, HS, hSs⟩ := named (G.extract a1.size G.size) (a2.data.toList ++ (32 :: [68, 69, 83, 67] : List UInt8)) (cut_list G a1.size _ _ HG.out HL1.out)
  obtain ⟨N, hN, HN, hNs⟩ := named (({ data := #[40] } : ByteArray) ++ a2 ++ ⟨#[41, 32, 73, 83, 32, 78, 79, 84, 32, 78, 85, 76, 76, 44, 32]⟩) (40 :: (a2.data.toList ++ [41, 32, 73, 83, 32, 78, 79, 84, 32, 78, 85, 76, 76, 44, 32]) : List UInt8) (by simp)
  obtain ⟨M, hM, HM, hMs⟩ := named (({ data := #[40] } : ByteArray) ++ a2 ++ ⟨#[41, 32, 73, 83, 32, 78, 85, 76, 76, 44, 32]⟩) (40 :: (a2.data.toList ++ [41, 32, 73, 83, 32, 78, 85, 76, 76, 44, 32]) : List UInt8) (by simp)
  rw [← hS, ← hN, ← hM]
  simp only [List.length_append, List.length_cons, List.length_nil, HL2.out] at hSs hNs hMs
  have HSs := hide hSs
  have hSb : S.size ≤ 16777216 := by omega
  have hNb : N.size ≤ 16777216 := by omega
  have hMb : M.size ≤ 16777216 := by omega
  have HNs := hide hNs
  have HMs := hide hMs
  clear hS hN hM hSs hNs hMs HG hGb hGa
  refine (hp_no S N (a2.data.toList.length + 1) (by rw [HNs.out, HL2.out]; omega) (by rw [HS.out, HN.out]; exact part_lead _ _ _ (by decide)) hSb hNb _).mono ?_
  rintro e w3 ⟨rfl, n3, rfl⟩
  go_wp2_with fail
  refine (hp_no S M (a2.data.toList.length + 1) (by rw [HMs.out, HL2.out]; omega) (by rw [HS.out, HM.out]; exact part_lead _ _ _ (by decide)) hSb hMb _).mono ?_
  rintro e w4 ⟨rfl, n4, rfl⟩
  go_wp2_with fail
  have hRa : a2.size + 1 ≤ S.size := by have := HSs.out; omega
  have h5 : S.data.toList = (a2 ++ ({ data := #[32] } : ByteArray)).data.toList ++ ([68, 69, 83, 67] : List UInt8) := by rw [HS.out]; simp
  have H5 := hide h5
  clear h5
  refine (hp_yes S (a2 ++ ({ data := #[32] } : ByteArray)) _ H5.out hSb _).mono ?_
  rintro e w5 ⟨rfl, n5, rfl⟩
  go_wp2_with fail
  have hE : S.extract (a2.size + 1) S.size = ⟨#[68, 69, 83, 67]⟩ := str_eq (cut_list S (a2.size + 1) (a2.data.toList ++ [32]) [68, 69, 83, 67] (by rw [HS.out]; simp) (by rw [List.length_append, HL2.out]; rfl))
  rw [hE]
  clear hE hRa
  refine (hp_yes ⟨#[68, 69, 83, 67]⟩ ⟨#[68, 69, 83, 67]⟩ [] (by rfl) (by decide) _).mono ?_
  rintro e w6 ⟨rfl, n6, rfl⟩
  go_wp2
  go_ret
  exact ⟨rfl, below_drewN hbel _⟩

theorem places_any (d dir nulls : Int) (hd0 : 0 ≤ d) (hd1 : d ≤ 1) (hr0 : 0 ≤ dir) (hr1 : dir ≤ 1) (hn0 : 0 ≤ nulls) (hn1 : nulls ≤ 3) (a1 a2 a3 : ByteArray) (a6 : Int) (a7 : Bool) (h1 : a1.size ≤ 65536) (h2 : a2.size ≤ 65536) (h3 : a3.size ≤ 65536) (w : World) :
    Calls Try.prog 4 #[.int .i64 d, .string a1, .string a2, .string a3, .int .i64 dir, .int .i64 nulls, .int .i64 a6, .bool a7] w fun e w' => e = .returned (.bool true) ∧ Below w.heap.size w w' := by
  have e0 : d = 0 ∨ d = 1 := by omega
  have e1 : dir = 0 ∨ dir = 1 := by omega
  have e2 : nulls = 0 ∨ nulls = 1 ∨ nulls = 2 ∨ nulls = 3 := by omega
  rcases e0 with rfl | rfl <;> rcases e1 with rfl | rfl <;> rcases e2 with rfl | rfl | rfl | rfl
  · exact pl_000 a1 a2 a3 a6 a7 h1 h2 h3 w
  · exact pl_001 a1 a2 a3 a6 a7 h1 h2 h3 w
  · exact pl_002 a1 a2 a3 a6 a7 h1 h2 h3 w
  · exact pl_003 a1 a2 a3 a6 a7 h1 h2 h3 w
  · exact pl_010 a1 a2 a3 a6 a7 h1 h2 h3 w
  · exact pl_011 a1 a2 a3 a6 a7 h1 h2 h3 w
  · exact pl_012 a1 a2 a3 a6 a7 h1 h2 h3 w
  · exact pl_013 a1 a2 a3 a6 a7 h1 h2 h3 w
  · exact pl_100 a1 a2 a3 a6 a7 h1 h2 h3 w
  · exact pl_101 a1 a2 a3 a6 a7 h1 h2 h3 w
  · exact pl_102 a1 a2 a3 a6 a7 h1 h2 h3 w
  · exact pl_103 a1 a2 a3 a6 a7 h1 h2 h3 w
  · exact pl_110 a1 a2 a3 a6 a7 h1 h2 h3 w
  · exact pl_111 a1 a2 a3 a6 a7 h1 h2 h3 w
  · exact pl_112 a1 a2 a3 a6 a7 h1 h2 h3 w
  · exact pl_113 a1 a2 a3 a6 a7 h1 h2 h3 w
end Go.Proofs.Qxb6603285a.Ord
