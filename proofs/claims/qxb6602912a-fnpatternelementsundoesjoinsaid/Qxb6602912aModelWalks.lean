/- The walks of b1OddTrailingBackslashes and b1SplitModel. -/
import Derived.Test.Qxb6602912aShape
import Derived.Test.Qxb6602912aModelPlain
namespace Go.Proofs.Qxb6602912a.Split
open Go.RowKit

def oddB (x : List UInt8) : Bool := decide (tb x % 2 = 1)

theorem odd_ret {l : List UInt8} {m : Nat} (h : tb l = m + 0) : Ending.returned (.bool ((m : Int) % 2 == 1)) = .returned (.bool (oddB l)) := by
  have : ((m : Int) % 2 == 1) = oddB l := by
    unfold oddB
    rw [Bool.eq_iff_iff, beq_iff_eq, decide_eq_true_iff, h]
    omega
  rw [this]

set_option maxHeartbeats 400000 in
theorem odd_any (s : ByteArray) (w : World) (hs : s.size ≤ 1048577) :
    Calls Try.prog 33 #[.string s] w fun e w' => e = .returned (.bool (oddB s.data.toList)) ∧ w' = w := by
  go_enter Try.func33, Try.ntmps33
  go_wp2
  go_loop [3, 4] (fun n i => ∃ m : Nat, m ≤ s.size ∧ n = .int .i64 m ∧ i = .int .i64 ((s.size : Int) - 1 - m) ∧ Hid (tb s.data.toList = m + cnt (s.data.toList.reverse.drop m))) (fun _ i => (intOf i + 1).toNat)
  case atStart => exact ⟨0, by omega, rfl, by simp, hide (by simp [tb])⟩
  case round =>
    obtain ⟨m, hm, rfl, rfl, R⟩ := hrel
    by_cases hlt : m < s.size
    · have i1 : (0 : Int) ≤ (s.size : Int) - 1 - m := by omega
      have e1 : ((s.size : Int) - 1 - m) = ((s.size - 1 - m : Nat) : Int) := by omega
      rw [e1]
      have i2 : s.size - 1 - m < s.size := by omega
      by_cases c92 : (s[s.size - 1 - m]).toNat = 92
      · have t1 : (((s[s.size - 1 - m]).toNat : Int) == 92) = true := beq_iff_eq.2 (by omega)
        have R2 := hide (by have := R.out; rw [cnt_at s m hlt, if_pos c92] at this; exact this)
        clear R c92 e1
        go_wp2
        go_round
        case rel => exact ⟨m + 1, by omega, by go_num, congrArg (Value.int .i64) (by omega), hide (by rw [R2.out]; omega)⟩
        case measure => simp [intOf]
      · have t1 : (((s[s.size - 1 - m]).toNat : Int) == 92) = false := beq_eq_false_iff_ne.2 (by omega)
        have R2 := hide (by have := R.out; rw [cnt_at s m hlt, if_neg c92] at this; exact this)
        clear e1 R c92
        go_wp2
        go_ret
        exact ⟨odd_ret R2.out, rfl⟩
    · have R2 := hide (by have := R.out; rw [cnt_end s m (by omega)] at this; exact this)
      clear R
      go_wp2
      go_ret
      exact ⟨odd_ret R2.out, rfl⟩

theorem push_cells {w : World} {B : Nat} {v : Value} {els : List (List UInt8)} {x : List UInt8} (hx : x ≠ []) (h : w.ownsRow B 9 1 v (els.length + 1) (cellsOf els ++ [.string ⟨x.toArray⟩])) : w.ownsRow B 9 1 v (push els x).length (cellsOf (push els x)) := by
  unfold push
  rw [if_neg hx, cellsOf_snoc, List.length_append]
  exact h
theorem push_some {els : List (List UInt8)} {x : List UInt8} (hx : x ≠ []) : push els x = els ++ [x] := if_neg hx
theorem push_none (els : List (List UInt8)) : push els [] = els := if_pos rfl

theorem mend_cut {s F : ByteArray} {a k : Nat} (hF : F = s.extract a k) (h : oddB F.data.toList = true) : 0 < F.size ∧ F.extract 0 (F.size - 1) = ⟨(mend (field s a k)).toArray⟩ ∧ (mend (field s a k)).length = F.size - 1 := by
  have e : F.data.toList = field s a k := by rw [hF, field_data]
  have hl : F.data.toList.length = F.size := by simp
  unfold oddB at h
  rw [decide_eq_true_iff] at h
  have hp : 0 < F.size := by
    by_cases h0 : 0 < F.size
    · exact h0
    · have : F.data.toList = [] := List.eq_nil_of_length_eq_zero (by omega)
      rw [this] at h
      exact absurd h (by decide)
  have hm : mend (field s a k) = F.data.toList.dropLast := by
    unfold mend; rw [← e, if_pos h]
  refine ⟨hp, ?_, by rw [hm, List.length_dropLast, hl]⟩
  rw [hm, field_eq]
  congr 2
  unfold field
  rw [List.drop_zero, List.dropLast_eq_take, hl]
  rfl
theorem mend_whole {s F : ByteArray} {a k : Nat} (hF : F = s.extract a k) (h : oddB F.data.toList = false) : F = ⟨(mend (field s a k)).toArray⟩ ∧ (mend (field s a k)).length = F.size := by
  have e : F.data.toList = field s a k := by rw [hF, field_data]
  have hl : F.data.toList.length = F.size := by simp
  unfold oddB at h
  rw [decide_eq_false_iff_not] at h
  have hm : mend (field s a k) = field s a k := mend_even (by rw [← e]; omega)
  rw [hm, ← e]
  exact ⟨rfl, hl⟩

theorem ends_iff (s : ByteArray) (h : 0 < s.size) : [47].isSuffixOf s.data.toList = true ↔ (s[s.size - 1]).toNat = 47 := by
  have hal : s.data.toList.length = s.size := by simp
  have e2 : s.data.toList.getLast? = some s[s.size - 1] := by
    rw [List.getLast?_eq_getElem?, hal, List.getElem?_eq_getElem (by omega)]; rfl
  rw [suffix_iff, e2]
  simp
theorem ends_no (s : ByteArray) (h : s.size = 0) : ¬ [47].isSuffixOf s.data.toList = true := by
  have hal : s.data.toList.length = s.size := by simp
  have hl : s.data.toList = [] := List.eq_nil_of_length_eq_zero (by omega)
  rw [hl]; decide

set_option maxHeartbeats 2000000 in
theorem model_any (s : ByteArray) (w : World) (hs : s.size ≤ 1048576) :
    Calls Try.prog 14 #[.string s] w fun e w' => ∃ v, e = .returned v ∧ w'.ownsRow w.heap.size 9 1 v (pe s.data.toList).length (cellsOf (pe s.data.toList)) ∧ Below w.heap.size w w' := by
  obtain ⟨i0, hi, hz0, hz1, hz2⟩ := info_parts info9
  go_enter Try.func14, Try.ntmps14
  go_wp2
  go_loopw [3, 4, 5] (fun v t i wr => ∃ (a k : Nat) (els : List (List UInt8)), k ≤ s.size + 1 ∧ els.length ≤ k ∧ t = .int .i64 a ∧ i = .int .i64 k ∧ wr.ownsRow w.heap.size 9 1 v els.length (cellsOf els) ∧ Below w.heap.size w wr ∧
      Hid ((k ≤ s.size ∧ a ≤ k ∧ smGo s.data.toList [] [] = smGo (s.data.toList.drop k) (field s a k) els) ∨ (k = s.size + 1 ∧ els = pe s.data.toList))) (fun _ _ i _ => s.size + 1 - (intOf i).toNat)
  case atStart =>
    exact ⟨0, 0, [], by omega, by simp, rfl, rfl, World.ownsRow_nil _ _ _ _, Below.refl _ _, hide (.inl ⟨by omega, by omega, by rw [field_self, List.drop_zero]⟩)⟩
  case round =>
    obtain ⟨a, k, els, hk, hels, rfl, rfl, hown, hbel, R⟩ := hrel
    have hsz := hbel.size
    rcases R.out with ⟨hks, hak, R1⟩ | ⟨hks, R1⟩
    · clear R
      by_cases hlt : k < s.size
      · by_cases c47 : s[k].toNat = 47
        · have t1 : ((s[k].toNat : Int) != 47) = false := by rw [c47]; rfl
          have R2 := hide (R1.trans (sm_slash s a k els hlt c47))
          clear R1 c47 hks
          go_wp2_with fail
          have hFs : (s.extract a k).size = k - a := by rw [ByteArray.size_extract]; omega
          generalize hF : s.extract a k = F at *
          have hFs2 : F.size ≤ 1048577 := by omega
          have HF := hide hF.symm
          clear hF
          refine (odd_any F _ hFs2).mono ?_
          rintro e w1 ⟨rfl, rfl⟩
          by_cases ho : oddB F.data.toList = true
          · obtain ⟨hp, hcut, hcl⟩ := mend_cut HF.out ho
            have HC := hide hcut
            have HL := hide hcl
            clear hcut hcl hFs
            by_cases h1 : 1 < F.size
            · go_wp2_with (at_builtin; refine wpList_append_own _ rfl _ _ 23 rfl w.heap.size 9 i0 (.string ⟨#[]⟩) 1 16 Try.underlying23 hi hz0 hz1 hz2 rfl (by decide) _ _ _ rfl (hown.alloc _) ⟨w1.heap.size, 0, none⟩ 1 1 [.string (F.extract 0 (F.size - 1))] rfl rfl ?c1 ?c2 ?c3 ?c4 ?c5 ?_)
              case c1 => exact (cell_one_new _ _ _)
              case c2 => intro u hu; simp at hu; subst hu; rfl
              case c3 => unfold maxLen; omega
              case c4 => omega
              case c5 => simp; omega
              intro v' w3 hown3 hgrow hv3
              have hbel3 := (hbel.alloc hsz _).grown hgrow (by simp; omega) (fun k hk => (hown.lt k hk).1)
              clear hgrow hbel hown hv3
              have H3 : Hid (w3.ownsRow w.heap.size 9 1 v' (push els (mend (field s a k))).length (cellsOf (push els (mend (field s a k))))) := hide (push_cells (by intro h; have := HL.out; rw [h] at this; simp at this; omega) (by rw [← HC.out]; exact hown3))
              have hpl : (push els (mend (field s a k))).length ≤ els.length + 1 := by unfold push; split <;> simp
              clear hown3
              go_wp2
              go_roundw
              case rel => exact ⟨k + 1, k + 1, _, by omega, by omega, by go_num, by go_num, H3.out, hbel3, hide (.inl ⟨by omega, by omega, R2.out⟩)⟩
              case measure => simp [intOf]; omega
            · have hm0 : mend (field s a k) = [] := List.eq_nil_of_length_eq_zero (by rw [HL.out]; omega)
              have R3 := hide (by have := R2.out; rw [hm0, push_none] at this; exact this)
              clear R2 hm0
              go_wp2
              go_roundw
              case rel => exact ⟨k + 1, k + 1, els, by omega, by omega, by go_num, by go_num, hown, hbel, hide (.inl ⟨by omega, by omega, R3.out⟩)⟩
              case measure => simp [intOf]; omega
          · have ho2 : oddB F.data.toList = false := by simpa using ho
            obtain ⟨hcut, hcl⟩ := mend_whole HF.out ho2
            have HC := hide hcut
            have HL := hide hcl
            clear hcut hcl ho hFs
            by_cases h1 : 0 < F.size
            · go_wp2_with (at_builtin; refine wpList_append_own _ rfl _ _ 23 rfl w.heap.size 9 i0 (.string ⟨#[]⟩) 1 16 Try.underlying23 hi hz0 hz1 hz2 rfl (by decide) _ _ _ rfl (hown.alloc _) ⟨w1.heap.size, 0, none⟩ 1 1 [.string F] rfl rfl ?c1 ?c2 ?c3 ?c4 ?c5 ?_)
              case c1 => exact (cell_one_new _ _ _)
              case c2 => intro u hu; simp at hu; subst hu; rfl
              case c3 => unfold maxLen; omega
              case c4 => omega
              case c5 => simp; omega
              intro v' w3 hown3 hgrow hv3
              have hbel3 := (hbel.alloc hsz _).grown hgrow (by simp; omega) (fun k hk => (hown.lt k hk).1)
              clear hgrow hbel hown hv3
              have H3 : Hid (w3.ownsRow w.heap.size 9 1 v' (push els (mend (field s a k))).length (cellsOf (push els (mend (field s a k))))) := hide (push_cells (by intro h; have := HL.out; rw [h] at this; simp at this; omega) (by rw [← HC.out]; exact hown3))
              have hpl : (push els (mend (field s a k))).length ≤ els.length + 1 := by unfold push; split <;> simp
              clear hown3
              go_wp2
              go_roundw
              case rel => exact ⟨k + 1, k + 1, _, by omega, by omega, by go_num, by go_num, H3.out, hbel3, hide (.inl ⟨by omega, by omega, R2.out⟩)⟩
              case measure => simp [intOf]; omega
            · have hm0 : mend (field s a k) = [] := List.eq_nil_of_length_eq_zero (by rw [HL.out]; omega)
              have R3 := hide (by have := R2.out; rw [hm0, push_none] at this; exact this)
              clear R2 hm0
              go_wp2
              go_roundw
              case rel => exact ⟨k + 1, k + 1, els, by omega, by omega, by go_num, by go_num, hown, hbel, hide (.inl ⟨by omega, by omega, R3.out⟩)⟩
              case measure => simp [intOf]; omega
        · have t1 : ((s[k].toNat : Int) != 47) = true := bne_iff_ne.2 (by omega)
          have R2 := hide (R1.trans (sm_byte s a k els hak hlt c47))
          clear R1 c47 hks
          go_wp2
          go_roundw
          case rel => exact ⟨a, k + 1, els, by omega, by omega, rfl, by go_num, hown, hbel, hide (.inl ⟨by omega, by omega, R2.out⟩)⟩
          case measure => simp [intOf]; omega
      · have R2 := hide (R1.trans (sm_end s a k els (by omega)))
        clear R1
        have P : pe s.data.toList = if field s a k ≠ [] ∨ [47].isSuffixOf s.data.toList = true then els ++ [field s a k] else els := by
          rw [pe_model, R2.out]; rfl
        have hFs : (s.extract a k).size = k - a := by rw [ByteArray.size_extract]; omega
        have hfl := field_length s a k hks
        by_cases h1 : a < k
        · have G := hide (P.trans (if_pos (.inl (by intro h; rw [h] at hfl; simp at hfl; omega))))
          clear P hfl
          go_wp2_with (at_builtin; refine wpList_append_own _ rfl _ _ 23 rfl w.heap.size 9 i0 (.string ⟨#[]⟩) 1 16 Try.underlying23 hi hz0 hz1 hz2 rfl (by decide) _ _ _ rfl (hown.alloc _) ⟨wr.heap.size, 0, none⟩ 1 1 [.string (s.extract a k)] rfl rfl ?c1 ?c2 ?c3 ?c4 ?c5 ?_)
          case c1 => exact (cell_one_new _ _ _)
          case c2 => intro u hu; simp at hu; subst hu; rfl
          case c3 => unfold maxLen; omega
          case c4 => omega
          case c5 => simp; omega
          intro v' w3 hown3 hgrow hv3
          have hbel3 := (hbel.alloc hsz _).grown hgrow (by simp; omega) (fun k hk => (hown.lt k hk).1)
          clear hgrow hbel hown hv3
          have H3 : Hid (w3.ownsRow w.heap.size 9 1 v' (pe s.data.toList).length (cellsOf (pe s.data.toList))) := hide (by rw [G.out, cellsOf_snoc, List.length_append, ← field_eq]; exact hown3)
          have hpl : (pe s.data.toList).length ≤ els.length + 1 := by rw [G.out]; simp
          clear hown3
          go_wp2
          go_roundw
          case rel => exact ⟨k + 1, k + 1, _, by omega, by omega, by go_num, by go_num, H3.out, hbel3, hide (.inr ⟨by omega, rfl⟩)⟩
          case measure => simp [intOf]; omega
        · have hf0 : field s a k = [] := List.eq_nil_of_length_eq_zero (by omega)
          by_cases h2 : 0 < s.size
          · by_cases c47 : (s[s.size - 1]).toNat = 47
            · have t1 : (((s[s.size - 1]).toNat : Int) == 47) = true := beq_iff_eq.2 (by omega)
              have G := hide (P.trans (if_pos (.inr ((ends_iff s h2).2 c47))))
              clear P hfl c47 hf0
              go_wp2_with (at_builtin; refine wpList_append_own _ rfl _ _ 23 rfl w.heap.size 9 i0 (.string ⟨#[]⟩) 1 16 Try.underlying23 hi hz0 hz1 hz2 rfl (by decide) _ _ _ rfl (hown.alloc _) ⟨wr.heap.size, 0, none⟩ 1 1 [.string (s.extract a k)] rfl rfl ?c1 ?c2 ?c3 ?c4 ?c5 ?_)
              case c1 => exact (cell_one_new _ _ _)
              case c2 => intro u hu; simp at hu; subst hu; rfl
              case c3 => unfold maxLen; omega
              case c4 => omega
              case c5 => simp; omega
              intro v' w3 hown3 hgrow hv3
              have hbel3 := (hbel.alloc hsz _).grown hgrow (by simp; omega) (fun k hk => (hown.lt k hk).1)
              clear hgrow hbel hown hv3
              have H3 : Hid (w3.ownsRow w.heap.size 9 1 v' (pe s.data.toList).length (cellsOf (pe s.data.toList))) := hide (by rw [G.out, cellsOf_snoc, List.length_append, ← field_eq]; exact hown3)
              have hpl : (pe s.data.toList).length ≤ els.length + 1 := by rw [G.out]; simp
              clear hown3
              go_wp2
              go_roundw
              case rel => exact ⟨k + 1, k + 1, _, by omega, by omega, by go_num, by go_num, H3.out, hbel3, hide (.inr ⟨by omega, rfl⟩)⟩
              case measure => simp [intOf]; omega
            · have t1 : (((s[s.size - 1]).toNat : Int) == 47) = false := beq_eq_false_iff_ne.2 (by omega)
              have G := hide (P.trans (if_neg (by rintro (h | h); exact h hf0; exact c47 ((ends_iff s h2).1 h))))
              clear P hfl c47 hf0
              go_wp2
              go_roundw
              case rel => exact ⟨k + 1, k + 1, els, by omega, by omega, by go_num, by go_num, hown, hbel, hide (.inr ⟨by omega, G.out.symm⟩)⟩
              case measure => simp [intOf]; omega
          · have G := hide (P.trans (if_neg (by rintro (h | h); exact h hf0; exact ends_no s (by omega) h)))
            clear P hfl hf0
            go_wp2
            go_roundw
            case rel => exact ⟨k + 1, k + 1, els, by omega, by omega, by go_num, by go_num, hown, hbel, hide (.inr ⟨by omega, G.out.symm⟩)⟩
            case measure => simp [intOf]; omega
    · have R2 := hide R1
      have hk2 : s.size + 1 ≤ k := by omega
      clear R R1 hks
      go_wp2
      go_ret
      exact ⟨_, rfl, by rw [← R2.out]; exact hown, hbel⟩
end Go.Proofs.Qxb6602912a.Split
