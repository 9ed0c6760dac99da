/- The walk of patternElements. -/
import Derived.Test.Qxb6602912aSplitWalks
namespace Go.Proofs.Qxb6602912a.Split
open Go.RowKit

theorem bytes_app (a b : List UInt8) : Lib.byteCells (a ++ b) = Lib.byteCells a ++ Lib.byteCells b := by simp [Lib.byteCells]
theorem bytes_pair (s : ByteArray) (k : Nat) (h : k + 1 < s.size) : Lib.strCells (s.extract k (k + 2)) = Lib.byteCells [s[k], s[k + 1]] := by
  have e : (s.extract k (k + 2)).data.toList = [s[k], s[k + 1]] := by
    have e1 : (s.extract k (k + 2)).data.toList = (s.data.toList.drop k).take 2 := by
      simp [ByteArray.data_extract, Array.toList_extract, List.extract_eq_take_drop]
    rw [e1, drop_at s k (by omega), drop_at s (k + 1) h]
    rfl
  unfold Lib.strCells Lib.byteCells
  rw [e]

/-- Behind the append of one element: the row and the builder's block. -/
theorem appended {w0 w1 w2 : World} {B : Nat} {v : Value} {o : Obj} {n : Nat} {xs : List Value} (hlt : B < w1.heap.size) (hown : w1.ownsRow (B + 1) 9 1 v n xs) (hg : (w1.alloc o).grownBy w2 v.ownBlock) (hb : Below B w0 w1) (hsz : w0.heap.size = B) :
    w2.heap[B]? = w1.heap[B]? ∧ Below B w0 w2 := by
  refine ⟨?_, ?_⟩
  · rw [hg.block B (by simp; omega) ?_, Lib.alloc_old w1 _ B hlt]
    intro e
    have := (hown.lt B e.symm).1
    omega
  · exact (hb.alloc (by omega) _).grown hg (by simp; omega) (fun k hk => by have := (hown.lt k hk).1; omega)

theorem fresh_again {w2 : World} {B : Nat} {p q : Value} (h : w2.heap[B]? = some (.cells #[p, q] 40 (0, 0))) :
    Lib.IsBuilderF 40 5 B B (Lib.byteCells []) ((w2.setCell ⟨B, 0, none⟩ (.pointer none)).setCell ⟨B, 1, none⟩ (.slice none 0 0)) := by
  refine .inl ⟨Nat.le_refl _, .slice none 0 0, ?_, World.ownsRowF_nil _ _ _ _, by simp [Value.ownBlock]⟩
  simp [World.setCell, Array.getElem?_modify, h]

theorem pe_at (s : ByteArray) {acc : List UInt8} {els : List (List UInt8)} (h : peGo s.data.toList [] [] = (acc, els)) : pe s.data.toList = if acc ≠ [] ∨ Lib.hasSuffix s.data.toList [47] = true then els ++ [acc] else els := by
  unfold pe fin
  rw [h]
  rfl

theorem block_of {B b : Nat} {bs : List Value} {w : World} (h : Lib.IsBuilderF 40 5 B b bs w) : ∃ p q, w.heap[b]? = some (.cells #[p, q] 40 (0, 0)) := by
  rcases h with ⟨_, v, h, _⟩ | ⟨_, v, h, _⟩
  · exact ⟨_, v, h⟩
  · exact ⟨_, v, h⟩

set_option maxHeartbeats 2000000 in
theorem pe_any (s : ByteArray) (w : World) (hs : s.size ≤ 1048577) :
    Calls Try.prog 32 #[.string s] w fun e w' => ∃ v, e = .returned v ∧ w'.ownsRow (w.heap.size + 1) 9 1 v (pe s.data.toList).length (cellsOf (pe s.data.toList)) ∧ (pe s.data.toList = [] → v = .slice none 0 0) ∧ Below w.heap.size w w' := by
  obtain ⟨i0, hi, hz0, hz1, hz2⟩ := info_parts info9
  go_enter Try.func32, Try.ntmps32
  go_wp2
  go_loopw [3, 5] (fun v i wr => ∃ (k : Nat) (acc : List UInt8) (els : List (List UInt8)), k ≤ s.size ∧ acc.length ≤ k ∧ els.length ≤ k ∧ i = .int .i64 k ∧ Lib.IsBuilderF 40 5 w.heap.size w.heap.size (Lib.byteCells acc) wr ∧ wr.ownsRow (w.heap.size + 1) 9 1 v els.length (cellsOf els) ∧ Hid (els = [] → v = .slice none 0 0) ∧ Below w.heap.size w wr ∧ Hid (peGo s.data.toList [] [] = peGo (s.data.toList.drop k) acc els)) (fun _ i _ => s.size - (intOf i).toNat)
  case atStart =>
    exact ⟨0, [], [], by omega, by simp, by simp, rfl, Lib.IsBuilderF.of (Lib.fresh_isBuilder 40 5 w), World.ownsRow_nil _ _ _ _, hide fun _ => rfl, (Below.refl _ _).alloc (Nat.le_refl _) _, hide rfl⟩
  case round =>
    obtain ⟨k, acc, els, hk, hacc, hels, rfl, hbld, hown, hnil, hbel, R⟩ := hrel
    have hsz := hbel.size
    by_cases hlt : k < s.size
    · by_cases c92 : s[k].toNat = 92
      · by_cases hn : k + 1 < s.size
        · by_cases d47 : s[k + 1].toNat = 47
          · have t1 : ((s[k].toNat : Int) == 92) = true := beq_iff_eq.2 (by omega)
            have t2 : ((s[k + 1].toNat : Int) != 47) = false := by rw [d47]; rfl
            have R2 := hide (R.out.trans (st_esc s k acc els hn c92 d47))
            clear c92 d47 R
            go_wp2
            go_roundw
            case rel => exact ⟨k + 1, acc, els, by omega, by omega, by omega, by go_num, hbld, hown, hnil, hbel, R2⟩
            case measure => simp [intOf]; omega
          · have t1 : ((s[k].toNat : Int) == 92) = true := beq_iff_eq.2 (by omega)
            have t2 : ((s[k + 1].toNat : Int) != 47) = true := bne_iff_ne.2 (by omega)
            have R2 := hide (R.out.trans (st_pair s k acc els hn c92 d47))
            have hp := hide (bytes_pair s k hn)
            have hz := hide (show (s.extract k (k + 2)).size = 2 by simp [ByteArray.size_extract]; omega)
            clear c92 d47 R
            go_wp2_with fail
            refine (Bld.WriteString_k w.heap.size w.heap.size (Lib.byteCells acc) (s.extract k (k + 2)) wr hbld (by rw [Lib.byteCells_length, hz.out]; omega) hsz).mono ?_
            rintro e w1 ⟨rfl, h1, hb1, hk1⟩
            have h2 : Lib.IsBuilderF 40 5 w.heap.size w.heap.size (Lib.byteCells (acc ++ [s[k], s[k + 1]])) w1 := .inr (by rw [bytes_app, ← hp.out]; exact h1)
            have hown1 := owns_others hown hk1
            have hbel1 := hbel.trans hb1
            clear h1 hb1 hk1 hown hbel hbld
            go_wp2
            go_roundw
            case rel => exact ⟨k + 2, _, els, by omega, by simp; omega, by omega, by go_num, h2, hown1, hnil, hbel1, R2⟩
            case measure => simp [intOf]; omega
        · have t1 : ((s[k].toNat : Int) == 92) = true := beq_iff_eq.2 (by omega)
          have t2 : ((s[k].toNat : Int) != 47) = true := bne_iff_ne.2 (by omega)
          have t3 : ¬ ((k : Int) + 1 < (s.size : Int)) := by omega
          have R2 := hide (R.out.trans (st_byte s k acc els hlt (by omega) (by omega)))
          clear c92 R
          go_wp2_with fail
          refine (Bld.WriteByte_k w.heap.size w.heap.size (Lib.byteCells acc) _ wr hbld (by rw [Lib.byteCells_length]; omega) hsz).mono ?_
          rintro e w1 ⟨rfl, h1, hb1, hk1⟩
          have h2 : Lib.IsBuilderF 40 5 w.heap.size w.heap.size (Lib.byteCells (acc ++ [s[k]])) w1 := .inr (by rw [bytes_app]; exact h1)
          have hown1 := owns_others hown hk1
          have hbel1 := hbel.trans hb1
          clear h1 hb1 hk1 hown hbel hbld
          go_wp2
          go_roundw
          case rel => exact ⟨k + 1, _, els, by omega, by simp; omega, by omega, by go_num, h2, hown1, hnil, hbel1, R2⟩
          case measure => simp [intOf]; omega
      · by_cases c47 : s[k].toNat = 47
        · have t1 : ((s[k].toNat : Int) == 92) = false := beq_eq_false_iff_ne.2 (by omega)
          have t2 : ((s[k].toNat : Int) != 47) = false := by rw [c47]; rfl
          by_cases ha : acc = []
          · subst ha
            have R2 := hide (R.out.trans (st_slash0 s k els hlt c47))
            clear c92 c47 R
            go_wp2_with (go_at_call 38; refine (Try.Builder_Len_f w.heap.size w.heap.size _ _ hbld).mono ?_; rintro e w1 ⟨rfl, rfl⟩)
            go_roundw
            case rel => exact ⟨k + 1, [], els, by omega, by simp, by omega, by go_num, hbld, hown, hnil, hbel, R2⟩
            case measure => simp [intOf]; omega
          · have hpos : 0 < acc.length := List.length_pos_iff.2 ha
            have t3 : (0 : Int) < ((Lib.byteCells acc).length : Int) := by rw [Lib.byteCells_length]; omega
            have R2 := hide (R.out.trans (st_slash s k acc els hlt c47 ha))
            clear c92 c47 R ha
            go_wp2_with (go_at_call 38; refine (Try.Builder_Len_f w.heap.size w.heap.size _ _ hbld).mono ?_; rintro e w1 ⟨rfl, rfl⟩)
            refine (Try.Builder_String_any_k w.heap.size w.heap.size acc w1 hbld hsz).mono ?_
            rintro e w2 ⟨rfl, h2, hb2, hk2⟩
            have hown2 := owns_others hown hk2
            have hbel2 := hbel.trans hb2
            obtain ⟨p, q, hB2⟩ := block_of h2
            have hlt2 : w.heap.size < w2.heap.size := (Array.getElem?_eq_some_iff.1 hB2).1
            clear h2 hb2 hk2 hown hbel hbld hsz
            go_wp2_with (at_builtin; refine wpList_append_own _ rfl _ _ 23 rfl (w.heap.size + 1) 9 i0 (.string ⟨#[]⟩) 1 16 Try.underlying23 hi hz0 hz1 hz2 rfl (by decide) _ _ _ rfl (hown2.alloc _) ⟨w2.heap.size, 0, none⟩ 1 1 [.string ⟨acc.toArray⟩] rfl rfl ?c1 ?c2 ?c3 ?c4 ?c5 ?_)
            case c1 => exact (cell_one_new _ _ _)
            case c2 => intro u hu; simp at hu; subst hu; rfl
            case c3 => unfold maxLen; omega
            case c4 => omega
            case c5 => simp; omega
            intro v' w3 hown3 hgrow hv3
            have A := appended hlt2 hown2 hgrow hbel2 rfl
            have hB3 := A.1.trans hB2
            have hbel3 := A.2
            clear A hgrow hbel2 hown2 hB2
            go_wp2_with (go_at_call 40; refine (Reset_at w.heap.size p q _ hB3).mono ?_)
            rintro e w4 ⟨rfl, hw4⟩
            have h4 : Lib.IsBuilderF 40 5 w.heap.size w.heap.size (Lib.byteCells []) w4 := by rw [hw4]; exact fresh_again hB3
            have hown4 : w4.ownsRow (w.heap.size + 1) 9 1 v' (els ++ [acc]).length (cellsOf (els ++ [acc])) := by rw [hw4, cellsOf_snoc, List.length_append]; exact owns_set (owns_set hown3)
            have hbel4 : Below w.heap.size w w4 := by rw [hw4]; exact (hbel3.setCell (p := ⟨w.heap.size, 0, none⟩) (Nat.le_refl _) _).setCell (p := ⟨w.heap.size, 1, none⟩) (Nat.le_refl _) _
            clear hw4 hown3 hbel3 hB3 hv3
            go_wp2
            go_roundw
            case rel => exact ⟨k + 1, [], els ++ [acc], by omega, by simp, by simp; omega, by go_num, h4, hown4, hide fun h => absurd h (by simp), hbel4, R2⟩
            case measure => simp [intOf]; omega
        · have t1 : ((s[k].toNat : Int) == 92) = false := beq_eq_false_iff_ne.2 (by omega)
          have t2 : ((s[k].toNat : Int) != 47) = true := bne_iff_ne.2 (by omega)
          have R2 := hide (R.out.trans (st_byte s k acc els hlt (by omega) (by omega)))
          clear c92 c47 R
          go_wp2_with fail
          refine (Bld.WriteByte_k w.heap.size w.heap.size (Lib.byteCells acc) _ wr hbld (by rw [Lib.byteCells_length]; omega) hsz).mono ?_
          rintro e w1 ⟨rfl, h1, hb1, hk1⟩
          have h2 : Lib.IsBuilderF 40 5 w.heap.size w.heap.size (Lib.byteCells (acc ++ [s[k]])) w1 := .inr (by rw [bytes_app]; exact h1)
          have hown1 := owns_others hown hk1
          have hbel1 := hbel.trans hb1
          clear h1 hb1 hk1 hown hbel hbld
          go_wp2
          go_roundw
          case rel => exact ⟨k + 1, _, els, by omega, by simp; omega, by omega, by go_num, h2, hown1, hnil, hbel1, R2⟩
          case measure => simp [intOf]; omega
    · have F := hide (R.out.trans (st_end s k acc els (by omega)))
      clear R
      have hl : s.size ≤ 9223372036854775807 := by omega
      have hG := pe_at s F.out
      by_cases ha : acc = []
      · subst ha
        by_cases hsuf : Lib.hasSuffix s.data.toList [47] = true
        · have G : Hid (pe s.data.toList = els ++ [[]]) := hide (by rw [hG, if_pos (.inr hsuf)])
          clear hG
          go_wp2_with (first | (go_at_call 38; refine (Try.Builder_Len_f w.heap.size w.heap.size _ _ hbld).mono ?_; rintro e w1 ⟨rfl, rfl⟩) | (go_at_call 41; refine (Try.strings_HasSuffix _ _ _ hl).mono ?_; rintro e w1 ⟨rfl, rfl⟩))
          refine (Try.Builder_String_any_k w.heap.size w.heap.size ([] : List UInt8) w1 hbld hsz).mono ?_
          rintro e w2 ⟨rfl, h2, hb2, hk2⟩
          have hown2 := owns_others hown hk2
          have hbel2 := hbel.trans hb2
          obtain ⟨p, q, hB2⟩ := block_of h2
          have hlt2 : w.heap.size < w2.heap.size := (Array.getElem?_eq_some_iff.1 hB2).1
          clear h2 hb2 hk2 hown hbel hbld hsz
          go_wp2_with (at_builtin; refine wpList_append_own _ rfl _ _ 23 rfl (w.heap.size + 1) 9 i0 (.string ⟨#[]⟩) 1 16 Try.underlying23 hi hz0 hz1 hz2 rfl (by decide) _ _ _ rfl (hown2.alloc _) ⟨w2.heap.size, 0, none⟩ 1 1 [.string ⟨(([] : List UInt8)).toArray⟩] rfl rfl ?c1 ?c2 ?c3 ?c4 ?c5 ?_)
          case c1 => exact (cell_one_new _ _ _)
          case c2 => intro u hu; simp at hu; subst hu; rfl
          case c3 => unfold maxLen; omega
          case c4 => omega
          case c5 => simp; omega
          intro v' w3 hown3 hgrow hv3
          have hbel3 := (appended hlt2 hown2 hgrow hbel2 rfl).2
          have hown4 : w3.ownsRow (w.heap.size + 1) 9 1 v' (pe s.data.toList).length (cellsOf (pe s.data.toList)) := by rw [G.out, cellsOf_snoc, List.length_append]; exact hown3
          have hne : ¬ pe s.data.toList = [] := by rw [G.out]; simp
          have G2 := hide hown4
          have G3 := hide hne
          clear hgrow hbel2 hown2 hB2 hown3 hown4 hne
          go_wp2
          go_ret
          exact ⟨_, rfl, G2.out, fun h => absurd h G3.out, hbel3⟩
        · have G : Hid (pe s.data.toList = els) := hide (by rw [hG, if_neg (by rintro (h | h); exact h rfl; exact hsuf h)])
          have hsf : Lib.hasSuffix s.data.toList [47] = false := by simpa using hsuf
          clear hG hsuf
          go_wp2_with (first | (go_at_call 38; refine (Try.Builder_Len_f w.heap.size w.heap.size _ _ hbld).mono ?_; rintro e w1 ⟨rfl, rfl⟩) | (go_at_call 41; refine (Try.strings_HasSuffix _ _ _ hl).mono ?_; rintro e w1 ⟨rfl, rfl⟩))
          go_ret
          exact ⟨_, rfl, by rw [G.out]; exact hown, fun h => hnil.out (by rw [← G.out]; exact h), hbel⟩
      · have hpos : 0 < acc.length := List.length_pos_iff.2 ha
        have t3 : (0 : Int) < ((Lib.byteCells acc).length : Int) := by rw [Lib.byteCells_length]; omega
        have t4 : ¬ Lib.byteCells acc = [] := by intro h; rw [h] at t3; simp at t3
        have G : Hid (pe s.data.toList = els ++ [acc]) := hide (by rw [hG, if_pos (.inl ha)])
        clear hG ha
        · go_wp2_with (first | (go_at_call 38; refine (Try.Builder_Len_f w.heap.size w.heap.size _ _ hbld).mono ?_; rintro e w1 ⟨rfl, rfl⟩))
          refine (Try.Builder_String_any_k w.heap.size w.heap.size acc w1 hbld hsz).mono ?_
          rintro e w2 ⟨rfl, h2, hb2, hk2⟩
          have hown2 := owns_others hown hk2
          have hbel2 := hbel.trans hb2
          obtain ⟨p, q, hB2⟩ := block_of h2
          have hlt2 : w.heap.size < w2.heap.size := (Array.getElem?_eq_some_iff.1 hB2).1
          clear h2 hb2 hk2 hown hbel hbld hsz
          go_wp2_with (at_builtin; refine wpList_append_own _ rfl _ _ 23 rfl (w.heap.size + 1) 9 i0 (.string ⟨#[]⟩) 1 16 Try.underlying23 hi hz0 hz1 hz2 rfl (by decide) _ _ _ rfl (hown2.alloc _) ⟨w2.heap.size, 0, none⟩ 1 1 [.string ⟨(acc).toArray⟩] rfl rfl ?c1 ?c2 ?c3 ?c4 ?c5 ?_)
          case c1 => exact (cell_one_new _ _ _)
          case c2 => intro u hu; simp at hu; subst hu; rfl
          case c3 => unfold maxLen; omega
          case c4 => omega
          case c5 => simp; omega
          intro v' w3 hown3 hgrow hv3
          have hbel3 := (appended hlt2 hown2 hgrow hbel2 rfl).2
          have hown4 : w3.ownsRow (w.heap.size + 1) 9 1 v' (pe s.data.toList).length (cellsOf (pe s.data.toList)) := by rw [G.out, cellsOf_snoc, List.length_append]; exact hown3
          have hne : ¬ pe s.data.toList = [] := by rw [G.out]; simp
          have G2 := hide hown4
          have G3 := hide hne
          clear hgrow hbel2 hown2 hB2 hown3 hown4 hne
          go_wp2
          go_ret
          exact ⟨_, rfl, G2.out, fun h => absurd h G3.out, hbel3⟩
end Go.Proofs.Qxb6602912a.Split
