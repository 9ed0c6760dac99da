/- The walks of firstSet, of its model, and of the bounds on lengths. -/
import Derived.Test.Qxb6602912aShelf
import Derived.Test.Qxb6602912aFirstPlain
import Derived.WalkKit
import Derived.WalkSpells
namespace Go.Proofs.Qxb6602912a.First
open Go.RowKit

theorem hide {p : Prop} (h : p) : Hid p := h
theorem byte_yes {n : Nat} {c : Int} (h : ((n : Int) == c) = true) : (n : Int) = c := eq_of_beq h
theorem byte_no {n : Nat} {c : Int} (h : ((n : Int) == c) = false) : (n : Int) ≠ c := ne_of_beq_false h

theorem pre_star (s : ByteArray) : Lib.hasPrefix s.data.toList [42] = true ↔ ∃ h : 0 < s.size, s[0].toNat = 42 := by
  have hl : s.data.toList.length = s.size := by simp
  unfold Lib.hasPrefix
  by_cases h0 : 0 < s.size
  · have e := drop_at s 0 h0
    rw [List.drop_zero] at e
    rw [e]
    constructor
    · intro h
      simp [List.isPrefixOf] at h
      exact ⟨h0, by rw [← h]; rfl⟩
    · rintro ⟨_, h⟩
      simp [List.isPrefixOf]
      exact UInt8.toNat.inj (by rw [h]; rfl)
  · have e : s.data.toList = [] := List.eq_nil_of_length_eq_zero (by omega)
    rw [e]
    constructor
    · intro h; simp [List.isPrefixOf] at h
    · rintro ⟨h, _⟩; omega

theorem ret_pair {p : Int × Int} {a b : Int} (h : p = (a, b)) : Ending.returned (.tuple #[.int .i64 a, .int .i64 b]) = .returned (.tuple #[.int .i64 p.1, .int .i64 p.2]) := by rw [h]

set_option maxHeartbeats 400000 in
theorem firstSet_yes (s : ByteArray) (w : World) (hs : s.size ≤ maxLen) (h0 : 0 < s.size) (hc : s[0].toNat = 42) :
    Calls Try.prog 34 #[.string s] w fun e w' => e = .returned (.tuple #[.int .i64 (fs s.data.toList).1, .int .i64 (fs s.data.toList).2]) ∧ w' = w := by
  unfold maxLen at hs
  have hp : Lib.hasPrefix s.data.toList [42] = true := (pre_star s).2 ⟨h0, hc⟩
  have E : Hid (fs s.data.toList = fsGo (s.data.toList.drop 1) 1 0) := fs_star s h0 hc
  clear hc
  go_enter Try.func34, Try.ntmps34
  go_wp2_with (go_at_call 42; refine (Try.strings_HasPrefix _ _ _).mono ?_; rintro e w' ⟨rfl, rfl⟩)
  go_loop [3, 4] (fun n i => ∃ k m : Nat, 1 ≤ k ∧ k ≤ s.size ∧ m ≤ k ∧ i = .int .i64 k ∧ n = .int .i64 m ∧ Hid (fs s.data.toList = fsGo (s.data.toList.drop k) k m)) (fun _ i => s.size - (intOf i).toNat)
  case atStart => exact ⟨1, 0, by omega, by omega, by omega, rfl, rfl, E⟩
  case round =>
    obtain ⟨k, m, hk1, hk, hm, rfl, rfl, R⟩ := hrel
    by_cases hlt : k < s.size
    · go_wp2
      · have h1 : ((s[k].toNat : Int) == 63) = true := by assumption
        have g1 := byte_yes h1
        go_round
        case rel => exact ⟨k + 1, m + 1, by omega, by omega, by omega, by go_num, by go_num, R.out.trans (step_mark s k m hlt (by omega))⟩
        case measure => simp [intOf]; omega
      · have h1 : ((s[k].toNat : Int) == 91) = true := by assumption
        have h2 : 0 < m := by assumption
        have g1 := byte_yes h1
        go_ret2
        exact ⟨ret_pair (R.out.trans ((step_open s k m hlt (by omega)).trans (if_pos h2))), rfl⟩
      · have h1 : ((s[k].toNat : Int) == 91) = true := by assumption
        have h2 : ¬ 0 < m := by assumption
        have g1 := byte_yes h1
        go_ret2
        exact ⟨ret_pair (R.out.trans ((step_open s k m hlt (by omega)).trans (if_neg h2))), rfl⟩
      · have h1 : ((s[k].toNat : Int) == 42) = true := by assumption
        have g1 := byte_yes h1
        go_round
        case rel => exact ⟨k + 1, m, by omega, by omega, by omega, by go_num, rfl, R.out.trans (step_star s k m hlt (by omega))⟩
        case measure => simp [intOf]; omega
      · have h1 : ((s[k].toNat : Int) == 63) = false := by assumption
        have h2 : ((s[k].toNat : Int) == 91) = false := by assumption
        have h3 : ((s[k].toNat : Int) == 42) = false := by assumption
        have g1 := byte_no h1
        have g2 := byte_no h2
        have g3 := byte_no h3
        go_ret2
        exact ⟨ret_pair (R.out.trans (step_other s k m hlt (by omega) (by omega) (by omega))), rfl⟩
    · go_wp2
      go_ret2
      exact ⟨ret_pair (R.out.trans (step_end s k m (by omega))), rfl⟩

theorem firstSet_no (s : ByteArray) (w : World) (h : ∀ h : 0 < s.size, s[0].toNat ≠ 42) :
    Calls Try.prog 34 #[.string s] w fun e w' => e = .returned (.tuple #[.int .i64 (fs s.data.toList).1, .int .i64 (fs s.data.toList).2]) ∧ w' = w := by
  have hp : Lib.hasPrefix s.data.toList [42] = false := by
    rw [Bool.eq_false_iff]; intro h1; obtain ⟨h0, h2⟩ := (pre_star s).1 h1; exact h h0 h2
  have E : Hid (fs s.data.toList = (-1, 0)) := fs_no s h
  clear h
  go_enter Try.func34, Try.ntmps34
  go_wp2_with (go_at_call 42; refine (Try.strings_HasPrefix _ _ _).mono ?_; rintro e w' ⟨rfl, rfl⟩)
  go_ret2
  exact ⟨ret_pair E.out, rfl⟩

theorem firstSet_any (s : ByteArray) (w : World) (hs : s.size ≤ maxLen) :
    Calls Try.prog 34 #[.string s] w fun e w' => e = .returned (.tuple #[.int .i64 (fs s.data.toList).1, .int .i64 (fs s.data.toList).2]) ∧ w' = w := by
  by_cases h : ∃ h : 0 < s.size, s[0].toNat = 42
  · obtain ⟨h0, hc⟩ := h
    exact firstSet_yes s w hs h0 hc
  · exact firstSet_no s w fun h0 hc => h ⟨h0, hc⟩

theorem ZZfirstSet_any (s : ByteArray) (w : World) (hs : s.size ≤ maxLen) :
    Calls Try.prog 21 #[.string s] w fun e w' => e = .returned (.tuple #[.int .i64 (fs s.data.toList).1, .int .i64 (fs s.data.toList).2]) ∧ w' = w := by
  go_enter Try.func21, Try.ntmps21
  go_wp2_with (go_at_call 34; refine (firstSet_any _ _ hs).mono ?_; rintro e w' ⟨rfl, rfl⟩)
  go_ret2
  exact ⟨rfl, rfl⟩

set_option maxHeartbeats 400000 in
theorem model_yes (s : ByteArray) (w : World) (hs : s.size ≤ maxLen) (h0 : 0 < s.size) (hc : s[0].toNat = 42) :
    Calls Try.prog 22 #[.string s] w fun e w' => e = .returned (.tuple #[.int .i64 (fs s.data.toList).1, .int .i64 (fs s.data.toList).2]) ∧ w' = w := by
  unfold maxLen at hs
  have E : Hid (fs s.data.toList = fsGo (s.data.toList.drop 1) 1 0) := fs_star s h0 hc
  have hz : ((s.size : Int) == 0) = false := beq_eq_false_iff_ne.2 (by omega)
  have hb : ((s[0].toNat : Int) != 42) = false := by rw [hc]; rfl
  have HC : Hid (s[0].toNat = 42) := hc
  clear hc
  go_enter Try.func22, Try.ntmps22
  go_wp2
  go_loop [4, 5] (fun o i => ∃ k : Nat, k ≤ s.size ∧ o = .int .i64 (-1) ∧ i = .int .i64 k ∧ Hid (∀ (j : Nat) (hj : j < s.size), j < k → s[j].toNat ≠ 91)) (fun _ i => s.size - (intOf i).toNat)
  case atStart => exact ⟨0, by omega, rfl, rfl, hide fun j hj h => absurd h (by omega)⟩
  case round =>
    obtain ⟨k, hk, rfl, rfl, R⟩ := hrel
    by_cases hlt : k < s.size
    · go_wp2
      · have h1 : ((s[k].toNat : Int) == 91) = true := by assumption
        have g1 := byte_yes h1
        have hk1 : 1 ≤ k := by
          by_cases hk0 : k = 0
          · subst hk0; have := HC.out; omega
          · omega
        have G : Hid (s[k].toNat = 91) := hide (by omega)
        clear h1 g1
        go_loop [6, 7] (fun n i => ∃ j m : Nat, 1 ≤ j ∧ j ≤ k ∧ m ≤ j ∧ i = .int .i64 j ∧ n = .int .i64 m ∧ Hid (fs s.data.toList = fsGo (s.data.toList.drop j) j m)) (fun _ i => s.size - (intOf i).toNat)
        case atStart => exact ⟨1, 0, by omega, by omega, by omega, rfl, rfl, E⟩
        case round =>
          obtain ⟨j, m, hj1, hj, hm, rfl, rfl, T⟩ := hrel
          by_cases hlj : j < k
          · have hjs : j < s.size := by omega
            have N : Hid (s[j].toNat ≠ 91) := hide (R.out j hjs hlj)
            go_wp2
            · have h1 : ((s[j].toNat : Int) == 63) = true := by assumption
              have g1 := byte_yes h1
              go_round
              case rel => exact ⟨j + 1, m + 1, by omega, by omega, by omega, by go_num, by go_num, hide (T.out.trans (step_mark s j m hjs (by omega)))⟩
              case measure => simp [intOf]; omega
            · have h1 : ((s[j].toNat : Int) == 63) = false := by assumption
              have h2 : ((s[j].toNat : Int) != 42) = true := by assumption
              have g1 := byte_no h1
              have g2 := bne_iff_ne.1 h2
              go_ret2
              exact ⟨ret_pair (T.out.trans (step_other s j m hjs (by omega) N.out (by omega))), rfl⟩
            · have h2 : ((s[j].toNat : Int) != 42) = false := by assumption
              have g2 : (s[j].toNat : Int) = 42 := by simpa using h2
              go_round
              case rel => exact ⟨j + 1, m, by omega, by omega, by omega, by go_num, rfl, hide (T.out.trans (step_star s j m hjs (by omega)))⟩
              case measure => simp [intOf]; omega
          · have hjk : j = k := by omega
            have T2 : Hid (fs s.data.toList = if 0 < m then ((k : Int), (m : Int)) else (-1, 0)) := hide (T.out.trans (by rw [hjk]; exact step_open s k m hlt G.out))
            clear hjk T
            go_wp2
            · have h1 : ((m : Int) == 0) = true := by assumption
              have g1 := byte_yes h1
              go_ret2
              exact ⟨ret_pair (T2.out.trans (if_neg (by omega))), rfl⟩
            · have h1 : ((m : Int) == 0) = false := by assumption
              have g1 := byte_no h1
              go_ret2
              exact ⟨ret_pair (T2.out.trans (if_pos (by omega))), rfl⟩
      · have h1 : ((s[k].toNat : Int) == 91) = false := by assumption
        have g1 := byte_no h1
        go_round
        case rel =>
          refine ⟨k + 1, by omega, rfl, by go_num, hide fun j hj hjk => ?_⟩
          by_cases e : j = k
          · subst e; omega
          · exact R.out j hj (by omega)
        case measure => simp [intOf]; omega
    · have F : Hid (fs s.data.toList = (-1, 0)) := hide (no_open s fun j hj => R.out j hj (by omega))
      clear R
      go_wp2
      go_ret2
      exact ⟨ret_pair F.out, rfl⟩

theorem model_empty (s : ByteArray) (w : World) (h : s.size = 0) :
    Calls Try.prog 22 #[.string s] w fun e w' => e = .returned (.tuple #[.int .i64 (fs s.data.toList).1, .int .i64 (fs s.data.toList).2]) ∧ w' = w := by
  have E : Hid (fs s.data.toList = (-1, 0)) := hide (fs_no s fun h0 => absurd h0 (by omega))
  have hz : ((s.size : Int) == 0) = true := beq_iff_eq.2 (by omega)
  clear h
  go_enter Try.func22, Try.ntmps22
  go_wp2
  go_ret2
  exact ⟨ret_pair E.out, rfl⟩

theorem model_no (s : ByteArray) (w : World) (h0 : 0 < s.size) (h : s[0].toNat ≠ 42) :
    Calls Try.prog 22 #[.string s] w fun e w' => e = .returned (.tuple #[.int .i64 (fs s.data.toList).1, .int .i64 (fs s.data.toList).2]) ∧ w' = w := by
  have E : Hid (fs s.data.toList = (-1, 0)) := hide (fs_no s fun _ => h)
  have hz : ((s.size : Int) == 0) = false := beq_eq_false_iff_ne.2 (by omega)
  have hb : ((s[0].toNat : Int) != 42) = true := bne_iff_ne.2 (by omega)
  clear h
  go_enter Try.func22, Try.ntmps22
  go_wp2
  go_ret2
  exact ⟨ret_pair E.out, rfl⟩

theorem model_any (s : ByteArray) (w : World) (hs : s.size ≤ maxLen) :
    Calls Try.prog 22 #[.string s] w fun e w' => e = .returned (.tuple #[.int .i64 (fs s.data.toList).1, .int .i64 (fs s.data.toList).2]) ∧ w' = w := by
  by_cases h0 : 0 < s.size
  · by_cases hc : s[0].toNat = 42
    · exact model_yes s w hs h0 hc
    · exact model_no s w h0 hc
  · exact model_empty s w (by omega)
end Go.Proofs.Qxb6602912a.First
