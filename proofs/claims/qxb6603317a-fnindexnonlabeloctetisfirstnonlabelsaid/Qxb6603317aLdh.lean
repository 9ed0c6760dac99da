/- The walks of IndexNonLabelOctet and of the law's helpers. -/
import Derived.Test.Qxb6603317aRows
import Derived.WalkKit
import Derived.WalkSpells
namespace Go.Proofs.Qxb6603317a.Ldh
open Go.RowKit

theorem hide {p : Prop} (h : p) : Hid p := h

/-- A letter, a digit or a hyphen. -/
def ldh (n : Nat) : Bool := decide ((97 ≤ n ∧ n ≤ 122) ∨ (65 ≤ n ∧ n ≤ 90) ∨ (48 ≤ n ∧ n ≤ 57) ∨ n = 45)

theorem letter : ∀ n : Nat, n < 256 → (decide ((bits BinOp.or IntKind.u8 (n : Int) 32 - 97) % 256 < 26)) = decide ((97 ≤ n ∧ n ≤ 122) ∨ (65 ≤ n ∧ n ≤ 90)) := by decide +kernel
theorem digit : ∀ n : Nat, n < 256 → (decide (((n : Int) - 48) % 256 < 10)) = decide (48 ≤ n ∧ n ≤ 57) := by decide +kernel

theorem ldh_yes {n : Nat} (h : (97 ≤ n ∧ n ≤ 122) ∨ (65 ≤ n ∧ n ≤ 90) ∨ (48 ≤ n ∧ n ≤ 57) ∨ n = 45) : ldh n = true := decide_eq_true h
theorem ldh_no {n : Nat} (h : ¬ ((97 ≤ n ∧ n ≤ 122) ∨ (65 ≤ n ∧ n ≤ 90) ∨ (48 ≤ n ∧ n ≤ 57) ∨ n = 45)) : ldh n = false := decide_eq_false h
theorem ret_bool {a b : Bool} (h : a = b) : Ending.returned (.bool a) = .returned (.bool b) := by rw [h]

theorem is_any (c : UInt8) (w : World) : Calls Try.prog 9 #[.int .u8 (c.toNat : Int)] w fun e w' => e = .returned (.bool (ldh c.toNat)) ∧ w' = w := by
  have hc : c.toNat < 256 := c.toNat_lt
  have h1 := letter c.toNat hc
  have h2 := digit c.toNat hc
  have H1 := hide h1
  have H2 := hide h2
  clear h1 h2
  go_enter Try.func9, Try.ntmps9
  go_wp2
  · have t1 : (bits BinOp.or IntKind.u8 (c.toNat : Int) 32 - 97) % 256 < 26 := by assumption
    have g := H1.out
    rw [decide_eq_true t1] at g
    have g1 := of_decide_eq_true g.symm
    go_ret
    exact ⟨ret_bool (ldh_yes (by omega)).symm, rfl⟩
  · have t2 : ((c.toNat : Int) - 48) % 256 < 10 := by assumption
    have g := H2.out
    rw [decide_eq_true t2] at g
    have g1 := of_decide_eq_true g.symm
    go_ret
    exact ⟨ret_bool (ldh_yes (by omega)).symm, rfl⟩
  · have t1 : 26 ≤ (bits BinOp.or IntKind.u8 (c.toNat : Int) 32 - 97) % 256 := by assumption
    have t2 : 10 ≤ ((c.toNat : Int) - 48) % 256 := by assumption
    have g := H1.out
    rw [decide_eq_false (by omega)] at g
    have g1 := of_decide_eq_false g.symm
    have g' := H2.out
    rw [decide_eq_false (by omega)] at g'
    have g2 := of_decide_eq_false g'.symm
    go_ret
    refine ⟨ret_bool ?_, rfl⟩
    by_cases h45 : c.toNat = 45
    · rw [ldh_yes (by omega), h45]; rfl
    · rw [ldh_no (by omega)]
      exact beq_eq_false_iff_ne.2 (by omega)

/-- What IndexNonLabelOctet answers. -/
def Ans (s : ByteArray) (w : World) (e : Ending) (w' : World) : Prop :=
  w' = w ∧ ((e = .returned (.int .i64 (-1)) ∧ ∀ (j : Nat) (h : j < s.size), ldh s[j].toNat = true) ∨
    ∃ k : Nat, e = .returned (.int .i64 k) ∧ ∃ hk : k < s.size, ldh s[k].toNat = false ∧ ∀ (j : Nat) (h : j < s.size), j < k → ldh s[j].toNat = true)

theorem step {s : ByteArray} {k : Nat} (h : ∀ (j : Nat) (h : j < s.size), j < k → ldh s[j].toNat = true) (hk : k < s.size) (hl : ldh s[k].toNat = true) : ∀ (j : Nat) (h : j < s.size), j < k + 1 → ldh s[j].toNat = true := by
  intro j hj hjk
  by_cases e : j = k
  · subst e; exact hl
  · exact h j hj (by omega)

set_option maxHeartbeats 400000 in
theorem idx_any (s : ByteArray) (w : World) (hs : s.size ≤ 1048576) : Calls Try.prog 7 #[.string s] w fun e w' => Ans s w e w' := by
  go_enter Try.func7, Try.ntmps7
  go_wp2
  go_loop [3] (fun i => ∃ k : Nat, k ≤ s.size ∧ i = .int .i64 k ∧ Hid (∀ (j : Nat) (h : j < s.size), j < k → ldh s[j].toNat = true)) (fun i => s.size - (intOf i).toNat)
  case atStart => exact ⟨0, by omega, rfl, hide fun j h hj => absurd hj (by omega)⟩
  case round =>
    obtain ⟨k, hk, rfl, R⟩ := hrel
    by_cases hlt : k < s.size
    · go_wp2
      · go_round
        case rel => exact ⟨k + 1, by omega, by go_num, hide (step R.out hlt (ldh_yes (by omega)))⟩
        case measure => simp [intOf]; omega
      · have h45 : ((s[k].toNat : Int) == 45) = false := by assumption
        have g45 := ne_of_beq_false h45
        go_ret
        exact ⟨rfl, .inr ⟨k, rfl, hlt, ldh_no (by omega), R.out⟩⟩
      · go_round
        case rel => exact ⟨k + 1, by omega, by go_num, hide (step R.out hlt (ldh_yes (by omega)))⟩
        case measure => simp [intOf]; omega
      · have h45 : ((s[k].toNat : Int) == 45) = false := by assumption
        have g45 := ne_of_beq_false h45
        go_ret
        exact ⟨rfl, .inr ⟨k, rfl, hlt, ldh_no (by omega), R.out⟩⟩
      · go_round
        case rel => exact ⟨k + 1, by omega, by go_num, hide (step R.out hlt (ldh_yes (by omega)))⟩
        case measure => simp [intOf]; omega
      · have h45 : ((s[k].toNat : Int) == 45) = false := by assumption
        have g45 := ne_of_beq_false h45
        go_ret
        exact ⟨rfl, .inr ⟨k, rfl, hlt, ldh_no (by omega), R.out⟩⟩
      · have h45 : ((s[k].toNat : Int) == 45) = true := by assumption
        have g45 := eq_of_beq h45
        go_round
        case rel => exact ⟨k + 1, by omega, by go_num, hide (step R.out hlt (ldh_yes (by omega)))⟩
        case measure => simp [intOf]; omega
      · have h45 : ((s[k].toNat : Int) == 45) = false := by assumption
        have g45 := ne_of_beq_false h45
        go_ret
        exact ⟨rfl, .inr ⟨k, rfl, hlt, ldh_no (by omega), R.out⟩⟩
    · have R2 : Hid (∀ (j : Nat) (h : j < s.size), ldh s[j].toNat = true) := hide fun j h => R.out j h (by omega)
      clear R
      go_wp2
      go_ret
      exact ⟨rfl, .inl ⟨rfl, R2.out⟩⟩

set_option maxHeartbeats 400000 in
/-- All of s[0:n] are labels' octets: zzLDHPrefix answers true. -/
theorem pre_any (s : ByteArray) (n : Nat) (hn : n ≤ s.size) (hs : s.size ≤ 1048576) (h : ∀ (j : Nat) (h : j < s.size), j < n → ldh s[j].toNat = true) (w : World) :
    Calls Try.prog 8 #[.string s, .int .i64 (n : Int)] w fun e w' => e = .returned (.bool true) ∧ w' = w := by
  have H := hide h
  clear h
  go_enter Try.func8, Try.ntmps8
  go_wp2
  go_loopw [5] (fun i wr => ∃ k : Nat, k ≤ n ∧ i = .int .i64 k ∧ wr = w) (fun i _ => n - (intOf i).toNat)
  case atStart => exact ⟨0, by omega, rfl, rfl⟩
  case round =>
    obtain ⟨k, hk, rfl, rfl⟩ := hrel
    by_cases hlt : k < n
    · have hks : k < s.size := by omega
      have hl := H.out k hks hlt
      go_wp2_with fail
      refine (is_any s[k] _).mono ?_
      rintro e w1 ⟨rfl, rfl⟩
      rw [hl]
      go_wp2
      go_roundw
      case rel => exact ⟨k + 1, by omega, by go_num, trivial⟩
      case measure => simp [intOf]; omega
    · go_wp2
      go_ret
      exact ⟨rfl, rfl⟩
end Go.Proofs.Qxb6603317a.Ldh
