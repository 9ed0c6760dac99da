/- The walk of the law's own hasPrefix; plain facts on texts. -/
import Derived.Test.Qxb6603285aTermWalks
namespace Go.Proofs.Qxb6603285a.Ord
open Go.RowKit

theorem at_list (s : ByteArray) (k : Nat) (h : k < s.size) : s.data.toList[k]? = some s[k] := by
  rw [List.getElem?_eq_getElem (by simpa using h)]; rfl

/-- The bytes agree up to p's end: it answers true. -/
theorem hp_yes (s p : ByteArray) (r : List UInt8) (h : s.data.toList = p.data.toList ++ r) (hs : s.size ≤ 16777216) (w : World) :
    Calls Try.prog 12 #[.string s, .string p] w fun e w' => e = .returned (.bool true) ∧ ∃ n, w' = w.drewN n := by
  have hl : p.size ≤ s.size := by
    have := congrArg List.length h
    simp at this
    omega
  have hb : ∀ (k : Nat) (hk : k < p.size), s[k] = p[k] := by
    intro k hk
    have h1 := at_list s k (by omega)
    have h2 := at_list p k hk
    rw [h, List.getElem?_append_left (by simpa using hk), h2] at h1
    exact (Option.some.inj h1).symm
  have HB := hide hb
  clear h hb
  go_enter Try.func12, Try.ntmps12
  go_wp2
  go_loopw [5] (fun i wr => ∃ k n : Nat, k ≤ p.size ∧ i = .int .i64 k ∧ wr = w.drewN n) (fun i _ => p.size - (intOf i).toNat)
  case atStart => exact ⟨0, 0, Nat.zero_le _, rfl, rfl⟩
  case round =>
    obtain ⟨k, n, hk, rfl, rfl⟩ := hrel
    by_cases hlt : k < p.size
    · have hks : k < s.size := by omega
      have e : ((s[k].toNat : Int) != (p[k].toNat : Int)) = false := by rw [HB.out k hlt]; simp
      go_wp2
      go_quiet (fail)
      go_wp2
      go_roundw
      case rel => exact ⟨k + 1, _, by omega, by go_num, rfl⟩
      case measure => simp [intOf]; omega
    · go_wp2
      go_ret
      exact ⟨rfl, n, rfl⟩

/-- A place at which the two part (or s ends): it answers false. -/
theorem hp_no (s p : ByteArray) (j : Nat) (hj : j < p.size) (h : s.data.toList[j]? ≠ p.data.toList[j]?) (hs : s.size ≤ 16777216) (_hp : p.size ≤ 16777216) (w : World) :
    Calls Try.prog 12 #[.string s, .string p] w fun e w' => e = .returned (.bool false) ∧ ∃ n, w' = w.drewN n := by
  by_cases hl : s.size < p.size
  · clear h
    go_enter Try.func12, Try.ntmps12
    go_wp2
    go_ret
    exact ⟨rfl, 0, rfl⟩
  · have hjs : j < s.size := by omega
    have hne : s[j] ≠ p[j] := by
      intro e
      rw [at_list s j hjs, at_list p j hj, e] at h
      exact h rfl
    have HN := hide hne
    clear h hne
    go_enter Try.func12, Try.ntmps12
    go_wp2
    go_loopw [5] (fun i wr => ∃ k n : Nat, k ≤ j ∧ i = .int .i64 k ∧ wr = w.drewN n) (fun i _ => p.size - (intOf i).toNat)
    case atStart => exact ⟨0, 0, Nat.zero_le _, rfl, rfl⟩
    case round =>
      obtain ⟨k, n, hk, rfl, rfl⟩ := hrel
      have hlt : k < p.size := by omega
      have hks : k < s.size := by omega
      by_cases e : s[k] = p[k]
      · have e1 : ((s[k].toNat : Int) != (p[k].toNat : Int)) = false := by rw [e]; simp
        have hkj : k < j := by
          by_cases h0 : k = j
          · subst h0; exact absurd e HN.out
          · omega
        clear e
        go_wp2
        go_quiet (fail)
        go_wp2
        go_roundw
        case rel => exact ⟨k + 1, _, by omega, by go_num, rfl⟩
        case measure => simp [intOf]; omega
      · have e1 : ((s[k].toNat : Int) != (p[k].toNat : Int)) = true := by
          rw [bne_iff_ne]; intro h; exact e (UInt8.toNat.inj (by omega))
        clear e
        go_wp2
        go_quiet (fail)
        go_wp2
        go_ret
        exact ⟨rfl, n + nq, by rw [World.drewN_drewN]⟩

/-- What is left behind a cut. -/
theorem cut_list (s : ByteArray) (n : Nat) (a b : List UInt8) (h : s.data.toList = a ++ b) (hn : a.length = n) : (s.extract n s.size).data.toList = b := by
  have e : (s.extract n s.size).data.toList = s.data.toList.drop n := by
    have hl : s.data.toList.length = s.size := by simp
    have e1 : (s.extract n s.size).data.toList = (s.data.toList.drop n).take (s.size - n) := by
      simp only [ByteArray.data_extract, Array.toList_extract, List.extract_eq_take_drop]
    rw [e1, List.take_of_length_le (by rw [List.length_drop]; omega)]
  rw [e, h, ← hn, List.drop_left]

theorem size_list (s : ByteArray) : s.size = s.data.toList.length := by simp
end Go.Proofs.Qxb6603285a.Ord
