/- The walks of b1JoinableName and of the bound on lengths (zzBytes of the join's law). -/
import Derived.Test.Qxb6602912aModelWalks
import Derived.Test.Qxb6602912aJoinPlain
namespace Go.Proofs.Qxb6602912a.Split
open Go.RowKit

theorem fine_of (s : ByteArray) (h0 : 0 < s.size) (hf : ∀ (j : Nat) (hj : j < s.size), s[j].toNat ≠ 47) (ho : oddB s.data.toList = false) : Fine s.data.toList := by
  have hal : s.data.toList.length = s.size := by simp
  refine ⟨fun h => by rw [h] at hal; simp at hal; omega, ?_, ?_⟩
  · intro c hc
    obtain ⟨j, hj, rfl⟩ := List.getElem_of_mem hc
    exact hf j (by omega)
  · unfold oddB at ho
    rw [decide_eq_false_iff_not] at ho
    omega

/-- It answers a bool; where that is true, Q; the world is as it was. -/
def Ans (Q : Prop) (w : World) (e : Ending) (w' : World) : Prop := ∃ b : Bool, e = .returned (.bool b) ∧ w' = w ∧ (b = true → Q)

set_option maxHeartbeats 400000 in
theorem joinable_any (s : ByteArray) (w : World) (hs : s.size ≤ 1048576) :
    Calls Try.prog 17 #[.string s] w fun e w' => Ans (Fine s.data.toList) w e w' := by
  have hs2 : s.size ≤ 1048577 := by omega
  by_cases h0 : 0 < s.size
  · have t0 : ((s.size : Int) == 0) = false := beq_eq_false_iff_ne.2 (by omega)
    go_enter Try.func17, Try.ntmps17
    go_wp2
    go_loop [3] (fun i => ∃ k : Nat, k ≤ s.size ∧ i = .int .i64 k ∧ Hid (∀ (j : Nat) (hj : j < s.size), j < k → s[j].toNat ≠ 47)) (fun i => s.size - (intOf i).toNat)
    case atStart => exact ⟨0, by omega, rfl, hide fun j hj h => absurd h (by omega)⟩
    case round =>
      obtain ⟨k, hk, rfl, R⟩ := hrel
      by_cases hlt : k < s.size
      · go_wp2
        · go_ret
          exact ⟨false, rfl, rfl, fun h => by cases h⟩
        · have h1 : ((s[k].toNat : Int) == 47) = false := by assumption
          have g1 := ne_of_beq_false h1
          go_round
          case rel =>
            refine ⟨k + 1, by omega, by go_num, hide fun j hj hjk => ?_⟩
            by_cases e : j = k
            · subst e; omega
            · exact R.out j hj (by omega)
          case measure => simp [intOf]; omega
      · have R2 : Hid (∀ (j : Nat) (hj : j < s.size), s[j].toNat ≠ 47) := hide fun j hj => R.out j hj (by omega)
        clear R
        go_wp2_with fail
        refine (odd_any s _ hs2).mono ?_
        rintro e w1 ⟨rfl, rfl⟩
        go_wp2
        go_ret
        exact ⟨_, rfl, rfl, fun h => fine_of s h0 R2.out (by simpa using h)⟩
  · have t0 : ((s.size : Int) == 0) = true := beq_iff_eq.2 (by omega)
    go_enter Try.func17, Try.ntmps17
    go_wp2
    go_ret
    exact ⟨false, rfl, rfl, fun h => by cases h⟩

theorem zz_nil (w : World) : Calls Try.prog 16 #[.slice none 0 0] w fun e w' => e = .returned (.bool true) ∧ w' = w := by
  go_enter Try.func16, Try.ntmps16
  go_wp2
  go_loop [3, 4] (fun z i => z = .int .i64 0 ∧ i = .int .i64 0) (fun _ _ => 0)
  case atStart => exact ⟨rfl, rfl⟩
  case round =>
    obtain ⟨rfl, rfl⟩ := hrel
    go_wp2
    go_ret
    exact ⟨rfl, rfl⟩

set_option maxHeartbeats 400000 in
theorem zz_any (b off n c : Nat) (ss : List ByteArray) (hn : ss.length = n) (hm : n ≤ 9223372036854775807) (w : World) (hc : ∀ j (h : j < ss.length), w.cell? ⟨b, off + j, none⟩ = some (.string ss[j])) (hss : ∀ s ∈ ss, s.size ≤ 9223372036854775807) :
    Calls Try.prog 16 #[.slice (some ⟨b, off, none⟩) n c] w fun e w' => Ans (∀ s ∈ ss, s.size ≤ 1048576) w e w' := by
  have HC := hide hc
  have HS := hide hss
  have HN := hide hn
  clear hc hss hn
  by_cases hb : n ≤ 1048576
  · have t0 : ¬ (1048576 : Int) < (n : Int) := by omega
    go_enter Try.func16, Try.ntmps16
    go_wp2
    go_loop [3, 4] (fun z i => ∃ k y : Nat, k ≤ n ∧ y ≤ 1048576 ∧ z = .int .i64 y ∧ i = .int .i64 k ∧ Hid (∀ (j : Nat) (hj : j < ss.length), j < k → (ss[j]).size ≤ 1048576)) (fun _ i => n - (intOf i).toNat)
    case atStart => exact ⟨0, n, by omega, by omega, rfl, rfl, hide fun j hj h => absurd h (by omega)⟩
    case round =>
      obtain ⟨k, y, hk, hy, rfl, rfl, R⟩ := hrel
      by_cases hlt : k < n
      · have hks : k < ss.length := by rw [HN.out]; exact hlt
        obtain ⟨x, hx⟩ : ∃ x, x = ss[k] := ⟨_, rfl⟩
        have hcell : w.cell? ⟨b, off + k, none⟩ = some (.string x) := by rw [hx]; exact HC.out k hks
        have hxs : x.size ≤ 9223372036854775807 := by rw [hx]; exact HS.out _ (List.getElem_mem hks)
        have HX := hide hx
        clear hx
        by_cases h1 : x.size ≤ 1048576
        · by_cases h2 : y + x.size ≤ 1048576
          · go_wp2
            go_round
            case rel =>
              refine ⟨k + 1, y + x.size, by omega, by omega, by go_num, by go_num, hide fun j hj hjk => ?_⟩
              by_cases e : j = k
              · subst e; rw [← HX.out]; exact h1
              · exact R.out j hj (by omega)
            case measure => simp [intOf]; omega
          · go_wp2
            go_ret
            exact ⟨false, rfl, rfl, fun h => by cases h⟩
        · go_wp2
          go_ret
          exact ⟨false, rfl, rfl, fun h => by cases h⟩
      · go_wp2
        go_ret
        refine ⟨true, rfl, rfl, fun _ s hs => ?_⟩
        obtain ⟨j, hj, rfl⟩ := List.getElem_of_mem hs
        exact R.out j hj (by have := HN.out; omega)
  · have t0 : (1048576 : Int) < (n : Int) := by omega
    go_enter Try.func16, Try.ntmps16
    go_wp2
    go_ret
    exact ⟨false, rfl, rfl, fun h => by cases h⟩
end Go.Proofs.Qxb6602912a.Split
