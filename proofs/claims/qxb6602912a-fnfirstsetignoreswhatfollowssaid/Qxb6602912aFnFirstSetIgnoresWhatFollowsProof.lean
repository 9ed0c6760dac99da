import Derived.Test.Qxb6602912aFnFirstSetIgnoresWhatFollowsClosed
import Derived.Test.Qxb6602912aFirstWalks
import Derived.WalkKit
import Derived.WalkSpells
import Derived.ProofKit
import Derived.OpenShut
import Derived.ShutString
namespace Go.Proofs.Qxb6602912a.fnFirstSetIgnoresWhatFollows
open Go.ChangeShapes Go.WideShapes Go.ChangeAt Go.RowKit
open Go.ChangeMaps (open_string shut_string)
set_option linter.unusedVariables false      -- a walk need not use every 'w<i>' (that an integer argument fits its kind)

theorem own : ownKnob Try.prog.godebug = none := by kernel_rfl

/-! ### STEP 1: THE WALK: the Go text returns true. 'Grown w w'': the world has at most new blocks (Derived/RowKit3.lean). Part the cases AHEAD of 'go_enter' where a test parts the walk; take each callee by a contract of your own. -/
theorem walk (a0 : ByteArray) (a1 : ByteArray) (w0 : a0.size ≤ maxLen) (w1 : a1.size ≤ maxLen) (w : World) :
    Calls Try.prog 11 #[.string a0, .string a1] w fun e w' => e = .returned (.bool true) ∧ Grown w w' := by
  have hs0 := w0
  unfold maxLen at w0 w1
  by_cases hb0 : a0.size ≤ 524288
  · by_cases hb1 : a1.size ≤ 524288
    · have hd0 : ¬ (524288 : Int) < (a0.size : Int) := by omega
      have hd1 : ¬ (524288 : Int) < (a1.size : Int) := by omega
      rcases First.fs_facts a0.data.toList with h | ⟨k, m, h1, h2, h3, h4, ⟨c, h5, h6⟩, h7⟩
      · have H := First.hide h
        clear h
        go_enter Try.func11, Try.ntmps11
        go_wp2_with (first | (go_at_call 21; refine (First.ZZfirstSet_any _ _ hs0).mono ?_; rintro e w' ⟨rfl, rfl⟩; rw [H.out]) | (go_at_call 31; go_in))
        go_ret
        exact ⟨rfl, Grown.refl _⟩
      · have hks : k < a0.size := by simpa using h4
        have hck : a0[k].toNat = 91 := by
          have e : a0.data.toList[k]? = some a0[k] := by rw [List.getElem?_eq_getElem (by simpa using hks)]; rfl
          rw [e] at h5
          rw [Option.some.inj h5]; exact h6
        have HC : ((a0[k].toNat : Int) == 91) = true := beq_iff_eq.2 (by omega)
        have H1 := First.hide h1
        have happ : (a0 ++ a1).data.toList = a0.data.toList ++ a1.data.toList := by simp
        have hsz : (a0 ++ a1).size = a0.size + a1.size := ByteArray.size_append
        have hm : (a0 ++ a1).size ≤ maxLen := by unfold maxLen; omega
        have H7 : Hid (First.fs (a0 ++ a1).data.toList = ((k : Int), (m : Int))) := First.hide (by rw [happ]; exact h7 a1.data.toList)
        clear h1 h7 h5 hck h6 h4 happ hsz
        go_enter Try.func11, Try.ntmps11
        go_wp2_with (first | (go_at_call 31; go_in))
        refine (First.ZZfirstSet_any _ _ hs0).mono ?_
        rintro e w' ⟨rfl, rfl⟩
        rw [H1.out]
        go_wp2_with fail
        refine (First.ZZfirstSet_any _ _ hm).mono ?_
        rintro e w' ⟨rfl, rfl⟩
        rw [H7.out]
        go_wp2
        go_ret
        exact ⟨rfl, Grown.refl _⟩
    · have hd0 : ¬ (524288 : Int) < (a0.size : Int) := by omega
      have hd1 : (524288 : Int) < (a1.size : Int) := by omega
      go_enter Try.func11, Try.ntmps11
      go_wp2
      all_goals (go_ret; exact ⟨rfl, Grown.refl _⟩)
  · have hd0 : (524288 : Int) < (a0.size : Int) := by omega
    go_enter Try.func11, Try.ntmps11
    go_wp2
    all_goals (go_ret; exact ⟨rfl, Grown.refl _⟩)

/-! ### THE ROW's STEP: WRITTEN OUT: LEAVE IT -/
set_option maxRecDepth 100000 in
theorem lifted (os : Os) (started : os.Started) (H : Type) (enc : TypeId × Value → H) :
    ReturnsInHanded {} Try.checked os 11 .any (Rows.fnFirstSetIgnoresWhatFollowsSpec.pre6 enc Try.prog Try.f11 Rows.fnFirstSetIgnoresWhatFollowsRow.domain false) (Rows.fnFirstSetIgnoresWhatFollowsSpec.post enc Try.prog Try.f11 false true false false) := by
  refine returnsInHanded_of_change (C := Try.checked) own started (by kernel_rfl) Try.func11
    (ChangeSpec.witness6 (enc := enc) (C := Try.checked) false ⟨#[], #[.string ByteArray.empty, .string ByteArray.empty], []⟩ 8 (by kernel_rfl) (by kernel_rfl) (by kernel_rfl) (by kernel_rfl)) ?_
  intro W base args ds gs before hval0 hW hcnd _
  have hval : ∀ (j : Nat) t v, Try.f11.params[j]? = some t → args[j]? = some v → Value.okWide Try.prog W .any base t v := hval0
  have hW' := hW
  obtain ⟨p, q, hA0, hV, rfl, hfz, hnd⟩ := hW
  have hA : DataW.TrodAll enc Try.prog W 0 (fun _ => true) true Try.f11.params.toList args.toList ds p := hA0
  rw [Try.params11] at hA hval
  obtain ⟨v0, vs0, d0, ds0, p0, q0, hargs, rfl, rfl, h0, r0⟩ := trodAll_cons hA
  obtain ⟨v1, vs1, d1, ds1, p1, q1, rfl, rfl, rfl, h1, r1⟩ := trodAll_cons r0
  obtain ⟨rfl, rfl, rfl⟩ := trodAll_nil r1
  obtain rfl : args = #[v0, v1] := by cases args; simp_all
  obtain ⟨rfl, rfl⟩ := trodVars_none hV
  obtain ⟨a0, rfl, rfl, rfl, w0⟩ := open_string Try.underlying9 (hval 0 9 v0 rfl rfl) h0
  obtain ⟨a1, rfl, rfl, rfl, w1⟩ := open_string Try.underlying9 (hval 1 9 v1 rfl rfl) h1
  clear hA0 hval0
  simp only [List.append_nil] at hW'
  refine (walk a0 a1 w0 w1 W).mono fun e W' ⟨he, hg⟩ => ?_
  subst he
  exact ⟨_, rfl, post_of_same (pa := []) (pv := []) hW' (fun _ _ _ => (trodAll_cons_mk (shut_bool Try.underlying4 _) trodAll_mk0)) (fun sp _ => (trodAll_cons_mk (shut_string Try.underlying9 w0) (trodAll_cons_mk (shut_string Try.underlying9 w1) trodAll_mk0))) (fun _ _ => rfl) rfl
    (hg.frame _) hg.2.1 (ok_one (by kernel_rfl) rfl (okWide_bool_mk Try.underlying4 _))⟩

theorem over : Rows.fnFirstSetIgnoresWhatFollowsRow.holds Try.pinned (OpenSpec.ofChange Rows.fnFirstSetIgnoresWhatFollowsSpec) :=
  OpenClaim.holds_of_wide 11 Try.f11 rfl rfl rfl rfl rfl rfl rfl ⟨rfl, rfl, rfl, rfl, rfl⟩ rfl rfl rfl rfl rfl named Try.func11 closed
    (of_decide_eq_true (by kernel_rfl)) (by unfold Func.isWrapper; first | (rw [if_pos (by decide +kernel)]; kernel_rfl) | (rw [if_neg (by decide +kernel)]; exact ⟨rfl, rfl⟩))
    (fun os started H enc _ => lifted os started H enc)

/-- ████ THE STATEMENT ████ -/
theorem proved : Rows.FnFirstSetIgnoresWhatFollowsSaid :=
  over
#print axioms proved
end Go.Proofs.Qxb6602912a.fnFirstSetIgnoresWhatFollows
