import Derived.Test.Qxb6602912aFnPatternElementsSplitsAtEverySlashClosed
import Derived.Test.Qxb6602912aModelWalks
import Derived.WalkKit
import Derived.WalkSpells
import Derived.ProofKit
import Derived.OpenShut
import Derived.ShutString
import Derived.ChangeOld
import Derived.Below
namespace Go.Proofs.Qxb6602912a.fnPatternElementsSplitsAtEverySlash
open Go.ChangeShapes Go.WideShapes Go.ChangeAt Go.RowKit
open Go.ChangeMaps (open_string shut_string)
set_option linter.unusedVariables false      -- a walk need not use every 'w<i>' (that an integer argument fits its kind)

theorem own : ownKnob Try.prog.godebug = none := by kernel_rfl

/-! ### STEP 1: THE WALK: the Go text returns true. 'Below w.heap.size w w'': what lay in memory before the call stands (the builder's String freezes bytes in NEW blocks, so 'Grown' would be false here). Part the cases AHEAD of 'go_enter' where a test parts the walk; take each callee by a contract of your own. -/
theorem walk (a0 : ByteArray) (w0 : a0.size ≤ maxLen) (w : World) :
    Calls Try.prog 3 #[.string a0] w fun e w' => e = .returned (.bool true) ∧ Below w.heap.size w w' := by
  unfold maxLen at w0
  by_cases hb : a0.size ≤ 1048576
  · have hd : ¬ (1048576 : Int) < (a0.size : Int) := by omega
    have q0 := fun (w : World) (a : Option Addr) (n c : Nat) => Lib.run_eql_slice_nil (P := Try.prog) w 23 9 a n c 0 0 Try.underlying23
    have hs : a0.size ≤ 1048577 := by omega
    go_enter Try.func3, Try.ntmps3
    go_wp2_with (first | (go_at_call 12; go_in))
    refine (Split.ZZpe_any _ _ hs).mono ?_
    rintro e w1 ⟨v1, rfl, hown1, hnil1, hbel1⟩
    go_wp2_with fail
    refine (Split.model_any _ _ hb).mono ?_
    rintro e w2 ⟨v2, rfl, hown2, hbel2⟩
    have hbel3 : Below w.heap.size w w2 := hbel1.trans (hbel2.mono hbel1.size)
    have hlen : (Split.pe a0.data.toList).length ≤ 1048578 := by
      have hal : a0.data.toList.length = a0.size := by simp
      by_cases h0 : a0.data.toList = []
      · rw [h0, Split.pe_nil]; simp
      · obtain ⟨els, x, hpe, _, _, _, hl, _⟩ := Split.pe_shape _ h0
        rw [hpe, List.length_append]; simp; omega
    have r1 := Split.hide (Split.Reads.later hown1 hbel2)
    have r2 := Split.hide (Split.Reads.of hown2)
    have hv : (∃ c, v1 = .slice none 0 c ∧ (Split.pe a0.data.toList).length = 0) ∨ ∃ x c, v1 = .slice (some x) (Split.pe a0.data.toList).length c ∧ ((Split.pe a0.data.toList).length : Int) ≠ 0 := by
      by_cases h0 : Split.pe a0.data.toList = []
      · exact .inl ⟨0, hnil1 h0, by rw [h0]; rfl⟩
      · rcases r1.out with ⟨_, h⟩ | ⟨g, c, h, _⟩
        · exact absurd h h0
        · exact .inr ⟨_, c, h, by have := List.length_pos_iff.2 h0; omega⟩
    obtain ⟨b2, d2, hv2⟩ := r2.out.form
    clear hown1 hnil1 hbel1 hown2 hbel2
    rw [hv2] at r2 ⊢
    clear hv2
    rcases hv with ⟨c, hv1, hn0⟩ | ⟨x, c, hv1, hn0⟩
    · rw [hv1] at r1 ⊢
      have t1 : (((Split.pe a0.data.toList).length : Int) == 0) = true := beq_iff_eq.2 (by omega)
      clear hv1 hn0
      go_wp2_with fail
      refine (Split.same_true hlen r1.out r2.out).mono ?_
      rintro e w3 ⟨rfl, n, rfl⟩
      go_wp2
      go_ret
      exact ⟨rfl, Split.below_drewN hbel3 n⟩
    · rw [hv1] at r1 ⊢
      have t1 : (((Split.pe a0.data.toList).length : Int) == 0) = false := beq_eq_false_iff_ne.2 hn0
      clear hv1 hn0
      go_wp2_with fail
      refine (Split.same_true hlen r1.out r2.out).mono ?_
      rintro e w3 ⟨rfl, n, rfl⟩
      go_wp2
      go_ret
      exact ⟨rfl, Split.below_drewN hbel3 n⟩
  · have hd : (1048576 : Int) < (a0.size : Int) := by omega
    go_enter Try.func3, Try.ntmps3
    go_wp2
    go_ret
    exact ⟨rfl, Below.refl _ _⟩

/-! ### THE ROW's STEP: WRITTEN OUT: LEAVE IT -/
set_option maxRecDepth 100000 in
theorem lifted (os : Os) (started : os.Started) (H : Type) (enc : TypeId × Value → H) :
    ReturnsInHanded {} Try.checked os 3 .any (Rows.fnPatternElementsSplitsAtEverySlashSpec.pre6 enc Try.prog Try.f3 Rows.fnPatternElementsSplitsAtEverySlashRow.domain false) (Rows.fnPatternElementsSplitsAtEverySlashSpec.post enc Try.prog Try.f3 false true false false) := by
  refine returnsInHanded_of_change (C := Try.checked) own started (by kernel_rfl) Try.func3
    (ChangeSpec.witness6 (enc := enc) (C := Try.checked) false ⟨#[], #[.string ByteArray.empty], []⟩ 8 (by kernel_rfl) (by kernel_rfl) (by kernel_rfl) (by kernel_rfl)) ?_
  intro W base args ds gs before hval0 hW hcnd _
  have hval : ∀ (j : Nat) t v, Try.f3.params[j]? = some t → args[j]? = some v → Value.okWide Try.prog W .any base t v := hval0
  have hW' := hW
  obtain ⟨p, q, hA0, hV, rfl, hfz, hnd⟩ := hW
  have hA : DataW.TrodAll enc Try.prog W 0 (fun _ => true) true Try.f3.params.toList args.toList ds p := hA0
  rw [Try.params3] at hA hval
  obtain ⟨v0, vs0, d0, ds0, p0, q0, hargs, rfl, rfl, h0, r0⟩ := trodAll_cons hA
  obtain ⟨rfl, rfl, rfl⟩ := trodAll_nil r0
  obtain rfl : args = #[v0] := by cases args; simp_all
  obtain ⟨rfl, rfl⟩ := trodVars_none hV
  obtain ⟨a0, rfl, rfl, rfl, w0⟩ := open_string Try.underlying9 (hval 0 9 v0 rfl rfl) h0
  clear hA0 hval0
  simp only [List.append_nil] at hW'
  refine (walk a0 w0 W).mono fun e W' ⟨he, bel⟩ => ?_
  subst he
  exact ⟨_, rfl, _, _, _, [], _, [], hW', trodAll_mk1 (shut_bool Try.underlying4 _), (trodAll_cons_mk (shut_string Try.underlying9 w0) trodAll_mk0), rfl, bel.frame _, fun h => by cases h⟩

theorem over : Rows.fnPatternElementsSplitsAtEverySlashRow.holds Try.pinned (OpenSpec.ofChange Rows.fnPatternElementsSplitsAtEverySlashSpec) :=
  OpenClaim.holds_of_wide 3 Try.f3 rfl rfl rfl rfl rfl rfl rfl ⟨rfl, rfl, rfl, rfl, rfl⟩ rfl rfl rfl rfl rfl named Try.func3 closed
    (of_decide_eq_true (by kernel_rfl)) (by unfold Func.isWrapper; first | (rw [if_pos (by decide +kernel)]; kernel_rfl) | (rw [if_neg (by decide +kernel)]; exact ⟨rfl, rfl⟩))
    (fun os started H enc _ => lifted os started H enc)

/-- ████ THE STATEMENT ████ -/
theorem proved : Rows.FnPatternElementsSplitsAtEverySlashSaid :=
  over
#print axioms proved
end Go.Proofs.Qxb6602912a.fnPatternElementsSplitsAtEverySlash
