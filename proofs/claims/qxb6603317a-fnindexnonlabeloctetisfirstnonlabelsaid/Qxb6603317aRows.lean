/-
  No cell of these rows narrows 'for every input' (looked for: loops, veiled, ifaces, maps, wideKeys, modest, calm, conditions, laid).
  DERIVED. THE GIVEN ROWS OF THIS SEAT. 3 by the template 'for every input the law returns true; each argument reads behind the call as it read before'; 0 by the template 'total and deterministic' (their statements: Qxb6603317aTotals.lean).
  GIVEN WITH THE SEED: the statements are not yours to turn. If you find one false, say at which input.
  Laid BY PROGRAM, IN A SANDBOX (cutbox-rows.mjs): the forced cells as the released guide's own fill.sh prints them over the translation 5e6a81f5f469abd7… (all of the seat's roots in one cut). By AI agents, Wed Nov 11 2026. No macro, syntax, notation, axiom, sorry.
-/
import Derived.Test.Qxb6603317aChecked
import GoSem.Claim
import GoSem.ClaimJoined
import GoSem.ClaimMapViews
import Derived.JoinedTies
import Derived.KernelRfl
namespace Go.Proofs.Qxb6603317a
/- THE CELL 'sum', in the pinned program and in every row, IS THE sha256 OF THE DUMP (.gsa) THAT Qxb6603317aProg.lean LOADS. Nothing in Lean hashes anything: it is a label: what it is worth is what the hold of that sum in a sandbox is worth. -/
noncomputable def Try.pinned : Pinned := { name := "qxb6603317a", sum := "5e6a81f5f469abd7cf589d3f57c5fed0730716d897e987b15a21939b34e94e8e", checked := Try.checked }
namespace Rows
def none {H : Type} : Left H := { results := [], args := [] }

/-- 'zzlaws_internal_nas5gsm_b1.FnIndexNonLabelOctetIsFirstNonLabel': WHATEVER THE INPUT: true; the input reads as it did. -/
def fnIndexNonLabelOctetIsFirstNonLabelSpec : ChangeSpec := { name := "fnIndexNonLabelOctetIsFirstNonLabel", fn := fun _ => fun
  | [d] => { results := [.lit (.bool true)], args := [d] }
  | _ => none }
def fnIndexNonLabelOctetIsFirstNonLabelRow : OpenClaim := { program := "qxb6603317a", sum := "5e6a81f5f469abd7cf589d3f57c5fed0730716d897e987b15a21939b34e94e8e", func := "example.com/flowmend/flowmend/zzlaws_internal_nas5gsm_b1.FnIndexNonLabelOctetIsFirstNonLabel", spec := "fnIndexNonLabelOctetIsFirstNonLabel", apart := false }
def FnIndexNonLabelOctetIsFirstNonLabelSaid : Prop := fnIndexNonLabelOctetIsFirstNonLabelRow.holds Try.pinned (OpenSpec.ofChange fnIndexNonLabelOctetIsFirstNonLabelSpec)

/-- ITS FALSE NEIGHBOUR: 'it returns false'. Refute it at one input. -/
def fnIndexNonLabelOctetIsFirstNonLabelWrong : ChangeSpec := { name := "fnIndexNonLabelOctetIsFirstNonLabel", fn := fun _ => fun
  | [d] => { results := [.lit (.bool false)], args := [d] }
  | _ => none }
def FnIndexNonLabelOctetIsFirstNonLabelWrongFalsely : Prop := fnIndexNonLabelOctetIsFirstNonLabelRow.holds Try.pinned (OpenSpec.ofChange fnIndexNonLabelOctetIsFirstNonLabelWrong)

/-- 'zzlaws_internal_nas5gsm_b1.FnIndexNonLabelOctetOfConcatenation': WHATEVER THE INPUT: true; the input reads as it did. -/
def fnIndexNonLabelOctetOfConcatenationSpec : ChangeSpec := { name := "fnIndexNonLabelOctetOfConcatenation", fn := fun _ => fun
  | [d1, d2] => { results := [.lit (.bool true)], args := [d1, d2] }
  | _ => none }
def fnIndexNonLabelOctetOfConcatenationRow : OpenClaim := { program := "qxb6603317a", sum := "5e6a81f5f469abd7cf589d3f57c5fed0730716d897e987b15a21939b34e94e8e", func := "example.com/flowmend/flowmend/zzlaws_internal_nas5gsm_b1.FnIndexNonLabelOctetOfConcatenation", spec := "fnIndexNonLabelOctetOfConcatenation", apart := false }
def FnIndexNonLabelOctetOfConcatenationSaid : Prop := fnIndexNonLabelOctetOfConcatenationRow.holds Try.pinned (OpenSpec.ofChange fnIndexNonLabelOctetOfConcatenationSpec)

/-- ITS FALSE NEIGHBOUR: 'it returns false'. Refute it at one input. -/
def fnIndexNonLabelOctetOfConcatenationWrong : ChangeSpec := { name := "fnIndexNonLabelOctetOfConcatenation", fn := fun _ => fun
  | [d1, d2] => { results := [.lit (.bool false)], args := [d1, d2] }
  | _ => none }
def FnIndexNonLabelOctetOfConcatenationWrongFalsely : Prop := fnIndexNonLabelOctetOfConcatenationRow.holds Try.pinned (OpenSpec.ofChange fnIndexNonLabelOctetOfConcatenationWrong)

/-- 'zzlaws_internal_nas5gsm_b1.FnIndexNonLabelOctetIgnoresLetterCase': WHATEVER THE INPUT: true; the input reads as it did. -/
def fnIndexNonLabelOctetIgnoresLetterCaseSpec : ChangeSpec := { name := "fnIndexNonLabelOctetIgnoresLetterCase", fn := fun _ => fun
  | [d] => { results := [.lit (.bool true)], args := [d] }
  | _ => none }
def fnIndexNonLabelOctetIgnoresLetterCaseRow : OpenClaim := { program := "qxb6603317a", sum := "5e6a81f5f469abd7cf589d3f57c5fed0730716d897e987b15a21939b34e94e8e", func := "example.com/flowmend/flowmend/zzlaws_internal_nas5gsm_b1.FnIndexNonLabelOctetIgnoresLetterCase", spec := "fnIndexNonLabelOctetIgnoresLetterCase", apart := false }
def FnIndexNonLabelOctetIgnoresLetterCaseSaid : Prop := fnIndexNonLabelOctetIgnoresLetterCaseRow.holds Try.pinned (OpenSpec.ofChange fnIndexNonLabelOctetIgnoresLetterCaseSpec)

/-- ITS FALSE NEIGHBOUR: 'it returns false'. Refute it at one input. -/
def fnIndexNonLabelOctetIgnoresLetterCaseWrong : ChangeSpec := { name := "fnIndexNonLabelOctetIgnoresLetterCase", fn := fun _ => fun
  | [d] => { results := [.lit (.bool false)], args := [d] }
  | _ => none }
def FnIndexNonLabelOctetIgnoresLetterCaseWrongFalsely : Prop := fnIndexNonLabelOctetIgnoresLetterCaseRow.holds Try.pinned (OpenSpec.ofChange fnIndexNonLabelOctetIgnoresLetterCaseWrong)

end Rows
end Go.Proofs.Qxb6603317a
