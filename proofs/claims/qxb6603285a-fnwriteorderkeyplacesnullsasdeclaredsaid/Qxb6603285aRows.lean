/-
  No cell of these rows narrows 'for every input' (looked for: loops, veiled, ifaces, maps, wideKeys, modest, calm, conditions, laid).
  DERIVED. THE GIVEN ROWS OF THIS SEAT. 5 by the template 'for every input the law returns true; each argument reads behind the call as it read before'; 0 by the template 'total and deterministic' (their statements: Qxb6603285aTotals.lean).
  GIVEN WITH THE SEED: the statements are not yours to turn. If you find one false, say at which input.
  Laid BY PROGRAM, IN A SANDBOX (cutbox-rows.mjs): the forced cells as the released guide's own fill.sh prints them over the translation 3cdf47d90ca1102a… (all of the seat's roots in one cut). By AI agents, Wed Nov 11 2026. No macro, syntax, notation, axiom, sorry.
-/
import Derived.Test.Qxb6603285aChecked
import GoSem.Claim
import GoSem.ClaimJoined
import GoSem.ClaimMapViews
import Derived.JoinedTies
import Derived.KernelRfl
namespace Go.Proofs.Qxb6603285a
/- THE CELL 'sum', in the pinned program and in every row, IS THE sha256 OF THE DUMP (.gsa) THAT Qxb6603285aProg.lean LOADS. Nothing in Lean hashes anything: it is a label: what it is worth is what the hold of that sum in a sandbox is worth. -/
noncomputable def Try.pinned : Pinned := { name := "qxb6603285a", sum := "3cdf47d90ca1102a2e52cef814f19661673c1cf111676c0aaa9c8f37e11aefb2", checked := Try.checked }
namespace Rows
def none {H : Type} : Left H := { results := [], args := [] }

/-- 'zzlaws_root_b1.FnWriteOrderKeyCaseTable': WHATEVER THE INPUT: true; the input reads as it did. -/
def fnWriteOrderKeyCaseTableSpec : ChangeSpec := { name := "fnWriteOrderKeyCaseTable", fn := fun _ => fun
  | [d1, d2, d3, d4, d5, d6, d7, d8] => { results := [.lit (.bool true)], args := [d1, d2, d3, d4, d5, d6, d7, d8] }
  | _ => none }
def fnWriteOrderKeyCaseTableRow : OpenClaim := { program := "qxb6603285a", sum := "3cdf47d90ca1102a2e52cef814f19661673c1cf111676c0aaa9c8f37e11aefb2", func := "example.com/keysetter/keysetter/zzlaws_root_b1.FnWriteOrderKeyCaseTable", spec := "fnWriteOrderKeyCaseTable", inPlace := ["internal/abi.NoEscape"], apart := false }
def FnWriteOrderKeyCaseTableSaid : Prop := fnWriteOrderKeyCaseTableRow.holds Try.pinned (OpenSpec.ofChange fnWriteOrderKeyCaseTableSpec)

/-- ITS FALSE NEIGHBOUR: 'it returns false'. Refute it at one input. -/
def fnWriteOrderKeyCaseTableWrong : ChangeSpec := { name := "fnWriteOrderKeyCaseTable", fn := fun _ => fun
  | [d1, d2, d3, d4, d5, d6, d7, d8] => { results := [.lit (.bool false)], args := [d1, d2, d3, d4, d5, d6, d7, d8] }
  | _ => none }
def FnWriteOrderKeyCaseTableWrongFalsely : Prop := fnWriteOrderKeyCaseTableRow.holds Try.pinned (OpenSpec.ofChange fnWriteOrderKeyCaseTableWrong)

/-- 'zzlaws_root_b1.FnWriteOrderKeyPlacesNullsAsDeclared': WHATEVER THE INPUT: true; the input reads as it did. -/
def fnWriteOrderKeyPlacesNullsAsDeclaredSpec : ChangeSpec := { name := "fnWriteOrderKeyPlacesNullsAsDeclared", fn := fun _ => fun
  | [d1, d2, d3, d4, d5, d6, d7, d8] => { results := [.lit (.bool true)], args := [d1, d2, d3, d4, d5, d6, d7, d8] }
  | _ => none }
def fnWriteOrderKeyPlacesNullsAsDeclaredRow : OpenClaim := { program := "qxb6603285a", sum := "3cdf47d90ca1102a2e52cef814f19661673c1cf111676c0aaa9c8f37e11aefb2", func := "example.com/keysetter/keysetter/zzlaws_root_b1.FnWriteOrderKeyPlacesNullsAsDeclared", spec := "fnWriteOrderKeyPlacesNullsAsDeclared", inPlace := ["internal/abi.NoEscape"], apart := false }
def FnWriteOrderKeyPlacesNullsAsDeclaredSaid : Prop := fnWriteOrderKeyPlacesNullsAsDeclaredRow.holds Try.pinned (OpenSpec.ofChange fnWriteOrderKeyPlacesNullsAsDeclaredSpec)

/-- ITS FALSE NEIGHBOUR: 'it returns false'. Refute it at one input. -/
def fnWriteOrderKeyPlacesNullsAsDeclaredWrong : ChangeSpec := { name := "fnWriteOrderKeyPlacesNullsAsDeclared", fn := fun _ => fun
  | [d1, d2, d3, d4, d5, d6, d7, d8] => { results := [.lit (.bool false)], args := [d1, d2, d3, d4, d5, d6, d7, d8] }
  | _ => none }
def FnWriteOrderKeyPlacesNullsAsDeclaredWrongFalsely : Prop := fnWriteOrderKeyPlacesNullsAsDeclaredRow.holds Try.pinned (OpenSpec.ofChange fnWriteOrderKeyPlacesNullsAsDeclaredWrong)

/-- 'zzlaws_root_b1.FnWriteValueDirectionAndLayout': WHATEVER THE INPUT: true; the input reads as it did. -/
def fnWriteValueDirectionAndLayoutSpec : ChangeSpec := { name := "fnWriteValueDirectionAndLayout", fn := fun _ => fun
  | [d1, d2, d3, d4, d5, d6, d7] => { results := [.lit (.bool true)], args := [d1, d2, d3, d4, d5, d6, d7] }
  | _ => none }
def fnWriteValueDirectionAndLayoutRow : OpenClaim := { program := "qxb6603285a", sum := "3cdf47d90ca1102a2e52cef814f19661673c1cf111676c0aaa9c8f37e11aefb2", func := "example.com/keysetter/keysetter/zzlaws_root_b1.FnWriteValueDirectionAndLayout", spec := "fnWriteValueDirectionAndLayout", inPlace := ["internal/abi.NoEscape"], apart := false }
def FnWriteValueDirectionAndLayoutSaid : Prop := fnWriteValueDirectionAndLayoutRow.holds Try.pinned (OpenSpec.ofChange fnWriteValueDirectionAndLayoutSpec)

/-- ITS FALSE NEIGHBOUR: 'it returns false'. Refute it at one input. -/
def fnWriteValueDirectionAndLayoutWrong : ChangeSpec := { name := "fnWriteValueDirectionAndLayout", fn := fun _ => fun
  | [d1, d2, d3, d4, d5, d6, d7] => { results := [.lit (.bool false)], args := [d1, d2, d3, d4, d5, d6, d7] }
  | _ => none }
def FnWriteValueDirectionAndLayoutWrongFalsely : Prop := fnWriteValueDirectionAndLayoutRow.holds Try.pinned (OpenSpec.ofChange fnWriteValueDirectionAndLayoutWrong)

/-- 'zzlaws_root_b1.FnWriteValueNestsLikeExpr': WHATEVER THE INPUT: true; the input reads as it did. -/
def fnWriteValueNestsLikeExprSpec : ChangeSpec := { name := "fnWriteValueNestsLikeExpr", fn := fun _ => fun
  | [d1, d2, d3, d4, d5] => { results := [.lit (.bool true)], args := [d1, d2, d3, d4, d5] }
  | _ => none }
def fnWriteValueNestsLikeExprRow : OpenClaim := { program := "qxb6603285a", sum := "3cdf47d90ca1102a2e52cef814f19661673c1cf111676c0aaa9c8f37e11aefb2", func := "example.com/keysetter/keysetter/zzlaws_root_b1.FnWriteValueNestsLikeExpr", spec := "fnWriteValueNestsLikeExpr", inPlace := ["internal/abi.NoEscape"], apart := false }
def FnWriteValueNestsLikeExprSaid : Prop := fnWriteValueNestsLikeExprRow.holds Try.pinned (OpenSpec.ofChange fnWriteValueNestsLikeExprSpec)

/-- ITS FALSE NEIGHBOUR: 'it returns false'. Refute it at one input. -/
def fnWriteValueNestsLikeExprWrong : ChangeSpec := { name := "fnWriteValueNestsLikeExpr", fn := fun _ => fun
  | [d1, d2, d3, d4, d5] => { results := [.lit (.bool false)], args := [d1, d2, d3, d4, d5] }
  | _ => none }
def FnWriteValueNestsLikeExprWrongFalsely : Prop := fnWriteValueNestsLikeExprRow.holds Try.pinned (OpenSpec.ofChange fnWriteValueNestsLikeExprWrong)

/-- 'zzlaws_root_b1.FnComparisonPlaceholders': WHATEVER THE INPUT: true; the input reads as it did. -/
def fnComparisonPlaceholdersSpec : ChangeSpec := { name := "fnComparisonPlaceholders", fn := fun _ => fun
  | [d1, d2, d3, d4, d5, d6] => { results := [.lit (.bool true)], args := [d1, d2, d3, d4, d5, d6] }
  | _ => none }
def fnComparisonPlaceholdersRow : OpenClaim := { program := "qxb6603285a", sum := "3cdf47d90ca1102a2e52cef814f19661673c1cf111676c0aaa9c8f37e11aefb2", func := "example.com/keysetter/keysetter/zzlaws_root_b1.FnComparisonPlaceholders", spec := "fnComparisonPlaceholders", inPlace := ["internal/abi.NoEscape"], apart := false }
def FnComparisonPlaceholdersSaid : Prop := fnComparisonPlaceholdersRow.holds Try.pinned (OpenSpec.ofChange fnComparisonPlaceholdersSpec)

/-- ITS FALSE NEIGHBOUR: 'it returns false'. Refute it at one input. -/
def fnComparisonPlaceholdersWrong : ChangeSpec := { name := "fnComparisonPlaceholders", fn := fun _ => fun
  | [d1, d2, d3, d4, d5, d6] => { results := [.lit (.bool false)], args := [d1, d2, d3, d4, d5, d6] }
  | _ => none }
def FnComparisonPlaceholdersWrongFalsely : Prop := fnComparisonPlaceholdersRow.holds Try.pinned (OpenSpec.ofChange fnComparisonPlaceholdersWrong)

end Rows
end Go.Proofs.Qxb6603285a
