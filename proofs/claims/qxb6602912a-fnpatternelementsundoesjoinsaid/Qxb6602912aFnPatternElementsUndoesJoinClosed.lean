/- The row's closed facts, one theorem each: the kernel gives its memory back behind each. -/
import Derived.Test.Qxb6602912aHead
import Derived.ProofKit
namespace Go.Proofs.Qxb6602912a.fnPatternElementsUndoesJoin
open Go.ChangeShapes Go.WideShapes Go.ChangeAt Go.RowKit
theorem band {a b : Bool} (ha : a = true) (hb : b = true) : (a && b) = true := by rw [ha, hb]; rfl
theorem k0 : (Rows.fnPatternElementsUndoesJoinRow.wf (OpenSpec.ofChange Rows.fnPatternElementsUndoesJoinSpec)) = true := by kernel_rfl
theorem k1 : (laidOutB Try.pinned.checked.prog) = true := by kernel_rfl
theorem k2 : (mapsRowed Try.pinned.checked.prog) = true := by kernel_rfl
theorem k3 : (Try.f4.params.all (Try.pinned.checked.prog.readableRec ·)) = true := by kernel_rfl
theorem k4 : (namedTie Try.pinned.checked.prog Rows.fnPatternElementsUndoesJoinRow.named Rows.fnPatternElementsUndoesJoinSpec.vars) = true := by kernel_rfl
theorem k5 : ((Rows.fnPatternElementsUndoesJoinRow.stops == [])) = true := by kernel_rfl
theorem k6 : ((Try.pinned.checked.prog.stops == [])) = true := by kernel_rfl
theorem k7 : ((Rows.fnPatternElementsUndoesJoinRow.knobs == [])) = true := by kernel_rfl
theorem k8 : ((Try.pinned.checked.prog.stopKnobs == [])) = true := by kernel_rfl
theorem k9 : ((Rows.fnPatternElementsUndoesJoinRow.inPlace == Try.pinned.checked.prog.inPlace 4)) = true := by kernel_rfl
theorem k10 : ((Rows.fnPatternElementsUndoesJoinRow.unfollowed == Try.pinned.checked.prog.unfollowed 4)) = true := by kernel_rfl
theorem k11 : ((Rows.fnPatternElementsUndoesJoinRow.recurses == Try.pinned.checked.prog.recurses 4)) = true := by kernel_rfl
theorem k12 : ((Rows.fnPatternElementsUndoesJoinRow.named == Try.pinned.checked.prog.varsNamed 4)) = true := by kernel_rfl
theorem k13 : ((Rows.fnPatternElementsUndoesJoinRow.maps == (Try.f4.params.toList ++ Rows.fnPatternElementsUndoesJoinSpec.plain.varTypes Try.pinned.checked.prog).any (Try.pinned.checked.prog.mapsRec ·))) = true := by kernel_rfl
theorem k14 : ((Rows.fnPatternElementsUndoesJoinRow.ifaces == (Try.f4.params.toList ++ Rows.fnPatternElementsUndoesJoinSpec.plain.varTypes Try.pinned.checked.prog).any (Try.pinned.checked.prog.ifacesRec ·))) = true := by kernel_rfl
theorem k15 : ((Rows.fnPatternElementsUndoesJoinRow.mapsOut == Try.pinned.checked.prog.mapsAmong Try.f4.resultTypes.toList)) = true := by kernel_rfl
theorem k16 : ((Rows.fnPatternElementsUndoesJoinRow.loops == (Try.f4.params.toList ++ Rows.fnPatternElementsUndoesJoinSpec.plain.varTypes Try.pinned.checked.prog).any (Try.pinned.checked.prog.loopsFrom ·))) = true := by kernel_rfl
theorem k17 : ((Rows.fnPatternElementsUndoesJoinRow.wideKeys == (Try.f4.params.toList ++ Rows.fnPatternElementsUndoesJoinSpec.plain.varTypes Try.pinned.checked.prog ++ Try.f4.resultTypes.toList).any (Try.pinned.checked.prog.wideKeysFrom ·))) = true := by kernel_rfl
theorem k18 : (Rows.fnPatternElementsUndoesJoinSpec.vars.all (Try.pinned.checked.prog.varReadable ·)) = true := by kernel_rfl
theorem k19 : (Try.f4.resultTypes.all (fun t => Try.pinned.checked.prog.readableRec t && decide (t < Try.pinned.checked.prog.types.size))) = true := by kernel_rfl
theorem k20 : ((Rows.fnPatternElementsUndoesJoinRow.ifacesOut == Try.f4.resultTypes.toList.any (Try.pinned.checked.prog.ifacesRec ·))) = true := by kernel_rfl
theorem k21 : ((Rows.fnPatternElementsUndoesJoinRow.loopsOut == Try.f4.resultTypes.toList.any (Try.pinned.checked.prog.loopsFrom ·))) = true := by kernel_rfl
theorem k22 : ((Rows.fnPatternElementsUndoesJoinRow.plainKeys == Try.pinned.checked.prog.plainKeys)) = true := by kernel_rfl
theorem k23 : (Rows.fnPatternElementsUndoesJoinRow.shortTexts.isNone) = true := by kernel_rfl
theorem k24 : (Try.pinned.checked.prog.stopsHeard) = true := by kernel_rfl
theorem k25 : (Try.pinned.checked.prog.mayEnter) = true := Head.mayEnter
theorem k26 : ((Rows.fnPatternElementsUndoesJoinRow.lifted == Try.pinned.checked.prog.liftsFinal)) = true := by rw [Head.liftsFinal]; kernel_rfl
theorem k27 : ((Try.pinned.checked.prog.make == some Rows.fnPatternElementsUndoesJoinRow.make)) = true := by rw [Head.make]; kernel_rfl
theorem k28 : ((Rows.fnPatternElementsUndoesJoinRow.kinds == (if Rows.fnPatternElementsUndoesJoinRow.domain.isEmpty then [] else Try.f4.params.toList.map fun t => match Try.pinned.checked.prog.underlying t with | some (.int k) => some k | _ => .none))) = true := by kernel_rfl
theorem k29 : ((Rows.fnPatternElementsUndoesJoinRow.pinned == Rows.fnPatternElementsUndoesJoinRow.pinnedBy)) = true := by kernel_rfl
theorem k30 : ((Rows.fnPatternElementsUndoesJoinRow.veiled == (Try.f4.params.toList ++ Rows.fnPatternElementsUndoesJoinSpec.plain.varTypes Try.pinned.checked.prog ++ Try.f4.resultTypes.toList).any (Try.pinned.checked.prog.veiledRec ·))) = true := by kernel_rfl
theorem k31 : (Rows.fnPatternElementsUndoesJoinRow.veiledFits Try.pinned.checked.prog Try.f4.params.toList (Try.f4.params.toList ++ Rows.fnPatternElementsUndoesJoinSpec.plain.varTypes Try.pinned.checked.prog ++ Try.f4.resultTypes.toList)) = true := by kernel_rfl
theorem closed : joinedFacts Try.pinned.checked.prog 4 Try.f4 Rows.fnPatternElementsUndoesJoinSpec Rows.fnPatternElementsUndoesJoinRow = true := (band (band (band (band (band (band (band (band (band (band (band (band (band (band (band (band (band (band (band (band (band (band (band (band (band (band (band (band (band (band (band k0 k1) k2) k3) k4) k5) k6) k7) k8) k9) k10) k11) k12) k13) k14) k15) k16) k17) k18) k19) k20) k21) k22) k23) k24) k25) k26) k27) k28) k29) k30) k31)
theorem named : Try.pinned.checked.prog.funcNamed Rows.fnPatternElementsUndoesJoinRow.func = some 4 := by kernel_rfl
#print axioms closed
end Go.Proofs.Qxb6602912a.fnPatternElementsUndoesJoin
