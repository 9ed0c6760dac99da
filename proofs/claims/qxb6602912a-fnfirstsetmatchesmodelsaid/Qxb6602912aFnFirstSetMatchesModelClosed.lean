/- The row's closed facts, one theorem each: the kernel gives its memory back behind each. -/
import Derived.Test.Qxb6602912aHead
import Derived.ProofKit
namespace Go.Proofs.Qxb6602912a.fnFirstSetMatchesModel
open Go.ChangeShapes Go.WideShapes Go.ChangeAt Go.RowKit
theorem band {a b : Bool} (ha : a = true) (hb : b = true) : (a && b) = true := by rw [ha, hb]; rfl
theorem k0 : (Rows.fnFirstSetMatchesModelRow.wf (OpenSpec.ofChange Rows.fnFirstSetMatchesModelSpec)) = true := by kernel_rfl
theorem k1 : (laidOutB Try.pinned.checked.prog) = true := by kernel_rfl
theorem k2 : (mapsRowed Try.pinned.checked.prog) = true := by kernel_rfl
theorem k3 : (Try.f6.params.all (Try.pinned.checked.prog.readableRec ·)) = true := by kernel_rfl
theorem k4 : (namedTie Try.pinned.checked.prog Rows.fnFirstSetMatchesModelRow.named Rows.fnFirstSetMatchesModelSpec.vars) = true := by kernel_rfl
theorem k5 : ((Rows.fnFirstSetMatchesModelRow.stops == [])) = true := by kernel_rfl
theorem k6 : ((Try.pinned.checked.prog.stops == [])) = true := by kernel_rfl
theorem k7 : ((Rows.fnFirstSetMatchesModelRow.knobs == [])) = true := by kernel_rfl
theorem k8 : ((Try.pinned.checked.prog.stopKnobs == [])) = true := by kernel_rfl
theorem k9 : ((Rows.fnFirstSetMatchesModelRow.inPlace == Try.pinned.checked.prog.inPlace 6)) = true := by kernel_rfl
theorem k10 : ((Rows.fnFirstSetMatchesModelRow.unfollowed == Try.pinned.checked.prog.unfollowed 6)) = true := by kernel_rfl
theorem k11 : ((Rows.fnFirstSetMatchesModelRow.recurses == Try.pinned.checked.prog.recurses 6)) = true := by kernel_rfl
theorem k12 : ((Rows.fnFirstSetMatchesModelRow.named == Try.pinned.checked.prog.varsNamed 6)) = true := by kernel_rfl
theorem k13 : ((Rows.fnFirstSetMatchesModelRow.maps == (Try.f6.params.toList ++ Rows.fnFirstSetMatchesModelSpec.plain.varTypes Try.pinned.checked.prog).any (Try.pinned.checked.prog.mapsRec ·))) = true := by kernel_rfl
theorem k14 : ((Rows.fnFirstSetMatchesModelRow.ifaces == (Try.f6.params.toList ++ Rows.fnFirstSetMatchesModelSpec.plain.varTypes Try.pinned.checked.prog).any (Try.pinned.checked.prog.ifacesRec ·))) = true := by kernel_rfl
theorem k15 : ((Rows.fnFirstSetMatchesModelRow.mapsOut == Try.pinned.checked.prog.mapsAmong Try.f6.resultTypes.toList)) = true := by kernel_rfl
theorem k16 : ((Rows.fnFirstSetMatchesModelRow.loops == (Try.f6.params.toList ++ Rows.fnFirstSetMatchesModelSpec.plain.varTypes Try.pinned.checked.prog).any (Try.pinned.checked.prog.loopsFrom ·))) = true := by kernel_rfl
theorem k17 : ((Rows.fnFirstSetMatchesModelRow.wideKeys == (Try.f6.params.toList ++ Rows.fnFirstSetMatchesModelSpec.plain.varTypes Try.pinned.checked.prog ++ Try.f6.resultTypes.toList).any (Try.pinned.checked.prog.wideKeysFrom ·))) = true := by kernel_rfl
theorem k18 : (Rows.fnFirstSetMatchesModelSpec.vars.all (Try.pinned.checked.prog.varReadable ·)) = true := by kernel_rfl
theorem k19 : (Try.f6.resultTypes.all (fun t => Try.pinned.checked.prog.readableRec t && decide (t < Try.pinned.checked.prog.types.size))) = true := by kernel_rfl
theorem k20 : ((Rows.fnFirstSetMatchesModelRow.ifacesOut == Try.f6.resultTypes.toList.any (Try.pinned.checked.prog.ifacesRec ·))) = true := by kernel_rfl
theorem k21 : ((Rows.fnFirstSetMatchesModelRow.loopsOut == Try.f6.resultTypes.toList.any (Try.pinned.checked.prog.loopsFrom ·))) = true := by kernel_rfl
theorem k22 : ((Rows.fnFirstSetMatchesModelRow.plainKeys == Try.pinned.checked.prog.plainKeys)) = true := by kernel_rfl
theorem k23 : (Rows.fnFirstSetMatchesModelRow.shortTexts.isNone) = true := by kernel_rfl
theorem k24 : (Try.pinned.checked.prog.stopsHeard) = true := by kernel_rfl
theorem k25 : (Try.pinned.checked.prog.mayEnter) = true := Head.mayEnter
theorem k26 : ((Rows.fnFirstSetMatchesModelRow.lifted == Try.pinned.checked.prog.liftsFinal)) = true := by rw [Head.liftsFinal]; kernel_rfl
theorem k27 : ((Try.pinned.checked.prog.make == some Rows.fnFirstSetMatchesModelRow.make)) = true := by rw [Head.make]; kernel_rfl
theorem k28 : ((Rows.fnFirstSetMatchesModelRow.kinds == (if Rows.fnFirstSetMatchesModelRow.domain.isEmpty then [] else Try.f6.params.toList.map fun t => match Try.pinned.checked.prog.underlying t with | some (.int k) => some k | _ => .none))) = true := by kernel_rfl
theorem k29 : ((Rows.fnFirstSetMatchesModelRow.pinned == Rows.fnFirstSetMatchesModelRow.pinnedBy)) = true := by kernel_rfl
theorem k30 : ((Rows.fnFirstSetMatchesModelRow.veiled == (Try.f6.params.toList ++ Rows.fnFirstSetMatchesModelSpec.plain.varTypes Try.pinned.checked.prog ++ Try.f6.resultTypes.toList).any (Try.pinned.checked.prog.veiledRec ·))) = true := by kernel_rfl
theorem k31 : (Rows.fnFirstSetMatchesModelRow.veiledFits Try.pinned.checked.prog Try.f6.params.toList (Try.f6.params.toList ++ Rows.fnFirstSetMatchesModelSpec.plain.varTypes Try.pinned.checked.prog ++ Try.f6.resultTypes.toList)) = true := by kernel_rfl
theorem closed : joinedFacts Try.pinned.checked.prog 6 Try.f6 Rows.fnFirstSetMatchesModelSpec Rows.fnFirstSetMatchesModelRow = true := (band (band (band (band (band (band (band (band (band (band (band (band (band (band (band (band (band (band (band (band (band (band (band (band (band (band (band (band (band (band (band k0 k1) k2) k3) k4) k5) k6) k7) k8) k9) k10) k11) k12) k13) k14) k15) k16) k17) k18) k19) k20) k21) k22) k23) k24) k25) k26) k27) k28) k29) k30) k31)
theorem named : Try.pinned.checked.prog.funcNamed Rows.fnFirstSetMatchesModelRow.func = some 6 := by kernel_rfl
#print axioms closed
end Go.Proofs.Qxb6602912a.fnFirstSetMatchesModel
