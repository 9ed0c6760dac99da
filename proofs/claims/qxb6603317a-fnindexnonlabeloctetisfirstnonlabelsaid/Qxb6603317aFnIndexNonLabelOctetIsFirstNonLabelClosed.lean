/- The row's closed facts, one theorem each: the kernel gives its memory back behind each. -/
import Derived.Test.Qxb6603317aHead
import Derived.ProofKit
namespace Go.Proofs.Qxb6603317a.fnIndexNonLabelOctetIsFirstNonLabel
open Go.ChangeShapes Go.WideShapes Go.ChangeAt Go.RowKit
theorem band {a b : Bool} (ha : a = true) (hb : b = true) : (a && b) = true := by rw [ha, hb]; rfl
theorem k0 : (Rows.fnIndexNonLabelOctetIsFirstNonLabelRow.wf (OpenSpec.ofChange Rows.fnIndexNonLabelOctetIsFirstNonLabelSpec)) = true := by kernel_rfl
theorem k1 : (laidOutB Try.pinned.checked.prog) = true := by kernel_rfl
theorem k2 : (mapsRowed Try.pinned.checked.prog) = true := by kernel_rfl
theorem k3 : (Try.f3.params.all (Try.pinned.checked.prog.readableRec ·)) = true := by kernel_rfl
theorem k4 : (namedTie Try.pinned.checked.prog Rows.fnIndexNonLabelOctetIsFirstNonLabelRow.named Rows.fnIndexNonLabelOctetIsFirstNonLabelSpec.vars) = true := by kernel_rfl
theorem k5 : ((Rows.fnIndexNonLabelOctetIsFirstNonLabelRow.stops == [])) = true := by kernel_rfl
theorem k6 : ((Try.pinned.checked.prog.stops == [])) = true := by kernel_rfl
theorem k7 : ((Rows.fnIndexNonLabelOctetIsFirstNonLabelRow.knobs == [])) = true := by kernel_rfl
theorem k8 : ((Try.pinned.checked.prog.stopKnobs == [])) = true := by kernel_rfl
theorem k9 : ((Rows.fnIndexNonLabelOctetIsFirstNonLabelRow.inPlace == Try.pinned.checked.prog.inPlace 3)) = true := by kernel_rfl
theorem k10 : ((Rows.fnIndexNonLabelOctetIsFirstNonLabelRow.unfollowed == Try.pinned.checked.prog.unfollowed 3)) = true := by kernel_rfl
theorem k11 : ((Rows.fnIndexNonLabelOctetIsFirstNonLabelRow.recurses == Try.pinned.checked.prog.recurses 3)) = true := by kernel_rfl
theorem k12 : ((Rows.fnIndexNonLabelOctetIsFirstNonLabelRow.named == Try.pinned.checked.prog.varsNamed 3)) = true := by kernel_rfl
theorem k13 : ((Rows.fnIndexNonLabelOctetIsFirstNonLabelRow.maps == (Try.f3.params.toList ++ Rows.fnIndexNonLabelOctetIsFirstNonLabelSpec.plain.varTypes Try.pinned.checked.prog).any (Try.pinned.checked.prog.mapsRec ·))) = true := by kernel_rfl
theorem k14 : ((Rows.fnIndexNonLabelOctetIsFirstNonLabelRow.ifaces == (Try.f3.params.toList ++ Rows.fnIndexNonLabelOctetIsFirstNonLabelSpec.plain.varTypes Try.pinned.checked.prog).any (Try.pinned.checked.prog.ifacesRec ·))) = true := by kernel_rfl
theorem k15 : ((Rows.fnIndexNonLabelOctetIsFirstNonLabelRow.mapsOut == Try.pinned.checked.prog.mapsAmong Try.f3.resultTypes.toList)) = true := by kernel_rfl
theorem k16 : ((Rows.fnIndexNonLabelOctetIsFirstNonLabelRow.loops == (Try.f3.params.toList ++ Rows.fnIndexNonLabelOctetIsFirstNonLabelSpec.plain.varTypes Try.pinned.checked.prog).any (Try.pinned.checked.prog.loopsFrom ·))) = true := by kernel_rfl
theorem k17 : ((Rows.fnIndexNonLabelOctetIsFirstNonLabelRow.wideKeys == (Try.f3.params.toList ++ Rows.fnIndexNonLabelOctetIsFirstNonLabelSpec.plain.varTypes Try.pinned.checked.prog ++ Try.f3.resultTypes.toList).any (Try.pinned.checked.prog.wideKeysFrom ·))) = true := by kernel_rfl
theorem k18 : (Rows.fnIndexNonLabelOctetIsFirstNonLabelSpec.vars.all (Try.pinned.checked.prog.varReadable ·)) = true := by kernel_rfl
theorem k19 : (Try.f3.resultTypes.all (fun t => Try.pinned.checked.prog.readableRec t && decide (t < Try.pinned.checked.prog.types.size))) = true := by kernel_rfl
theorem k20 : ((Rows.fnIndexNonLabelOctetIsFirstNonLabelRow.ifacesOut == Try.f3.resultTypes.toList.any (Try.pinned.checked.prog.ifacesRec ·))) = true := by kernel_rfl
theorem k21 : ((Rows.fnIndexNonLabelOctetIsFirstNonLabelRow.loopsOut == Try.f3.resultTypes.toList.any (Try.pinned.checked.prog.loopsFrom ·))) = true := by kernel_rfl
theorem k22 : ((Rows.fnIndexNonLabelOctetIsFirstNonLabelRow.plainKeys == Try.pinned.checked.prog.plainKeys)) = true := by kernel_rfl
theorem k23 : (Rows.fnIndexNonLabelOctetIsFirstNonLabelRow.shortTexts.isNone) = true := by kernel_rfl
theorem k24 : (Try.pinned.checked.prog.stopsHeard) = true := by kernel_rfl
theorem k25 : (Try.pinned.checked.prog.mayEnter) = true := Head.mayEnter
theorem k26 : ((Rows.fnIndexNonLabelOctetIsFirstNonLabelRow.lifted == Try.pinned.checked.prog.liftsFinal)) = true := by rw [Head.liftsFinal]; kernel_rfl
theorem k27 : ((Try.pinned.checked.prog.make == some Rows.fnIndexNonLabelOctetIsFirstNonLabelRow.make)) = true := by rw [Head.make]; kernel_rfl
theorem k28 : ((Rows.fnIndexNonLabelOctetIsFirstNonLabelRow.kinds == (if Rows.fnIndexNonLabelOctetIsFirstNonLabelRow.domain.isEmpty then [] else Try.f3.params.toList.map fun t => match Try.pinned.checked.prog.underlying t with | some (.int k) => some k | _ => .none))) = true := by kernel_rfl
theorem k29 : ((Rows.fnIndexNonLabelOctetIsFirstNonLabelRow.pinned == Rows.fnIndexNonLabelOctetIsFirstNonLabelRow.pinnedBy)) = true := by kernel_rfl
theorem k30 : ((Rows.fnIndexNonLabelOctetIsFirstNonLabelRow.veiled == (Try.f3.params.toList ++ Rows.fnIndexNonLabelOctetIsFirstNonLabelSpec.plain.varTypes Try.pinned.checked.prog ++ Try.f3.resultTypes.toList).any (Try.pinned.checked.prog.veiledRec ·))) = true := by kernel_rfl
theorem k31 : (Rows.fnIndexNonLabelOctetIsFirstNonLabelRow.veiledFits Try.pinned.checked.prog Try.f3.params.toList (Try.f3.params.toList ++ Rows.fnIndexNonLabelOctetIsFirstNonLabelSpec.plain.varTypes Try.pinned.checked.prog ++ Try.f3.resultTypes.toList)) = true := by kernel_rfl
theorem closed : joinedFacts Try.pinned.checked.prog 3 Try.f3 Rows.fnIndexNonLabelOctetIsFirstNonLabelSpec Rows.fnIndexNonLabelOctetIsFirstNonLabelRow = true := (band (band (band (band (band (band (band (band (band (band (band (band (band (band (band (band (band (band (band (band (band (band (band (band (band (band (band (band (band (band (band k0 k1) k2) k3) k4) k5) k6) k7) k8) k9) k10) k11) k12) k13) k14) k15) k16) k17) k18) k19) k20) k21) k22) k23) k24) k25) k26) k27) k28) k29) k30) k31)
theorem named : Try.pinned.checked.prog.funcNamed Rows.fnIndexNonLabelOctetIsFirstNonLabelRow.func = some 3 := by kernel_rfl
#print axioms closed
end Go.Proofs.Qxb6603317a.fnIndexNonLabelOctetIsFirstNonLabel
