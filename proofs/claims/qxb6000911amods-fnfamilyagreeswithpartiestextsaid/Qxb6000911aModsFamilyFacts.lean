/- THE ROW's CLOSED FACTS, one theorem each (so that the kernel gives its memory back behind each), and their conjunction. -/
import Derived.Test.Qxb6000911aModsHead
import Derived.WalkKit
import Derived.ProofKit
namespace Go.Proofs.Qxb6000911aMods.fnFamilyAgreesWithPartiesText

theorem k1 : (Rows.fnFamilyAgreesWithPartiesTextRow.wf (OpenSpec.ofChange Rows.fnFamilyAgreesWithPartiesTextSpec)) = true := by kernel_rfl
theorem k2 : (laidOutB Trym.pinned.checked.prog) = true := by kernel_rfl
theorem k3 : (mapsRowed Trym.pinned.checked.prog) = true := by kernel_rfl
theorem k4 : (Trym.f10.params.all (Trym.pinned.checked.prog.readableRec ·)) = true := by kernel_rfl
theorem k5 : (namedTie Trym.pinned.checked.prog Rows.fnFamilyAgreesWithPartiesTextRow.named Rows.fnFamilyAgreesWithPartiesTextSpec.vars) = true := by kernel_rfl
theorem k6 : ((Rows.fnFamilyAgreesWithPartiesTextRow.stops == [])) = true := by kernel_rfl
theorem k7 : ((Trym.pinned.checked.prog.stops == [])) = true := by kernel_rfl
theorem k8 : ((Rows.fnFamilyAgreesWithPartiesTextRow.knobs == [])) = true := by kernel_rfl
theorem k9 : ((Trym.pinned.checked.prog.stopKnobs == [])) = true := by kernel_rfl
theorem k10 : ((Rows.fnFamilyAgreesWithPartiesTextRow.inPlace == Trym.pinned.checked.prog.inPlace 10)) = true := by kernel_rfl
theorem k11 : ((Rows.fnFamilyAgreesWithPartiesTextRow.unfollowed == Trym.pinned.checked.prog.unfollowed 10)) = true := by kernel_rfl
theorem k12 : ((Rows.fnFamilyAgreesWithPartiesTextRow.recurses == Trym.pinned.checked.prog.recurses 10)) = true := by kernel_rfl
theorem k13 : ((Rows.fnFamilyAgreesWithPartiesTextRow.named == Trym.pinned.checked.prog.varsNamed 10)) = true := by kernel_rfl
theorem k14 : ((Rows.fnFamilyAgreesWithPartiesTextRow.maps == (Trym.f10.params.toList ++ Rows.fnFamilyAgreesWithPartiesTextSpec.plain.varTypes Trym.pinned.checked.prog).any (Trym.pinned.checked.prog.mapsRec ·))) = true := by kernel_rfl
theorem k15 : ((Rows.fnFamilyAgreesWithPartiesTextRow.ifaces == (Trym.f10.params.toList ++ Rows.fnFamilyAgreesWithPartiesTextSpec.plain.varTypes Trym.pinned.checked.prog).any (Trym.pinned.checked.prog.ifacesRec ·))) = true := by kernel_rfl
theorem k16 : ((Rows.fnFamilyAgreesWithPartiesTextRow.mapsOut == Trym.pinned.checked.prog.mapsAmong Trym.f10.resultTypes.toList)) = true := by kernel_rfl
theorem k17 : ((Rows.fnFamilyAgreesWithPartiesTextRow.loops == (Trym.f10.params.toList ++ Rows.fnFamilyAgreesWithPartiesTextSpec.plain.varTypes Trym.pinned.checked.prog).any (Trym.pinned.checked.prog.loopsFrom ·))) = true := by kernel_rfl
theorem k18 : ((Rows.fnFamilyAgreesWithPartiesTextRow.wideKeys == (Trym.f10.params.toList ++ Rows.fnFamilyAgreesWithPartiesTextSpec.plain.varTypes Trym.pinned.checked.prog ++ Trym.f10.resultTypes.toList).any (Trym.pinned.checked.prog.wideKeysFrom ·))) = true := by kernel_rfl
theorem k19 : (Rows.fnFamilyAgreesWithPartiesTextSpec.vars.all (Trym.pinned.checked.prog.varReadable ·)) = true := by kernel_rfl
theorem k20 : (Trym.f10.resultTypes.all (fun t => Trym.pinned.checked.prog.readableRec t && decide (t < Trym.pinned.checked.prog.types.size))) = true := by kernel_rfl
theorem k21 : ((Rows.fnFamilyAgreesWithPartiesTextRow.ifacesOut == Trym.f10.resultTypes.toList.any (Trym.pinned.checked.prog.ifacesRec ·))) = true := by kernel_rfl
theorem k22 : ((Rows.fnFamilyAgreesWithPartiesTextRow.loopsOut == Trym.f10.resultTypes.toList.any (Trym.pinned.checked.prog.loopsFrom ·))) = true := by kernel_rfl
theorem k23 : ((Rows.fnFamilyAgreesWithPartiesTextRow.plainKeys == Trym.pinned.checked.prog.plainKeys)) = true := by kernel_rfl
theorem k24 : (Rows.fnFamilyAgreesWithPartiesTextRow.shortTexts.isNone) = true := by kernel_rfl
theorem k25 : (Trym.pinned.checked.prog.stopsHeard) = true := by kernel_rfl
theorem k26 : (Trym.pinned.checked.prog.mayEnter) = true := head_mayEnter
theorem k27 : ((Rows.fnFamilyAgreesWithPartiesTextRow.lifted == Trym.pinned.checked.prog.liftsFinal)) = true := by rw [head_liftsFinal]; kernel_rfl
theorem k28 : ((Trym.pinned.checked.prog.make == some Rows.fnFamilyAgreesWithPartiesTextRow.make)) = true := by rw [head_make]; kernel_rfl
theorem k29 : ((Rows.fnFamilyAgreesWithPartiesTextRow.kinds == (if Rows.fnFamilyAgreesWithPartiesTextRow.domain.isEmpty then [] else Trym.f10.params.toList.map fun t => match Trym.pinned.checked.prog.underlying t with | some (.int k) => some k | _ => Option.none))) = true := by kernel_rfl
theorem k30 : ((Rows.fnFamilyAgreesWithPartiesTextRow.pinned == Rows.fnFamilyAgreesWithPartiesTextRow.pinnedBy)) = true := by kernel_rfl
theorem k31 : ((Rows.fnFamilyAgreesWithPartiesTextRow.veiled == (Trym.f10.params.toList ++ Rows.fnFamilyAgreesWithPartiesTextSpec.plain.varTypes Trym.pinned.checked.prog ++ Trym.f10.resultTypes.toList).any (Trym.pinned.checked.prog.veiledRec ·))) = true := by kernel_rfl
theorem k32 : (Rows.fnFamilyAgreesWithPartiesTextRow.veiledFits Trym.pinned.checked.prog Trym.f10.params.toList (Trym.f10.params.toList ++ Rows.fnFamilyAgreesWithPartiesTextSpec.plain.varTypes Trym.pinned.checked.prog ++ Trym.f10.resultTypes.toList)) = true := by kernel_rfl
theorem named : Trym.pinned.checked.prog.funcNamed Rows.fnFamilyAgreesWithPartiesTextRow.func = some 10 := by kernel_rfl
theorem facts : joinedFacts Trym.pinned.checked.prog 10 Trym.f10 Rows.fnFamilyAgreesWithPartiesTextSpec Rows.fnFamilyAgreesWithPartiesTextRow = true := by
  unfold joinedFacts
  rw [k1, k2, k3, k4, k5, k6, k7, k8, k9, k10, k11, k12, k13, k14, k15, k16, k17, k18, k19, k20, k21, k22, k23, k24, k25, k26, k27, k28]
  simp only [Bool.true_and, Bool.and_eq_true]
  exact ⟨⟨⟨k29, k30⟩, k31⟩, k32⟩
end Go.Proofs.Qxb6000911aMods.fnFamilyAgreesWithPartiesText
