/- THE ROW's CLOSED FACTS, one theorem each (so that the kernel gives its memory back behind each), and their conjunction. -/
import Derived.Test.Qxb6600475aModsHead
import Derived.WalkKit
import Derived.ProofKit
namespace Go.Proofs.Qxb6600475aMods.fnSecretValueMatchesAssociationModel

theorem k1 : (Rows.fnSecretValueMatchesAssociationModelRow.wf (OpenSpec.ofChange Rows.fnSecretValueMatchesAssociationModelSpec)) = true := by kernel_rfl
theorem k2 : (laidOutB Trym.pinned.checked.prog) = true := by kernel_rfl
theorem k3 : (mapsRowed Trym.pinned.checked.prog) = true := by kernel_rfl
theorem k4 : (Trym.f6.params.all (Trym.pinned.checked.prog.readableRec ·)) = true := by kernel_rfl
theorem k5 : (namedTie Trym.pinned.checked.prog Rows.fnSecretValueMatchesAssociationModelRow.named Rows.fnSecretValueMatchesAssociationModelSpec.vars) = true := by kernel_rfl
theorem k6 : ((Rows.fnSecretValueMatchesAssociationModelRow.stops == [])) = true := by kernel_rfl
theorem k7 : ((Trym.pinned.checked.prog.stops == [])) = true := by kernel_rfl
theorem k8 : ((Rows.fnSecretValueMatchesAssociationModelRow.knobs == [])) = true := by kernel_rfl
theorem k9 : ((Trym.pinned.checked.prog.stopKnobs == [])) = true := by kernel_rfl
theorem k10 : ((Rows.fnSecretValueMatchesAssociationModelRow.inPlace == Trym.pinned.checked.prog.inPlace 6)) = true := by kernel_rfl
theorem k11 : ((Rows.fnSecretValueMatchesAssociationModelRow.unfollowed == Trym.pinned.checked.prog.unfollowed 6)) = true := by kernel_rfl
theorem k12 : ((Rows.fnSecretValueMatchesAssociationModelRow.recurses == Trym.pinned.checked.prog.recurses 6)) = true := by kernel_rfl
theorem k13 : ((Rows.fnSecretValueMatchesAssociationModelRow.named == Trym.pinned.checked.prog.varsNamed 6)) = true := by kernel_rfl
theorem k14 : ((Rows.fnSecretValueMatchesAssociationModelRow.maps == (Trym.f6.params.toList ++ Rows.fnSecretValueMatchesAssociationModelSpec.plain.varTypes Trym.pinned.checked.prog).any (Trym.pinned.checked.prog.mapsRec ·))) = true := by kernel_rfl
theorem k15 : ((Rows.fnSecretValueMatchesAssociationModelRow.ifaces == (Trym.f6.params.toList ++ Rows.fnSecretValueMatchesAssociationModelSpec.plain.varTypes Trym.pinned.checked.prog).any (Trym.pinned.checked.prog.ifacesRec ·))) = true := by kernel_rfl
theorem k16 : ((Rows.fnSecretValueMatchesAssociationModelRow.mapsOut == Trym.pinned.checked.prog.mapsAmong Trym.f6.resultTypes.toList)) = true := by kernel_rfl
theorem k17 : ((Rows.fnSecretValueMatchesAssociationModelRow.loops == (Trym.f6.params.toList ++ Rows.fnSecretValueMatchesAssociationModelSpec.plain.varTypes Trym.pinned.checked.prog).any (Trym.pinned.checked.prog.loopsFrom ·))) = true := by kernel_rfl
theorem k18 : ((Rows.fnSecretValueMatchesAssociationModelRow.wideKeys == (Trym.f6.params.toList ++ Rows.fnSecretValueMatchesAssociationModelSpec.plain.varTypes Trym.pinned.checked.prog ++ Trym.f6.resultTypes.toList).any (Trym.pinned.checked.prog.wideKeysFrom ·))) = true := by kernel_rfl
theorem k19 : (Rows.fnSecretValueMatchesAssociationModelSpec.vars.all (Trym.pinned.checked.prog.varReadable ·)) = true := by kernel_rfl
theorem k20 : (Trym.f6.resultTypes.all (fun t => Trym.pinned.checked.prog.readableRec t && decide (t < Trym.pinned.checked.prog.types.size))) = true := by kernel_rfl
theorem k21 : ((Rows.fnSecretValueMatchesAssociationModelRow.ifacesOut == Trym.f6.resultTypes.toList.any (Trym.pinned.checked.prog.ifacesRec ·))) = true := by kernel_rfl
theorem k22 : ((Rows.fnSecretValueMatchesAssociationModelRow.loopsOut == Trym.f6.resultTypes.toList.any (Trym.pinned.checked.prog.loopsFrom ·))) = true := by kernel_rfl
theorem k23 : ((Rows.fnSecretValueMatchesAssociationModelRow.plainKeys == Trym.pinned.checked.prog.plainKeys)) = true := by kernel_rfl
theorem k24 : (Rows.fnSecretValueMatchesAssociationModelRow.shortTexts.isNone) = true := by kernel_rfl
theorem k25 : (Trym.pinned.checked.prog.stopsHeard) = true := by kernel_rfl
theorem k26 : (Trym.pinned.checked.prog.mayEnter) = true := head_mayEnter
theorem k27 : ((Rows.fnSecretValueMatchesAssociationModelRow.lifted == Trym.pinned.checked.prog.liftsFinal)) = true := by rw [head_liftsFinal]; kernel_rfl
theorem k28 : ((Trym.pinned.checked.prog.make == some Rows.fnSecretValueMatchesAssociationModelRow.make)) = true := by rw [head_make]; kernel_rfl
theorem k29 : ((Rows.fnSecretValueMatchesAssociationModelRow.kinds == (if Rows.fnSecretValueMatchesAssociationModelRow.domain.isEmpty then [] else Trym.f6.params.toList.map fun t => match Trym.pinned.checked.prog.underlying t with | some (.int k) => some k | _ => Option.none))) = true := by kernel_rfl
theorem k30 : ((Rows.fnSecretValueMatchesAssociationModelRow.pinned == Rows.fnSecretValueMatchesAssociationModelRow.pinnedBy)) = true := by kernel_rfl
theorem k31 : ((Rows.fnSecretValueMatchesAssociationModelRow.veiled == (Trym.f6.params.toList ++ Rows.fnSecretValueMatchesAssociationModelSpec.plain.varTypes Trym.pinned.checked.prog ++ Trym.f6.resultTypes.toList).any (Trym.pinned.checked.prog.veiledRec ·))) = true := by kernel_rfl
theorem k32 : (Rows.fnSecretValueMatchesAssociationModelRow.veiledFits Trym.pinned.checked.prog Trym.f6.params.toList (Trym.f6.params.toList ++ Rows.fnSecretValueMatchesAssociationModelSpec.plain.varTypes Trym.pinned.checked.prog ++ Trym.f6.resultTypes.toList)) = true := by kernel_rfl
theorem named : Trym.pinned.checked.prog.funcNamed Rows.fnSecretValueMatchesAssociationModelRow.func = some 6 := by kernel_rfl
theorem facts : joinedFacts Trym.pinned.checked.prog 6 Trym.f6 Rows.fnSecretValueMatchesAssociationModelSpec Rows.fnSecretValueMatchesAssociationModelRow = true := by
  unfold joinedFacts
  rw [k1, k2, k3, k4, k5, k6, k7, k8, k9, k10, k11, k12, k13, k14, k15, k16, k17, k18, k19, k20, k21, k22, k23, k24, k25, k26, k27, k28]
  simp only [Bool.true_and, Bool.and_eq_true]
  exact ⟨⟨⟨k29, k30⟩, k31⟩, k32⟩
end Go.Proofs.Qxb6600475aMods.fnSecretValueMatchesAssociationModel
