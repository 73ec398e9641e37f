/- THE ROW's CLOSED FACTS, one theorem each (so that the kernel gives its memory back behind each), and their conjunction. -/
import Derived.Test.Qxb6600301aModsHead
import Derived.WalkKit
import Derived.ProofKit
namespace Go.Proofs.Qxb6600301aMods.fnCountStepsByOneOnEachMatch

theorem k1 : (Rows.fnCountStepsByOneOnEachMatchRow.wf (OpenSpec.ofChange Rows.fnCountStepsByOneOnEachMatchSpec)) = true := by kernel_rfl
theorem k2 : (laidOutB Trym.pinned.checked.prog) = true := by kernel_rfl
theorem k3 : (mapsRowed Trym.pinned.checked.prog) = true := by kernel_rfl
theorem k4 : (Trym.f3.params.all (Trym.pinned.checked.prog.readableRec ·)) = true := by kernel_rfl
theorem k5 : (namedTie Trym.pinned.checked.prog Rows.fnCountStepsByOneOnEachMatchRow.named Rows.fnCountStepsByOneOnEachMatchSpec.vars) = true := by kernel_rfl
theorem k6 : ((Rows.fnCountStepsByOneOnEachMatchRow.stops == [])) = true := by kernel_rfl
theorem k7 : ((Trym.pinned.checked.prog.stops == [])) = true := by kernel_rfl
theorem k8 : ((Rows.fnCountStepsByOneOnEachMatchRow.knobs == [])) = true := by kernel_rfl
theorem k9 : ((Trym.pinned.checked.prog.stopKnobs == [])) = true := by kernel_rfl
theorem k10 : ((Rows.fnCountStepsByOneOnEachMatchRow.inPlace == Trym.pinned.checked.prog.inPlace 3)) = true := by kernel_rfl
theorem k11 : ((Rows.fnCountStepsByOneOnEachMatchRow.unfollowed == Trym.pinned.checked.prog.unfollowed 3)) = true := by kernel_rfl
theorem k12 : ((Rows.fnCountStepsByOneOnEachMatchRow.recurses == Trym.pinned.checked.prog.recurses 3)) = true := by kernel_rfl
theorem k13 : ((Rows.fnCountStepsByOneOnEachMatchRow.named == Trym.pinned.checked.prog.varsNamed 3)) = true := by kernel_rfl
theorem k14 : ((Rows.fnCountStepsByOneOnEachMatchRow.maps == (Trym.f3.params.toList ++ Rows.fnCountStepsByOneOnEachMatchSpec.plain.varTypes Trym.pinned.checked.prog).any (Trym.pinned.checked.prog.mapsRec ·))) = true := by kernel_rfl
theorem k15 : ((Rows.fnCountStepsByOneOnEachMatchRow.ifaces == (Trym.f3.params.toList ++ Rows.fnCountStepsByOneOnEachMatchSpec.plain.varTypes Trym.pinned.checked.prog).any (Trym.pinned.checked.prog.ifacesRec ·))) = true := by kernel_rfl
theorem k16 : ((Rows.fnCountStepsByOneOnEachMatchRow.mapsOut == Trym.pinned.checked.prog.mapsAmong Trym.f3.resultTypes.toList)) = true := by kernel_rfl
theorem k17 : ((Rows.fnCountStepsByOneOnEachMatchRow.loops == (Trym.f3.params.toList ++ Rows.fnCountStepsByOneOnEachMatchSpec.plain.varTypes Trym.pinned.checked.prog).any (Trym.pinned.checked.prog.loopsFrom ·))) = true := by kernel_rfl
theorem k18 : ((Rows.fnCountStepsByOneOnEachMatchRow.wideKeys == (Trym.f3.params.toList ++ Rows.fnCountStepsByOneOnEachMatchSpec.plain.varTypes Trym.pinned.checked.prog ++ Trym.f3.resultTypes.toList).any (Trym.pinned.checked.prog.wideKeysFrom ·))) = true := by kernel_rfl
theorem k19 : (Rows.fnCountStepsByOneOnEachMatchSpec.vars.all (Trym.pinned.checked.prog.varReadable ·)) = true := by kernel_rfl
theorem k20 : (Trym.f3.resultTypes.all (fun t => Trym.pinned.checked.prog.readableRec t && decide (t < Trym.pinned.checked.prog.types.size))) = true := by kernel_rfl
theorem k21 : ((Rows.fnCountStepsByOneOnEachMatchRow.ifacesOut == Trym.f3.resultTypes.toList.any (Trym.pinned.checked.prog.ifacesRec ·))) = true := by kernel_rfl
theorem k22 : ((Rows.fnCountStepsByOneOnEachMatchRow.loopsOut == Trym.f3.resultTypes.toList.any (Trym.pinned.checked.prog.loopsFrom ·))) = true := by kernel_rfl
theorem k23 : ((Rows.fnCountStepsByOneOnEachMatchRow.plainKeys == Trym.pinned.checked.prog.plainKeys)) = true := by kernel_rfl
theorem k24 : (Rows.fnCountStepsByOneOnEachMatchRow.shortTexts.isNone) = true := by kernel_rfl
theorem k25 : (Trym.pinned.checked.prog.stopsHeard) = true := by kernel_rfl
theorem k26 : (Trym.pinned.checked.prog.mayEnter) = true := head_mayEnter
theorem k27 : ((Rows.fnCountStepsByOneOnEachMatchRow.lifted == Trym.pinned.checked.prog.liftsFinal)) = true := by rw [head_liftsFinal]; kernel_rfl
theorem k28 : ((Trym.pinned.checked.prog.make == some Rows.fnCountStepsByOneOnEachMatchRow.make)) = true := by rw [head_make]; kernel_rfl
theorem k29 : ((Rows.fnCountStepsByOneOnEachMatchRow.kinds == (if Rows.fnCountStepsByOneOnEachMatchRow.domain.isEmpty then [] else Trym.f3.params.toList.map fun t => match Trym.pinned.checked.prog.underlying t with | some (.int k) => some k | _ => Option.none))) = true := by kernel_rfl
theorem k30 : ((Rows.fnCountStepsByOneOnEachMatchRow.pinned == Rows.fnCountStepsByOneOnEachMatchRow.pinnedBy)) = true := by kernel_rfl
theorem k31 : ((Rows.fnCountStepsByOneOnEachMatchRow.veiled == (Trym.f3.params.toList ++ Rows.fnCountStepsByOneOnEachMatchSpec.plain.varTypes Trym.pinned.checked.prog ++ Trym.f3.resultTypes.toList).any (Trym.pinned.checked.prog.veiledRec ·))) = true := by kernel_rfl
theorem k32 : (Rows.fnCountStepsByOneOnEachMatchRow.veiledFits Trym.pinned.checked.prog Trym.f3.params.toList (Trym.f3.params.toList ++ Rows.fnCountStepsByOneOnEachMatchSpec.plain.varTypes Trym.pinned.checked.prog ++ Trym.f3.resultTypes.toList)) = true := by kernel_rfl
theorem named : Trym.pinned.checked.prog.funcNamed Rows.fnCountStepsByOneOnEachMatchRow.func = some 3 := by kernel_rfl
theorem facts : joinedFacts Trym.pinned.checked.prog 3 Trym.f3 Rows.fnCountStepsByOneOnEachMatchSpec Rows.fnCountStepsByOneOnEachMatchRow = true := by
  unfold joinedFacts
  rw [k1, k2, k3, k4, k5, k6, k7, k8, k9, k10, k11, k12, k13, k14, k15, k16, k17, k18, k19, k20, k21, k22, k23, k24, k25, k26, k27, k28]
  simp only [Bool.true_and, Bool.and_eq_true]
  exact ⟨⟨⟨k29, k30⟩, k31⟩, k32⟩
end Go.Proofs.Qxb6600301aMods.fnCountStepsByOneOnEachMatch
