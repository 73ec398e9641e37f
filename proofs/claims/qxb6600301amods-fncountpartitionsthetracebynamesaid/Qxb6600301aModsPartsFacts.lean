/- THE ROW's CLOSED FACTS, one theorem each (so that the kernel gives its memory back behind each), and their conjunction. -/
import Derived.Test.Qxb6600301aModsHead
import Derived.WalkKit
import Derived.ProofKit
namespace Go.Proofs.Qxb6600301aMods.fnCountPartitionsTheTraceByName

theorem k1 : (Rows.fnCountPartitionsTheTraceByNameRow.wf (OpenSpec.ofChange Rows.fnCountPartitionsTheTraceByNameSpec)) = true := by kernel_rfl
theorem k2 : (laidOutB Trym.pinned.checked.prog) = true := by kernel_rfl
theorem k3 : (mapsRowed Trym.pinned.checked.prog) = true := by kernel_rfl
theorem k4 : (Trym.f4.params.all (Trym.pinned.checked.prog.readableRec ·)) = true := by kernel_rfl
theorem k5 : (namedTie Trym.pinned.checked.prog Rows.fnCountPartitionsTheTraceByNameRow.named Rows.fnCountPartitionsTheTraceByNameSpec.vars) = true := by kernel_rfl
theorem k6 : ((Rows.fnCountPartitionsTheTraceByNameRow.stops == [])) = true := by kernel_rfl
theorem k7 : ((Trym.pinned.checked.prog.stops == [])) = true := by kernel_rfl
theorem k8 : ((Rows.fnCountPartitionsTheTraceByNameRow.knobs == [])) = true := by kernel_rfl
theorem k9 : ((Trym.pinned.checked.prog.stopKnobs == [])) = true := by kernel_rfl
theorem k10 : ((Rows.fnCountPartitionsTheTraceByNameRow.inPlace == Trym.pinned.checked.prog.inPlace 4)) = true := by kernel_rfl
theorem k11 : ((Rows.fnCountPartitionsTheTraceByNameRow.unfollowed == Trym.pinned.checked.prog.unfollowed 4)) = true := by kernel_rfl
theorem k12 : ((Rows.fnCountPartitionsTheTraceByNameRow.recurses == Trym.pinned.checked.prog.recurses 4)) = true := by kernel_rfl
theorem k13 : ((Rows.fnCountPartitionsTheTraceByNameRow.named == Trym.pinned.checked.prog.varsNamed 4)) = true := by kernel_rfl
theorem k14 : ((Rows.fnCountPartitionsTheTraceByNameRow.maps == (Trym.f4.params.toList ++ Rows.fnCountPartitionsTheTraceByNameSpec.plain.varTypes Trym.pinned.checked.prog).any (Trym.pinned.checked.prog.mapsRec ·))) = true := by kernel_rfl
theorem k15 : ((Rows.fnCountPartitionsTheTraceByNameRow.ifaces == (Trym.f4.params.toList ++ Rows.fnCountPartitionsTheTraceByNameSpec.plain.varTypes Trym.pinned.checked.prog).any (Trym.pinned.checked.prog.ifacesRec ·))) = true := by kernel_rfl
theorem k16 : ((Rows.fnCountPartitionsTheTraceByNameRow.mapsOut == Trym.pinned.checked.prog.mapsAmong Trym.f4.resultTypes.toList)) = true := by kernel_rfl
theorem k17 : ((Rows.fnCountPartitionsTheTraceByNameRow.loops == (Trym.f4.params.toList ++ Rows.fnCountPartitionsTheTraceByNameSpec.plain.varTypes Trym.pinned.checked.prog).any (Trym.pinned.checked.prog.loopsFrom ·))) = true := by kernel_rfl
theorem k18 : ((Rows.fnCountPartitionsTheTraceByNameRow.wideKeys == (Trym.f4.params.toList ++ Rows.fnCountPartitionsTheTraceByNameSpec.plain.varTypes Trym.pinned.checked.prog ++ Trym.f4.resultTypes.toList).any (Trym.pinned.checked.prog.wideKeysFrom ·))) = true := by kernel_rfl
theorem k19 : (Rows.fnCountPartitionsTheTraceByNameSpec.vars.all (Trym.pinned.checked.prog.varReadable ·)) = true := by kernel_rfl
theorem k20 : (Trym.f4.resultTypes.all (fun t => Trym.pinned.checked.prog.readableRec t && decide (t < Trym.pinned.checked.prog.types.size))) = true := by kernel_rfl
theorem k21 : ((Rows.fnCountPartitionsTheTraceByNameRow.ifacesOut == Trym.f4.resultTypes.toList.any (Trym.pinned.checked.prog.ifacesRec ·))) = true := by kernel_rfl
theorem k22 : ((Rows.fnCountPartitionsTheTraceByNameRow.loopsOut == Trym.f4.resultTypes.toList.any (Trym.pinned.checked.prog.loopsFrom ·))) = true := by kernel_rfl
theorem k23 : ((Rows.fnCountPartitionsTheTraceByNameRow.plainKeys == Trym.pinned.checked.prog.plainKeys)) = true := by kernel_rfl
theorem k24 : (Rows.fnCountPartitionsTheTraceByNameRow.shortTexts.isNone) = true := by kernel_rfl
theorem k25 : (Trym.pinned.checked.prog.stopsHeard) = true := by kernel_rfl
theorem k26 : (Trym.pinned.checked.prog.mayEnter) = true := head_mayEnter
theorem k27 : ((Rows.fnCountPartitionsTheTraceByNameRow.lifted == Trym.pinned.checked.prog.liftsFinal)) = true := by rw [head_liftsFinal]; kernel_rfl
theorem k28 : ((Trym.pinned.checked.prog.make == some Rows.fnCountPartitionsTheTraceByNameRow.make)) = true := by rw [head_make]; kernel_rfl
theorem k29 : ((Rows.fnCountPartitionsTheTraceByNameRow.kinds == (if Rows.fnCountPartitionsTheTraceByNameRow.domain.isEmpty then [] else Trym.f4.params.toList.map fun t => match Trym.pinned.checked.prog.underlying t with | some (.int k) => some k | _ => Option.none))) = true := by kernel_rfl
theorem k30 : ((Rows.fnCountPartitionsTheTraceByNameRow.pinned == Rows.fnCountPartitionsTheTraceByNameRow.pinnedBy)) = true := by kernel_rfl
theorem k31 : ((Rows.fnCountPartitionsTheTraceByNameRow.veiled == (Trym.f4.params.toList ++ Rows.fnCountPartitionsTheTraceByNameSpec.plain.varTypes Trym.pinned.checked.prog ++ Trym.f4.resultTypes.toList).any (Trym.pinned.checked.prog.veiledRec ·))) = true := by kernel_rfl
theorem k32 : (Rows.fnCountPartitionsTheTraceByNameRow.veiledFits Trym.pinned.checked.prog Trym.f4.params.toList (Trym.f4.params.toList ++ Rows.fnCountPartitionsTheTraceByNameSpec.plain.varTypes Trym.pinned.checked.prog ++ Trym.f4.resultTypes.toList)) = true := by kernel_rfl
theorem named : Trym.pinned.checked.prog.funcNamed Rows.fnCountPartitionsTheTraceByNameRow.func = some 4 := by kernel_rfl
theorem facts : joinedFacts Trym.pinned.checked.prog 4 Trym.f4 Rows.fnCountPartitionsTheTraceByNameSpec Rows.fnCountPartitionsTheTraceByNameRow = true := by
  unfold joinedFacts
  rw [k1, k2, k3, k4, k5, k6, k7, k8, k9, k10, k11, k12, k13, k14, k15, k16, k17, k18, k19, k20, k21, k22, k23, k24, k25, k26, k27, k28]
  simp only [Bool.true_and, Bool.and_eq_true]
  exact ⟨⟨⟨k29, k30⟩, k31⟩, k32⟩
end Go.Proofs.Qxb6600301aMods.fnCountPartitionsTheTraceByName
