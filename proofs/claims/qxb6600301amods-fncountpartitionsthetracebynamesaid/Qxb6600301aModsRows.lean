/-
  No cell of these rows narrows 'for every input' (looked for: loops, veiled, ifaces, maps, wideKeys, modest, calm, conditions, laid).
  DERIVED. THE GIVEN ROWS OF THIS SEAT. 3 by the template 'for every input the law returns true; each argument reads behind the call as it read before'; 0 by the template 'total and deterministic' (their statements: Qxb6600301aModsTotals.lean).
  GIVEN WITH THE SEED: the statements are not yours to turn. If you find one false, say at which input.
  Laid BY PROGRAM, IN A SANDBOX (cutbox-rows.mjs): the forced cells as the released guide's own fill.sh prints them over the translation c248f89916e3c42e… (all of the seat's roots in one cut). By AI agents, Wed Nov 11 2026. No macro, syntax, notation, axiom, sorry.
-/
import Derived.Test.Qxb6600301aModsChecked
import GoSem.Claim
import GoSem.ClaimJoined
import GoSem.ClaimMapViews
import Derived.JoinedTies
import Derived.KernelRfl
namespace Go.Proofs.Qxb6600301aMods
/- THE CELL 'sum', in the pinned program and in every row, IS THE sha256 OF THE DUMP (.gsa) THAT Qxb6600301aModsProg.lean LOADS. Nothing in Lean hashes anything: it is a label: what it is worth is what the hold of that sum in a sandbox is worth. -/
noncomputable def Trym.pinned : Pinned := { name := "qxb6600301amods", sum := "c248f89916e3c42ec9584ec956dd10ad9aaa9ae309ecd8ee984541a9fc39ca4e", checked := Trym.checked }
namespace Rows
def none {H : Type} : Left H := { results := [], args := [] }

/-- 'zzlaws_restitutetest_b1.FnCountStepsByOneOnEachMatch': WHATEVER THE INPUT: true; the input reads as it did. -/
def fnCountStepsByOneOnEachMatchSpec : ChangeSpec := { name := "fnCountStepsByOneOnEachMatch", fn := fun _ => fun
  | [d1, d2, d3] => { results := [.lit (.bool true)], args := [d1, d2, d3] }
  | _ => none }
def fnCountStepsByOneOnEachMatchRow : OpenClaim := { program := "qxb6600301amods", sum := "c248f89916e3c42ec9584ec956dd10ad9aaa9ae309ecd8ee984541a9fc39ca4e", func := "example.com/restitute/restitute/zzlaws_restitutetest_b1.FnCountStepsByOneOnEachMatch", spec := "fnCountStepsByOneOnEachMatch", make := .lifted ["publicsums"], apart := false }
def FnCountStepsByOneOnEachMatchSaid : Prop := fnCountStepsByOneOnEachMatchRow.holds Trym.pinned (OpenSpec.ofChange fnCountStepsByOneOnEachMatchSpec)

/-- ITS FALSE NEIGHBOUR: 'it returns false'. Refute it at one input. -/
def fnCountStepsByOneOnEachMatchWrong : ChangeSpec := { name := "fnCountStepsByOneOnEachMatch", fn := fun _ => fun
  | [d1, d2, d3] => { results := [.lit (.bool false)], args := [d1, d2, d3] }
  | _ => none }
def FnCountStepsByOneOnEachMatchWrongFalsely : Prop := fnCountStepsByOneOnEachMatchRow.holds Trym.pinned (OpenSpec.ofChange fnCountStepsByOneOnEachMatchWrong)

/-- 'zzlaws_restitutetest_b1.FnCountPartitionsTheTraceByName': WHATEVER THE INPUT: true; the input reads as it did. -/
def fnCountPartitionsTheTraceByNameSpec : ChangeSpec := { name := "fnCountPartitionsTheTraceByName", fn := fun _ => fun
  | [d1, d2, d3] => { results := [.lit (.bool true)], args := [d1, d2, d3] }
  | _ => none }
def fnCountPartitionsTheTraceByNameRow : OpenClaim := { program := "qxb6600301amods", sum := "c248f89916e3c42ec9584ec956dd10ad9aaa9ae309ecd8ee984541a9fc39ca4e", func := "example.com/restitute/restitute/zzlaws_restitutetest_b1.FnCountPartitionsTheTraceByName", spec := "fnCountPartitionsTheTraceByName", make := .lifted ["publicsums"], apart := false }
def FnCountPartitionsTheTraceByNameSaid : Prop := fnCountPartitionsTheTraceByNameRow.holds Trym.pinned (OpenSpec.ofChange fnCountPartitionsTheTraceByNameSpec)

/-- ITS FALSE NEIGHBOUR: 'it returns false'. Refute it at one input. -/
def fnCountPartitionsTheTraceByNameWrong : ChangeSpec := { name := "fnCountPartitionsTheTraceByName", fn := fun _ => fun
  | [d1, d2, d3] => { results := [.lit (.bool false)], args := [d1, d2, d3] }
  | _ => none }
def FnCountPartitionsTheTraceByNameWrongFalsely : Prop := fnCountPartitionsTheTraceByNameRow.holds Trym.pinned (OpenSpec.ofChange fnCountPartitionsTheTraceByNameWrong)

/-- 'zzlaws_restitutetest_b1.FnCountIgnoresOrderAndOrdinals': WHATEVER THE INPUT: true; the input reads as it did. -/
def fnCountIgnoresOrderAndOrdinalsSpec : ChangeSpec := { name := "fnCountIgnoresOrderAndOrdinals", fn := fun _ => fun
  | [d1, d2, d3] => { results := [.lit (.bool true)], args := [d1, d2, d3] }
  | _ => none }
def fnCountIgnoresOrderAndOrdinalsRow : OpenClaim := { program := "qxb6600301amods", sum := "c248f89916e3c42ec9584ec956dd10ad9aaa9ae309ecd8ee984541a9fc39ca4e", func := "example.com/restitute/restitute/zzlaws_restitutetest_b1.FnCountIgnoresOrderAndOrdinals", spec := "fnCountIgnoresOrderAndOrdinals", make := .lifted ["publicsums"], apart := false }
def FnCountIgnoresOrderAndOrdinalsSaid : Prop := fnCountIgnoresOrderAndOrdinalsRow.holds Trym.pinned (OpenSpec.ofChange fnCountIgnoresOrderAndOrdinalsSpec)

/-- ITS FALSE NEIGHBOUR: 'it returns false'. Refute it at one input. -/
def fnCountIgnoresOrderAndOrdinalsWrong : ChangeSpec := { name := "fnCountIgnoresOrderAndOrdinals", fn := fun _ => fun
  | [d1, d2, d3] => { results := [.lit (.bool false)], args := [d1, d2, d3] }
  | _ => none }
def FnCountIgnoresOrderAndOrdinalsWrongFalsely : Prop := fnCountIgnoresOrderAndOrdinalsRow.holds Trym.pinned (OpenSpec.ofChange fnCountIgnoresOrderAndOrdinalsWrong)

end Rows
end Go.Proofs.Qxb6600301aMods
