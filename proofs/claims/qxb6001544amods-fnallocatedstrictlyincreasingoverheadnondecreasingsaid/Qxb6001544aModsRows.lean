/-
  No cell of these rows narrows 'for every input' (looked for: loops, veiled, ifaces, maps, wideKeys, modest, calm, conditions, laid).
  DERIVED. THE GIVEN ROWS OF THIS SEAT. 2 by the template 'for every input the law returns true; each argument reads behind the call as it read before'; 0 by the template 'total and deterministic' (their statements: Qxb6001544aModsTotals.lean).
  GIVEN WITH THE SEED: the statements are not yours to turn. If you find one false, say at which input.
  Laid BY PROGRAM, IN A SANDBOX (cutbox-rows.mjs): the forced cells as the released guide's own fill.sh prints them over the translation 747bcab34b9557fc… (all of the seat's roots in one cut). By AI agents, Wed Nov 11 2026. No macro, syntax, notation, axiom, sorry.
-/
import Derived.Test.Qxb6001544aModsChecked
import GoSem.Claim
import GoSem.ClaimJoined
import GoSem.ClaimMapViews
import Derived.JoinedTies
import Derived.KernelRfl
namespace Go.Proofs.Qxb6001544aMods
/- THE CELL 'sum', in the pinned program and in every row, IS THE sha256 OF THE DUMP (.gsa) THAT Qxb6001544aModsProg.lean LOADS. Nothing in Lean hashes anything: it is a label: what it is worth is what the hold of that sum in a sandbox is worth. -/
noncomputable def Trym.pinned : Pinned := { name := "qxb6001544amods", sum := "747bcab34b9557fc91cc747fd60e1a0d21d5996838ff42f96de1db3b5e82077b", checked := Trym.checked }
namespace Rows
def none {H : Type} : Left H := { results := [], args := [] }

/-- 'zzlaws_pkg_otlp_b1.FnAllocatedCoversRequestWithinOnePage': WHATEVER THE INPUT: true; the input reads as it did. -/
def fnAllocatedCoversRequestWithinOnePageSpec : ChangeSpec := { name := "fnAllocatedCoversRequestWithinOnePage", fn := fun _ => fun
  | [d] => { results := [.lit (.bool true)], args := [d] }
  | _ => none }
def fnAllocatedCoversRequestWithinOnePageRow : OpenClaim := { program := "qxb6001544amods", sum := "747bcab34b9557fc91cc747fd60e1a0d21d5996838ff42f96de1db3b5e82077b", func := "example.com/spanweave/spanweave/zzlaws_pkg_otlp_b1.FnAllocatedCoversRequestWithinOnePage", spec := "fnAllocatedCoversRequestWithinOnePage", make := .lifted ["publicsums"], apart := false }
def FnAllocatedCoversRequestWithinOnePageSaid : Prop := fnAllocatedCoversRequestWithinOnePageRow.holds Trym.pinned (OpenSpec.ofChange fnAllocatedCoversRequestWithinOnePageSpec)

/-- ITS FALSE NEIGHBOUR: 'it returns false'. Refute it at one input. -/
def fnAllocatedCoversRequestWithinOnePageWrong : ChangeSpec := { name := "fnAllocatedCoversRequestWithinOnePage", fn := fun _ => fun
  | [d] => { results := [.lit (.bool false)], args := [d] }
  | _ => none }
def FnAllocatedCoversRequestWithinOnePageWrongFalsely : Prop := fnAllocatedCoversRequestWithinOnePageRow.holds Trym.pinned (OpenSpec.ofChange fnAllocatedCoversRequestWithinOnePageWrong)

/-- 'zzlaws_pkg_otlp_b1.FnAllocatedStrictlyIncreasingOverheadNondecreasing': WHATEVER THE INPUT: true; the input reads as it did. -/
def fnAllocatedStrictlyIncreasingOverheadNondecreasingSpec : ChangeSpec := { name := "fnAllocatedStrictlyIncreasingOverheadNondecreasing", fn := fun _ => fun
  | [d1, d2] => { results := [.lit (.bool true)], args := [d1, d2] }
  | _ => none }
def fnAllocatedStrictlyIncreasingOverheadNondecreasingRow : OpenClaim := { program := "qxb6001544amods", sum := "747bcab34b9557fc91cc747fd60e1a0d21d5996838ff42f96de1db3b5e82077b", func := "example.com/spanweave/spanweave/zzlaws_pkg_otlp_b1.FnAllocatedStrictlyIncreasingOverheadNondecreasing", spec := "fnAllocatedStrictlyIncreasingOverheadNondecreasing", make := .lifted ["publicsums"], apart := false }
def FnAllocatedStrictlyIncreasingOverheadNondecreasingSaid : Prop := fnAllocatedStrictlyIncreasingOverheadNondecreasingRow.holds Trym.pinned (OpenSpec.ofChange fnAllocatedStrictlyIncreasingOverheadNondecreasingSpec)

/-- ITS FALSE NEIGHBOUR: 'it returns false'. Refute it at one input. -/
def fnAllocatedStrictlyIncreasingOverheadNondecreasingWrong : ChangeSpec := { name := "fnAllocatedStrictlyIncreasingOverheadNondecreasing", fn := fun _ => fun
  | [d1, d2] => { results := [.lit (.bool false)], args := [d1, d2] }
  | _ => none }
def FnAllocatedStrictlyIncreasingOverheadNondecreasingWrongFalsely : Prop := fnAllocatedStrictlyIncreasingOverheadNondecreasingRow.holds Trym.pinned (OpenSpec.ofChange fnAllocatedStrictlyIncreasingOverheadNondecreasingWrong)

end Rows
end Go.Proofs.Qxb6001544aMods
