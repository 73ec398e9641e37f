/-
  No cell of these rows narrows 'for every input' (looked for: loops, veiled, ifaces, maps, wideKeys, modest, calm, conditions, laid).
  DERIVED. THE GIVEN ROWS OF THIS SEAT. 5 by the template 'for every input the law returns true; each argument reads behind the call as it read before'; 0 by the template 'total and deterministic' (their statements: Qxb6600475aModsTotals.lean).
  GIVEN WITH THE SEED: the statements are not yours to turn. If you find one false, say at which input.
  Laid BY PROGRAM, IN A SANDBOX (cutbox-rows.mjs): the forced cells as the released guide's own fill.sh prints them over the translation e57d3d167680b1e3… (all of the seat's roots in one cut). By AI agents, Wed Nov 11 2026. No macro, syntax, notation, axiom, sorry.
-/
import Derived.Test.Qxb6600475aModsChecked
import GoSem.Claim
import GoSem.ClaimJoined
import GoSem.ClaimMapViews
import Derived.JoinedTies
import Derived.KernelRfl
namespace Go.Proofs.Qxb6600475aMods
/- THE CELL 'sum', in the pinned program and in every row, IS THE sha256 OF THE DUMP (.gsa) THAT Qxb6600475aModsProg.lean LOADS. Nothing in Lean hashes anything: it is a label: what it is worth is what the hold of that sum in a sandbox is worth. -/
noncomputable def Trym.pinned : Pinned := { name := "qxb6600475amods", sum := "e57d3d167680b1e3c2ebd0b31d70af13a4ff76eb3ac39f8dd8682222186323b6", checked := Trym.checked }
namespace Rows
def none {H : Type} : Left H := { results := [], args := [] }

/-- 'zzlaws_manifest_b1.FnSplitDocumentsMatchesMarkerModel': WHATEVER THE INPUT: true; the input reads as it did. -/
def fnSplitDocumentsMatchesMarkerModelSpec : ChangeSpec := { name := "fnSplitDocumentsMatchesMarkerModel", fn := fun _ => fun
  | [d] => { results := [.lit (.bool true)], args := [d] }
  | _ => none }
def fnSplitDocumentsMatchesMarkerModelRow : OpenClaim := { program := "qxb6600475amods", sum := "e57d3d167680b1e3c2ebd0b31d70af13a4ff76eb3ac39f8dd8682222186323b6", func := "example.com/aker/aker/zzlaws_manifest_b1.FnSplitDocumentsMatchesMarkerModel", spec := "fnSplitDocumentsMatchesMarkerModel", inPlace := ["internal/bytealg.IndexByte", "internal/bytealg.IndexByteString", "internal/bytealg.IndexString"], named := ["internal/bytealg.MaxLen"], make := .lifted ["publicsums"], apart := false }
def FnSplitDocumentsMatchesMarkerModelSaid : Prop := fnSplitDocumentsMatchesMarkerModelRow.holds Trym.pinned (OpenSpec.ofChange fnSplitDocumentsMatchesMarkerModelSpec)

/-- ITS FALSE NEIGHBOUR: 'it returns false'. Refute it at one input. -/
def fnSplitDocumentsMatchesMarkerModelWrong : ChangeSpec := { name := "fnSplitDocumentsMatchesMarkerModel", fn := fun _ => fun
  | [d] => { results := [.lit (.bool false)], args := [d] }
  | _ => none }
def FnSplitDocumentsMatchesMarkerModelWrongFalsely : Prop := fnSplitDocumentsMatchesMarkerModelRow.holds Trym.pinned (OpenSpec.ofChange fnSplitDocumentsMatchesMarkerModelWrong)

/-- 'zzlaws_manifest_b1.FnSplitDocumentsReassembles': WHATEVER THE INPUT: true; the input reads as it did. -/
def fnSplitDocumentsReassemblesSpec : ChangeSpec := { name := "fnSplitDocumentsReassembles", fn := fun _ => fun
  | [d] => { results := [.lit (.bool true)], args := [d] }
  | _ => none }
def fnSplitDocumentsReassemblesRow : OpenClaim := { program := "qxb6600475amods", sum := "e57d3d167680b1e3c2ebd0b31d70af13a4ff76eb3ac39f8dd8682222186323b6", func := "example.com/aker/aker/zzlaws_manifest_b1.FnSplitDocumentsReassembles", spec := "fnSplitDocumentsReassembles", inPlace := ["internal/bytealg.IndexByte", "internal/bytealg.IndexByteString", "internal/bytealg.IndexString"], named := ["internal/bytealg.MaxLen"], make := .lifted ["publicsums"], apart := false }
def FnSplitDocumentsReassemblesSaid : Prop := fnSplitDocumentsReassemblesRow.holds Trym.pinned (OpenSpec.ofChange fnSplitDocumentsReassemblesSpec)

/-- ITS FALSE NEIGHBOUR: 'it returns false'. Refute it at one input. -/
def fnSplitDocumentsReassemblesWrong : ChangeSpec := { name := "fnSplitDocumentsReassembles", fn := fun _ => fun
  | [d] => { results := [.lit (.bool false)], args := [d] }
  | _ => none }
def FnSplitDocumentsReassemblesWrongFalsely : Prop := fnSplitDocumentsReassemblesRow.holds Trym.pinned (OpenSpec.ofChange fnSplitDocumentsReassemblesWrong)

/-- 'zzlaws_manifest_b1.FnSplitDocumentsKeepsNoMarker': WHATEVER THE INPUT: true; the input reads as it did. -/
def fnSplitDocumentsKeepsNoMarkerSpec : ChangeSpec := { name := "fnSplitDocumentsKeepsNoMarker", fn := fun _ => fun
  | [d] => { results := [.lit (.bool true)], args := [d] }
  | _ => none }
def fnSplitDocumentsKeepsNoMarkerRow : OpenClaim := { program := "qxb6600475amods", sum := "e57d3d167680b1e3c2ebd0b31d70af13a4ff76eb3ac39f8dd8682222186323b6", func := "example.com/aker/aker/zzlaws_manifest_b1.FnSplitDocumentsKeepsNoMarker", spec := "fnSplitDocumentsKeepsNoMarker", inPlace := ["internal/bytealg.IndexByte", "internal/bytealg.IndexByteString", "internal/bytealg.IndexString"], named := ["internal/bytealg.MaxLen"], make := .lifted ["publicsums"], apart := false }
def FnSplitDocumentsKeepsNoMarkerSaid : Prop := fnSplitDocumentsKeepsNoMarkerRow.holds Trym.pinned (OpenSpec.ofChange fnSplitDocumentsKeepsNoMarkerSpec)

/-- ITS FALSE NEIGHBOUR: 'it returns false'. Refute it at one input. -/
def fnSplitDocumentsKeepsNoMarkerWrong : ChangeSpec := { name := "fnSplitDocumentsKeepsNoMarker", fn := fun _ => fun
  | [d] => { results := [.lit (.bool false)], args := [d] }
  | _ => none }
def FnSplitDocumentsKeepsNoMarkerWrongFalsely : Prop := fnSplitDocumentsKeepsNoMarkerRow.holds Trym.pinned (OpenSpec.ofChange fnSplitDocumentsKeepsNoMarkerWrong)

/-- 'zzlaws_manifest_b1.FnSecretValueMatchesAssociationModel': WHATEVER THE INPUT: true; the input reads as it did. -/
def fnSecretValueMatchesAssociationModelSpec : ChangeSpec := { name := "fnSecretValueMatchesAssociationModel", fn := fun _ => fun
  | [d1, d2, d3, d4, d5] => { results := [.lit (.bool true)], args := [d1, d2, d3, d4, d5] }
  | _ => none }
def fnSecretValueMatchesAssociationModelRow : OpenClaim := { program := "qxb6600475amods", sum := "e57d3d167680b1e3c2ebd0b31d70af13a4ff76eb3ac39f8dd8682222186323b6", func := "example.com/aker/aker/zzlaws_manifest_b1.FnSecretValueMatchesAssociationModel", spec := "fnSecretValueMatchesAssociationModel", make := .lifted ["publicsums"], apart := false }
def FnSecretValueMatchesAssociationModelSaid : Prop := fnSecretValueMatchesAssociationModelRow.holds Trym.pinned (OpenSpec.ofChange fnSecretValueMatchesAssociationModelSpec)

/-- ITS FALSE NEIGHBOUR: 'it returns false'. Refute it at one input. -/
def fnSecretValueMatchesAssociationModelWrong : ChangeSpec := { name := "fnSecretValueMatchesAssociationModel", fn := fun _ => fun
  | [d1, d2, d3, d4, d5] => { results := [.lit (.bool false)], args := [d1, d2, d3, d4, d5] }
  | _ => none }
def FnSecretValueMatchesAssociationModelWrongFalsely : Prop := fnSecretValueMatchesAssociationModelRow.holds Trym.pinned (OpenSpec.ofChange fnSecretValueMatchesAssociationModelWrong)

/-- 'zzlaws_manifest_b1.FnSecretValueIgnoresOtherKeys': WHATEVER THE INPUT: true; the input reads as it did. -/
def fnSecretValueIgnoresOtherKeysSpec : ChangeSpec := { name := "fnSecretValueIgnoresOtherKeys", fn := fun _ => fun
  | [d1, d2, d3, d4, d5, d6, d7, d8, d9] => { results := [.lit (.bool true)], args := [d1, d2, d3, d4, d5, d6, d7, d8, d9] }
  | _ => none }
def fnSecretValueIgnoresOtherKeysRow : OpenClaim := { program := "qxb6600475amods", sum := "e57d3d167680b1e3c2ebd0b31d70af13a4ff76eb3ac39f8dd8682222186323b6", func := "example.com/aker/aker/zzlaws_manifest_b1.FnSecretValueIgnoresOtherKeys", spec := "fnSecretValueIgnoresOtherKeys", make := .lifted ["publicsums"], apart := false }
def FnSecretValueIgnoresOtherKeysSaid : Prop := fnSecretValueIgnoresOtherKeysRow.holds Trym.pinned (OpenSpec.ofChange fnSecretValueIgnoresOtherKeysSpec)

/-- ITS FALSE NEIGHBOUR: 'it returns false'. Refute it at one input. -/
def fnSecretValueIgnoresOtherKeysWrong : ChangeSpec := { name := "fnSecretValueIgnoresOtherKeys", fn := fun _ => fun
  | [d1, d2, d3, d4, d5, d6, d7, d8, d9] => { results := [.lit (.bool false)], args := [d1, d2, d3, d4, d5, d6, d7, d8, d9] }
  | _ => none }
def FnSecretValueIgnoresOtherKeysWrongFalsely : Prop := fnSecretValueIgnoresOtherKeysRow.holds Trym.pinned (OpenSpec.ofChange fnSecretValueIgnoresOtherKeysWrong)

end Rows
end Go.Proofs.Qxb6600475aMods
