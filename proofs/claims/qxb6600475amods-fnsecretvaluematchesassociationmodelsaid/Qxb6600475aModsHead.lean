/- THE HEAD OF THE DUMP AS A LIST OF SIGNS (by their numbers): the three closed facts that read it, each out of a small law over whatever program, so that the kernel never decodes the whole string. -/
import Derived.Test.Qxb6600475aModsRows
import Derived.WalkKit
import Derived.ProofKit
namespace Go.Proofs.Qxb6600475aMods

theorem strip_public (rest : List (List Char)) : stripLifts liftWords ("publicsums".toList :: "cut".toList :: rest) = (["publicsums"], "cut".toList :: rest) := by kernel_rfl
theorem lifts_of (P : Program) (rest : List (List Char)) (h : behindMainWord (wordsSigns P.initOrder.toList) = "publicsums".toList :: "cut".toList :: rest) : P.headLifts = ["publicsums"] := by
  unfold Program.headLifts
  rw [h, strip_public]
  kernel_rfl
theorem mayEnter_of (P : Program) (rest : List (List Char)) (h : behindMainWord (wordsSigns P.initOrder.toList) = "publicsums".toList :: "cut".toList :: rest) (h1 : P.laysLater = false) (h2 : P.bearsReflect = false) (h3 : P.doorFits ["publicsums"] = true) : P.mayEnter = true := by
  unfold Program.mayEnter
  rw [h]
  dsimp only
  rw [strip_public, h1, h2, h3]
  kernel_rfl
theorem liftsFinal_of (P : Program) (rest : List (List Char)) (h : behindMainWord (wordsSigns P.initOrder.toList) = "publicsums".toList :: "cut".toList :: rest) : P.liftsFinal = false := by
  unfold Program.liftsFinal
  rw [lifts_of P rest h, h]
  kernel_rfl
theorem make_of (P : Program) (rest : List (List Char)) (h : behindMainWord (wordsSigns P.initOrder.toList) = "publicsums".toList :: "cut".toList :: rest) : P.make = some (.lifted ["publicsums"]) := by
  unfold Program.make
  rw [lifts_of P rest h, h]
  kernel_rfl

def headCodes : List Nat := [104, 97, 114, 110, 101, 115, 115, 32, 98, 57, 97, 49, 51, 101, 97, 51, 53, 48, 57, 53, 99, 49, 51, 99, 97, 98, 53, 102, 98, 49, 54, 50, 49, 98, 52, 97, 55, 53, 98, 56,
  98, 101, 54, 52, 53, 53, 52, 53, 50, 53, 57, 57, 97, 55, 51, 57, 54, 48, 100, 48, 52, 54, 97, 100, 54, 51, 49, 97, 53, 98, 97, 98, 32, 112, 117, 98, 108, 105, 99, 115,
  117, 109, 115, 32, 99, 117, 116, 32, 97, 116, 32, 101, 120, 97, 109, 112, 108, 101, 46, 99, 111, 109, 47, 97, 107, 101, 114, 47, 97, 107, 101, 114, 47, 122, 122, 108, 97, 119, 115, 95,
  109, 97, 110, 105, 102, 101, 115, 116, 95, 98, 49, 46, 70, 110, 83, 112, 108, 105, 116, 68, 111, 99, 117, 109, 101, 110, 116, 115, 77, 97, 116, 99, 104, 101, 115, 77, 97, 114, 107, 101,
  114, 77, 111, 100, 101, 108, 32, 101, 120, 97, 109, 112, 108, 101, 46, 99, 111, 109, 47, 97, 107, 101, 114, 47, 97, 107, 101, 114, 47, 122, 122, 108, 97, 119, 115, 95, 109, 97, 110, 105,
  102, 101, 115, 116, 95, 98, 49, 46, 70, 110, 83, 112, 108, 105, 116, 68, 111, 99, 117, 109, 101, 110, 116, 115, 82, 101, 97, 115, 115, 101, 109, 98, 108, 101, 115, 32, 101, 120, 97, 109,
  112, 108, 101, 46, 99, 111, 109, 47, 97, 107, 101, 114, 47, 97, 107, 101, 114, 47, 122, 122, 108, 97, 119, 115, 95, 109, 97, 110, 105, 102, 101, 115, 116, 95, 98, 49, 46, 70, 110, 83,
  112, 108, 105, 116, 68, 111, 99, 117, 109, 101, 110, 116, 115, 75, 101, 101, 112, 115, 78, 111, 77, 97, 114, 107, 101, 114, 32, 101, 120, 97, 109, 112, 108, 101, 46, 99, 111, 109, 47, 97,
  107, 101, 114, 47, 97, 107, 101, 114, 47, 122, 122, 108, 97, 119, 115, 95, 109, 97, 110, 105, 102, 101, 115, 116, 95, 98, 49, 46, 70, 110, 83, 101, 99, 114, 101, 116, 86, 97, 108, 117,
  101, 77, 97, 116, 99, 104, 101, 115, 65, 115, 115, 111, 99, 105, 97, 116, 105, 111, 110, 77, 111, 100, 101, 108, 32, 101, 120, 97, 109, 112, 108, 101, 46, 99, 111, 109, 47, 97, 107, 101,
  114, 47, 97, 107, 101, 114, 47, 122, 122, 108, 97, 119, 115, 95, 109, 97, 110, 105, 102, 101, 115, 116, 95, 98, 49, 46, 70, 110, 83, 101, 99, 114, 101, 116, 86, 97, 108, 117, 101, 73,
  103, 110, 111, 114, 101, 115, 79, 116, 104, 101, 114, 75, 101, 121, 115]
theorem head_is : Trym.pinned.checked.prog.initOrder = String.ofList (headCodes.map Char.ofNat) := by kernel_rfl
theorem head_list : Trym.pinned.checked.prog.initOrder.toList = headCodes.map Char.ofNat := by rw [head_is, String.toList_ofList]
theorem head_words : behindMainWord (wordsSigns Trym.pinned.checked.prog.initOrder.toList) = "publicsums".toList :: "cut".toList :: (behindMainWord (wordsSigns (headCodes.map Char.ofNat))).drop 2 := by
  rw [head_list]
  kernel_rfl
theorem head_mayEnter : Trym.pinned.checked.prog.mayEnter = true := mayEnter_of _ _ head_words (by kernel_rfl) (by kernel_rfl) (by kernel_rfl)
theorem head_liftsFinal : Trym.pinned.checked.prog.liftsFinal = false := liftsFinal_of _ _ head_words
theorem head_make : Trym.pinned.checked.prog.make = some (.lifted ["publicsums"]) := make_of _ _ head_words
end Go.Proofs.Qxb6600475aMods
