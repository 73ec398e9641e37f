/- THE HEAD OF THE DUMP AS A LIST OF SIGNS (by their numbers): the three closed facts that read it, each out of a small law over whatever program, so that the kernel never decodes the whole string. -/
import Derived.Test.Qxb6600301aModsRows
import Derived.WalkKit
import Derived.ProofKit
namespace Go.Proofs.Qxb6600301aMods

theorem strip_public (rest : List (List Char)) : stripLifts liftWords ("publicsums".toList :: "cut".toList :: rest) = (["publicsums"], "cut".toList :: rest) := by kernel_rfl
theorem lifts_of (P : Program) (rest : List (List Char)) (h : behindMainWord (wordsSigns P.initOrder.toList) = "publicsums".toList :: "cut".toList :: rest) : P.headLifts = ["publicsums"] := by
  unfold Program.headLifts
  rw [h, strip_public]
  kernel_rfl
theorem mayEnter_of (P : Program) (rest : List (List Char)) (h : behindMainWord (wordsSigns P.initOrder.toList) = "publicsums".toList :: "cut".toList :: rest) (h1 : P.laysLater = false) (h2 : P.bearsReflect = false) (h3 : P.doorFits ["publicsums"] = true) : P.mayEnter = true := by
  unfold Program.mayEnter
  rw [h]
  dsimp only
  rw [strip_public, h1, h2, h3]
  kernel_rfl
theorem liftsFinal_of (P : Program) (rest : List (List Char)) (h : behindMainWord (wordsSigns P.initOrder.toList) = "publicsums".toList :: "cut".toList :: rest) : P.liftsFinal = false := by
  unfold Program.liftsFinal
  rw [lifts_of P rest h, h]
  kernel_rfl
theorem make_of (P : Program) (rest : List (List Char)) (h : behindMainWord (wordsSigns P.initOrder.toList) = "publicsums".toList :: "cut".toList :: rest) : P.make = some (.lifted ["publicsums"]) := by
  unfold Program.make
  rw [lifts_of P rest h, h]
  kernel_rfl

def headCodes : List Nat := [104, 97, 114, 110, 101, 115, 115, 32, 99, 102, 100, 56, 52, 49, 54, 51, 54, 57, 55, 53, 53, 52, 100, 100, 98, 54, 55, 101, 48, 56, 102, 51, 52, 57, 55, 49, 50, 97, 98, 98,
  52, 55, 50, 101, 55, 99, 55, 99, 53, 49, 102, 48, 49, 54, 55, 97, 102, 54, 98, 48, 55, 102, 102, 98, 57, 57, 97, 52, 101, 56, 51, 99, 32, 112, 117, 98, 108, 105, 99, 115,
  117, 109, 115, 32, 99, 117, 116, 32, 97, 116, 32, 101, 120, 97, 109, 112, 108, 101, 46, 99, 111, 109, 47, 114, 101, 115, 116, 105, 116, 117, 116, 101, 47, 114, 101, 115, 116, 105, 116, 117,
  116, 101, 47, 122, 122, 108, 97, 119, 115, 95, 114, 101, 115, 116, 105, 116, 117, 116, 101, 116, 101, 115, 116, 95, 98, 49, 46, 70, 110, 67, 111, 117, 110, 116, 83, 116, 101, 112, 115, 66,
  121, 79, 110, 101, 79, 110, 69, 97, 99, 104, 77, 97, 116, 99, 104, 32, 101, 120, 97, 109, 112, 108, 101, 46, 99, 111, 109, 47, 114, 101, 115, 116, 105, 116, 117, 116, 101, 47, 114, 101,
  115, 116, 105, 116, 117, 116, 101, 47, 122, 122, 108, 97, 119, 115, 95, 114, 101, 115, 116, 105, 116, 117, 116, 101, 116, 101, 115, 116, 95, 98, 49, 46, 70, 110, 67, 111, 117, 110, 116, 80,
  97, 114, 116, 105, 116, 105, 111, 110, 115, 84, 104, 101, 84, 114, 97, 99, 101, 66, 121, 78, 97, 109, 101, 32, 101, 120, 97, 109, 112, 108, 101, 46, 99, 111, 109, 47, 114, 101, 115, 116,
  105, 116, 117, 116, 101, 47, 114, 101, 115, 116, 105, 116, 117, 116, 101, 47, 122, 122, 108, 97, 119, 115, 95, 114, 101, 115, 116, 105, 116, 117, 116, 101, 116, 101, 115, 116, 95, 98, 49, 46,
  70, 110, 67, 111, 117, 110, 116, 73, 103, 110, 111, 114, 101, 115, 79, 114, 100, 101, 114, 65, 110, 100, 79, 114, 100, 105, 110, 97, 108, 115]
theorem head_is : Trym.pinned.checked.prog.initOrder = String.ofList (headCodes.map Char.ofNat) := by kernel_rfl
theorem head_list : Trym.pinned.checked.prog.initOrder.toList = headCodes.map Char.ofNat := by rw [head_is, String.toList_ofList]
theorem head_words : behindMainWord (wordsSigns Trym.pinned.checked.prog.initOrder.toList) = "publicsums".toList :: "cut".toList :: (behindMainWord (wordsSigns (headCodes.map Char.ofNat))).drop 2 := by
  rw [head_list]
  kernel_rfl
theorem head_mayEnter : Trym.pinned.checked.prog.mayEnter = true := mayEnter_of _ _ head_words (by kernel_rfl) (by kernel_rfl) (by kernel_rfl)
theorem head_liftsFinal : Trym.pinned.checked.prog.liftsFinal = false := liftsFinal_of _ _ head_words
theorem head_make : Trym.pinned.checked.prog.make = some (.lifted ["publicsums"]) := make_of _ _ head_words
end Go.Proofs.Qxb6600301aMods
