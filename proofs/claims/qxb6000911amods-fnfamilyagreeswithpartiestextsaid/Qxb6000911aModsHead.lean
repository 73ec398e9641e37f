/- THE HEAD OF THE DUMP AS A LIST OF SIGNS (by their numbers): the three closed facts that read it, each out of a small law over whatever program, so that the kernel never decodes the whole string. -/
import Derived.Test.Qxb6000911aModsRows
import Derived.WalkKit
import Derived.ProofKit
namespace Go.Proofs.Qxb6000911aMods

theorem strip_public (rest : List (List Char)) : stripLifts liftWords ("publicsums".toList :: "cut".toList :: rest) = (["publicsums"], "cut".toList :: rest) := by kernel_rfl
theorem lifts_of (P : Program) (rest : List (List Char)) (h : behindMainWord (wordsSigns P.initOrder.toList) = "publicsums".toList :: "cut".toList :: rest) : P.headLifts = ["publicsums"] := by
  unfold Program.headLifts
  rw [h, strip_public]
  kernel_rfl
theorem mayEnter_of (P : Program) (rest : List (List Char)) (h : behindMainWord (wordsSigns P.initOrder.toList) = "publicsums".toList :: "cut".toList :: rest) (h1 : P.laysLater = false) (h2 : P.bearsReflect = false) (h3 : P.doorFits ["publicsums"] = true) : P.mayEnter = true := by
  unfold Program.mayEnter
  rw [h]
  dsimp only
  rw [strip_public, h1, h2, h3]
  kernel_rfl
theorem liftsFinal_of (P : Program) (rest : List (List Char)) (h : behindMainWord (wordsSigns P.initOrder.toList) = "publicsums".toList :: "cut".toList :: rest) : P.liftsFinal = false := by
  unfold Program.liftsFinal
  rw [lifts_of P rest h, h]
  kernel_rfl
theorem make_of (P : Program) (rest : List (List Char)) (h : behindMainWord (wordsSigns P.initOrder.toList) = "publicsums".toList :: "cut".toList :: rest) : P.make = some (.lifted ["publicsums"]) := by
  unfold Program.make
  rw [lifts_of P rest h, h]
  kernel_rfl

def headCodes : List Nat := [104, 97, 114, 110, 101, 115, 115, 32, 57, 57, 101, 52, 57, 97, 53, 98, 52, 102, 52, 102, 102, 51, 54, 50, 48, 55, 101, 50, 57, 101, 53, 102, 100, 54, 52, 99, 102, 97, 52, 48,
  53, 52, 51, 99, 54, 99, 53, 57, 97, 51, 55, 55, 51, 52, 55, 51, 56, 54, 101, 97, 99, 56, 99, 54, 51, 101, 56, 48, 48, 99, 57, 49, 32, 112, 117, 98, 108, 105, 99, 115,
  117, 109, 115, 32, 99, 117, 116, 32, 97, 116, 32, 101, 120, 97, 109, 112, 108, 101, 46, 99, 111, 109, 47, 116, 117, 111, 103, 117, 97, 110, 47, 116, 117, 111, 103, 117, 97, 110, 47, 122,
  122, 108, 97, 119, 115, 95, 105, 110, 116, 101, 114, 110, 97, 108, 95, 98, 111, 111, 107, 95, 98, 49, 46, 70, 110, 80, 97, 114, 116, 121, 82, 101, 97, 100, 115, 79, 110, 108, 121, 84,
  104, 101, 78, 97, 109, 101, 100, 70, 105, 101, 108, 100, 32, 101, 120, 97, 109, 112, 108, 101, 46, 99, 111, 109, 47, 116, 117, 111, 103, 117, 97, 110, 47, 116, 117, 111, 103, 117, 97, 110,
  47, 122, 122, 108, 97, 119, 115, 95, 105, 110, 116, 101, 114, 110, 97, 108, 95, 98, 111, 111, 107, 95, 98, 49, 46, 70, 110, 80, 97, 114, 116, 121, 83, 97, 109, 101, 77, 97, 110, 97,
  103, 101, 114, 77, 97, 116, 99, 104, 101, 115, 77, 97, 110, 97, 103, 101, 114, 70, 97, 109, 105, 108, 121, 32, 101, 120, 97, 109, 112, 108, 101, 46, 99, 111, 109, 47, 116, 117, 111, 103,
  117, 97, 110, 47, 116, 117, 111, 103, 117, 97, 110, 47, 122, 122, 108, 97, 119, 115, 95, 105, 110, 116, 101, 114, 110, 97, 108, 95, 98, 111, 111, 107, 95, 98, 49, 46, 70, 110, 83, 107,
  105, 112, 83, 112, 97, 99, 101, 83, 116, 111, 112, 115, 65, 116, 70, 105, 114, 115, 116, 78, 111, 110, 83, 112, 97, 99, 101, 32, 101, 120, 97, 109, 112, 108, 101, 46, 99, 111, 109, 47,
  116, 117, 111, 103, 117, 97, 110, 47, 116, 117, 111, 103, 117, 97, 110, 47, 122, 122, 108, 97, 119, 115, 95, 105, 110, 116, 101, 114, 110, 97, 108, 95, 98, 111, 111, 107, 95, 98, 49, 46,
  70, 110, 83, 107, 105, 112, 83, 112, 97, 99, 101, 77, 111, 110, 111, 116, 111, 110, 101, 65, 110, 100, 73, 100, 101, 109, 112, 111, 116, 101, 110, 116, 32, 101, 120, 97, 109, 112, 108, 101,
  46, 99, 111, 109, 47, 116, 117, 111, 103, 117, 97, 110, 47, 116, 117, 111, 103, 117, 97, 110, 47, 122, 122, 108, 97, 119, 115, 95, 105, 110, 116, 101, 114, 110, 97, 108, 95, 98, 111, 111,
  107, 95, 98, 49, 46, 70, 110, 83, 107, 105, 112, 83, 112, 97, 99, 101, 83, 112, 108, 105, 116, 115, 79, 118, 101, 114, 67, 111, 110, 99, 97, 116, 101, 110, 97, 116, 105, 111, 110, 32,
  101, 120, 97, 109, 112, 108, 101, 46, 99, 111, 109, 47, 116, 117, 111, 103, 117, 97, 110, 47, 116, 117, 111, 103, 117, 97, 110, 47, 122, 122, 108, 97, 119, 115, 95, 105, 110, 116, 101, 114,
  110, 97, 108, 95, 98, 111, 111, 107, 95, 98, 49, 46, 70, 110, 70, 97, 109, 105, 108, 121, 73, 100, 101, 109, 112, 111, 116, 101, 110, 116, 75, 101, 101, 112, 115, 77, 97, 110, 97, 103,
  101, 114, 32, 101, 120, 97, 109, 112, 108, 101, 46, 99, 111, 109, 47, 116, 117, 111, 103, 117, 97, 110, 47, 116, 117, 111, 103, 117, 97, 110, 47, 122, 122, 108, 97, 119, 115, 95, 105, 110,
  116, 101, 114, 110, 97, 108, 95, 98, 111, 111, 107, 95, 98, 49, 46, 70, 110, 70, 97, 109, 105, 108, 121, 70, 105, 110, 101, 114, 84, 104, 97, 110, 77, 97, 110, 97, 103, 101, 114, 70,
  97, 109, 105, 108, 121, 32, 101, 120, 97, 109, 112, 108, 101, 46, 99, 111, 109, 47, 116, 117, 111, 103, 117, 97, 110, 47, 116, 117, 111, 103, 117, 97, 110, 47, 122, 122, 108, 97, 119, 115,
  95, 105, 110, 116, 101, 114, 110, 97, 108, 95, 98, 111, 111, 107, 95, 98, 49, 46, 70, 110, 70, 97, 109, 105, 108, 121, 65, 103, 114, 101, 101, 115, 87, 105, 116, 104, 80, 97, 114, 116,
  105, 101, 115, 84, 101, 120, 116]
theorem head_is : Trym.pinned.checked.prog.initOrder = String.ofList (headCodes.map Char.ofNat) := by kernel_rfl
theorem head_list : Trym.pinned.checked.prog.initOrder.toList = headCodes.map Char.ofNat := by rw [head_is, String.toList_ofList]
theorem head_words : behindMainWord (wordsSigns Trym.pinned.checked.prog.initOrder.toList) = "publicsums".toList :: "cut".toList :: (behindMainWord (wordsSigns (headCodes.map Char.ofNat))).drop 2 := by
  rw [head_list]
  kernel_rfl
theorem head_mayEnter : Trym.pinned.checked.prog.mayEnter = true := mayEnter_of _ _ head_words (by kernel_rfl) (by kernel_rfl) (by kernel_rfl)
theorem head_liftsFinal : Trym.pinned.checked.prog.liftsFinal = false := liftsFinal_of _ _ head_words
theorem head_make : Trym.pinned.checked.prog.make = some (.lifted ["publicsums"]) := make_of _ _ head_words
end Go.Proofs.Qxb6000911aMods
