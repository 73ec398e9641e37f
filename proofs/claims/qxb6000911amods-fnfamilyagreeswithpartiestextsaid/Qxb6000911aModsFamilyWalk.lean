/- THE WALK of FnFamilyAgreesWithPartiesText (10): the hole of the given shell, filled by hand; the callees go by the contracts of Qxb6000911aModsWalks. -/
import Derived.Test.Qxb6000911aModsWalks
import Derived.WalkKit
import Derived.ProofKit
import Derived.OpenShut
import Derived.ShutString
namespace Go.Proofs.Qxb6000911aMods.fnFamilyAgreesWithPartiesText
open Go.ChangeShapes Go.WideShapes Go.ChangeAt Go.RowKit
open Go.ChangeMaps (open_string shut_string)
set_option linter.unusedVariables false      -- a walk need not use every 'w<i>' (that an integer argument fits its kind)


/-! ### STEP 1: THE WALK: the Go text returns true. 'Grown w w'': the world has at most new blocks (Derived/RowKit3.lean). Part the cases AHEAD of 'go_enter' where a test parts the walk; take each callee by a contract of your own. -/
theorem walk (a0 : ByteArray) (a1 : ByteArray) (a2 : ByteArray) (w0 : a0.size ≤ maxLen) (w1 : a1.size ≤ maxLen) (w2 : a2.size ≤ maxLen) (w : World) :
    Calls Trym.prog 10 #[.string a0, .string a1, .string a2] w fun e w' => e = .returned (.bool true) ∧ Grown w w' := by
  by_cases hs : a0.size + a1.size + a2.size ≤ 1048576
  · by_cases he : a2.toList.isEmpty = true
    · go_enter Trym.func10, Trym.ntmps10
      go_wp2_with (go_at_call 22; refine (gate22_yes _ _ _ hs _).mono ?_; rintro e w' ⟨rfl, rfl⟩)
      go_ret
      exact ⟨rfl, Grown.refl _⟩
    · have he' : a2.toList.isEmpty = false := by simpa using he
      clear he
      by_cases hm : (a0.toList == [109, 97, 110, 97, 103, 101, 114]) = true
      · go_enter Trym.func10, Trym.ntmps10
        go_wp2_with (first | (go_at_call 22; refine (gate22_yes _ _ _ hs _).mono ?_; rintro e w' ⟨rfl, rfl⟩) | (go_at_call 14; refine (family14_is _ _ _ hm _).mono ?_; rintro e w' ⟨rfl, rfl⟩) | (go_at_call 23; refine (parties23_is _ hm _).mono ?_; rintro e w' ⟨rfl, rfl⟩))
        go_ret
        exact ⟨rfl, by repeat (first | exact Grown.refl _ | apply grown_alloc2)⟩
      · have hm' : (a0.toList == [109, 97, 110, 97, 103, 101, 114]) = false := by simpa using hm
        clear hm
        go_enter Trym.func10, Trym.ntmps10
        go_wp2_with (first | (go_at_call 22; refine (gate22_yes _ _ _ hs _).mono ?_; rintro e w' ⟨rfl, rfl⟩) | (go_at_call 14; refine (family14_other _ _ _ hm' _).mono ?_; rintro e w' ⟨rfl, rfl⟩) | (go_at_call 23; refine (parties23_other _ hm' _).mono ?_; rintro e w' ⟨rfl, rfl⟩))
        go_ret
        exact ⟨rfl, by repeat (first | exact Grown.refl _ | apply grown_alloc2)⟩
  · have hs' : 1048576 < a0.size + a1.size + a2.size := by omega
    go_enter Trym.func10, Trym.ntmps10
    go_wp2_with (go_at_call 22; refine (gate22_no _ _ _ w0 w1 w2 hs' _).mono ?_; rintro e w' ⟨rfl, rfl⟩)
    go_ret
    exact ⟨rfl, Grown.refl _⟩

end Go.Proofs.Qxb6000911aMods.fnFamilyAgreesWithPartiesText
