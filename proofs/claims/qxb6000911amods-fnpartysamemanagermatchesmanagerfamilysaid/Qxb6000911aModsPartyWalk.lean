/- THE WALK of FnPartySameManagerMatchesManagerFamily (4): the hole of the given shell, filled by hand; the callees go by the contracts of Qxb6000911aModsWalks. -/
import Derived.Test.Qxb6000911aModsWalks
import Derived.WalkKit
import Derived.ProofKit
import Derived.OpenShut
import Derived.ShutString
namespace Go.Proofs.Qxb6000911aMods.fnPartySameManagerMatchesManagerFamily
open Go.ChangeShapes Go.WideShapes Go.ChangeAt Go.RowKit
open Go.ChangeMaps (open_string shut_string)
set_option linter.unusedVariables false      -- a walk need not use every 'w<i>' (that an integer argument fits its kind)


/-! ### STEP 1: THE WALK: the Go text returns true. 'Grown w w'': the world has at most new blocks (Derived/RowKit3.lean). Part the cases AHEAD of 'go_enter' where a test parts the walk; take each callee by a contract of your own. -/
theorem walk (a0 : ByteArray) (a1 : ByteArray) (a2 : ByteArray) (a3 : ByteArray) (w0 : a0.size ≤ maxLen) (w1 : a1.size ≤ maxLen) (w2 : a2.size ≤ maxLen) (w3 : a3.size ≤ maxLen) (w : World) :
    Calls Trym.prog 4 #[.string a0, .string a1, .string a2, .string a3] w fun e w' => e = .returned (.bool true) ∧ Grown w w' := by
  by_cases hs : a0.size + a1.size + a2.size + a3.size ≤ 1048576
  · by_cases he : (a0.toList == a2.toList) = true
    · go_enter Trym.func4, Trym.ntmps4
      go_wp2_with (first | (go_at_call 13; refine (gate13_yes _ _ _ _ hs _).mono ?_; rintro e w' ⟨rfl, rfl⟩) | (go_at_call 12; refine (party12 _ _ _).mono ?_; rintro e w' ⟨rfl, n, rfl⟩) | (go_at_call 14; refine (family14_mgr _ _ _).mono ?_; rintro e w' ⟨rfl, rfl⟩))
      go_ret
      exact ⟨rfl, grown_alloc2 (grown_alloc2 (grown_alloc2 (grown_alloc2 (grown_alloc2 (grown_alloc2 (grown_drewN (grown_alloc2 (grown_drewN (grown_alloc2 (grown_alloc2 (grown_alloc2 (Grown.refl _)))) _)) _))))))⟩
    · have he' : (a0.toList == a2.toList) = false := by simpa using he
      clear he
      go_enter Trym.func4, Trym.ntmps4
      go_wp2_with (first | (go_at_call 13; refine (gate13_yes _ _ _ _ hs _).mono ?_; rintro e w' ⟨rfl, rfl⟩) | (go_at_call 12; refine (party12 _ _ _).mono ?_; rintro e w' ⟨rfl, n, rfl⟩) | (go_at_call 14; refine (family14_mgr _ _ _).mono ?_; rintro e w' ⟨rfl, rfl⟩))
      go_ret
      exact ⟨rfl, grown_alloc2 (grown_alloc2 (grown_alloc2 (grown_alloc2 (grown_alloc2 (grown_alloc2 (grown_drewN (grown_alloc2 (grown_drewN (grown_alloc2 (grown_alloc2 (grown_alloc2 (Grown.refl _)))) _)) _))))))⟩
  · have hs' : 1048576 < a0.size + a1.size + a2.size + a3.size := by omega
    go_enter Trym.func4, Trym.ntmps4
    go_wp2_with (go_at_call 13; refine (gate13_no _ _ _ _ w0 w1 w2 w3 hs' _).mono ?_; rintro e w' ⟨rfl, rfl⟩)
    go_ret
    exact ⟨rfl, Grown.refl _⟩

end Go.Proofs.Qxb6000911aMods.fnPartySameManagerMatchesManagerFamily
