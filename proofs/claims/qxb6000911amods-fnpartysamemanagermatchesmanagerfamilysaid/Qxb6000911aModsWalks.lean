/- The callees' contracts for the two laws of this seat: the length gates (13, 22), Party (12), Family (14), Parties (23). -/
import Derived.Test.Qxb6000911aModsRows
import Derived.WalkKit
import Derived.ProofKit
import Derived.Deep.QuietTactic
import Derived.BigQuiet
namespace Go.Proofs.Qxb6000911aMods
open Go.ChangeShapes Go.WideShapes Go.ChangeAt Go.RowKit

theorem grown_drewN {W w : World} (h : Grown W w) (n : Nat) : Grown W (w.drewN n) := h
theorem grown_alloc2 {W w : World} {c : Array Value} {t : TypeId} (h : Grown W w) : Grown W (w.alloc (.cells c t)) := h.alloc c t
theorem gate13_yes (a b c d : ByteArray) (h : a.size + b.size + c.size + d.size ≤ 1048576) (w : World) :
    Calls Trym.prog 13 #[.string a, .string b, .string c, .string d] w fun e w' => e = .returned (.bool true) ∧ w' = w := by
  go_enter Trym.func13, Trym.ntmps13
  go_wp2
  go_ret
  exact ⟨rfl, rfl⟩
theorem gate13_no (a b c d : ByteArray) (ha : a.size ≤ maxLen) (hb : b.size ≤ maxLen) (hc : c.size ≤ maxLen) (hd : d.size ≤ maxLen) (h : 1048576 < a.size + b.size + c.size + d.size) (w : World) :
    Calls Trym.prog 13 #[.string a, .string b, .string c, .string d] w fun e w' => e = .returned (.bool false) ∧ w' = w := by
  unfold maxLen at ha hb hc hd
  go_enter Trym.func13, Trym.ntmps13
  go_wp2
  all_goals
    go_ret
    exact ⟨rfl, rfl⟩
theorem gate22_yes (a b c : ByteArray) (h : a.size + b.size + c.size ≤ 1048576) (w : World) :
    Calls Trym.prog 22 #[.string a, .string b, .string c] w fun e w' => e = .returned (.bool true) ∧ w' = w := by
  go_enter Trym.func22, Trym.ntmps22
  go_wp2
  go_ret
  exact ⟨rfl, rfl⟩
theorem gate22_no (a b c : ByteArray) (ha : a.size ≤ maxLen) (hb : b.size ≤ maxLen) (hc : c.size ≤ maxLen) (h : 1048576 < a.size + b.size + c.size) (w : World) :
    Calls Trym.prog 22 #[.string a, .string b, .string c] w fun e w' => e = .returned (.bool false) ∧ w' = w := by
  unfold maxLen at ha hb hc
  go_enter Trym.func22, Trym.ntmps22
  go_wp2
  all_goals
    go_ret
    exact ⟨rfl, rfl⟩
theorem party12 (m c : ByteArray) (w : World) :
    Calls Trym.prog 12 #[.string ⟨#[115, 97, 109, 101, 45, 109, 97, 110, 97, 103, 101, 114]⟩, .agg #[.string m, .string c]] w fun e w' => e = .returned (.tuple #[.string ⟨#[109, 97, 110, 97, 103, 101, 114]⟩, .string m]) ∧ ∃ n, w' = (w.alloc (.cells #[.string m, .string c] 24)).drewN n := by
  go_enter Trym.func12, Trym.ntmps12
  go_wp2
  go_quiet (fail)
  go_wp2
  go_ret2
  exact ⟨rfl, _, rfl⟩
theorem family14_mgr (m c : ByteArray) (w : World) :
    Calls Trym.prog 14 #[.string ⟨#[109, 97, 110, 97, 103, 101, 114]⟩, .agg #[.string m, .string c]] w fun e w' => e = .returned (.agg #[.string m, .string ⟨#[]⟩]) ∧ w' = (w.alloc (.cells #[.string m, .string c] 24)).alloc (.cells #[.string m, .string ⟨#[]⟩] 24) := by
  go_enter Trym.func14, Trym.ntmps14
  go_wp2
  exact bodyPost_ret (v := .agg #[.string m, .string ⟨#[]⟩]) (by simp [results, Trym.results14, go_sem]) rfl ⟨rfl, rfl⟩
theorem family14_other (a m c : ByteArray) (h : (a.toList == [109, 97, 110, 97, 103, 101, 114]) = false) (w : World) :
    Calls Trym.prog 14 #[.string a, .agg #[.string m, .string c]] w fun e w' => e = .returned (.agg #[.string m, .string c]) ∧ w' = (w.alloc (.cells #[.string m, .string c] 24)).alloc (.cells #[.string m, .string c] 24) := by
  go_enter Trym.func14, Trym.ntmps14
  go_wp2
  exact bodyPost_ret (v := .agg #[.string m, .string c]) (by simp [results, Trym.results14, go_sem]) rfl ⟨rfl, rfl⟩
theorem family14_is (a m c : ByteArray) (h : (a.toList == [109, 97, 110, 97, 103, 101, 114]) = true) (w : World) :
    Calls Trym.prog 14 #[.string a, .agg #[.string m, .string c]] w fun e w' => e = .returned (.agg #[.string m, .string ⟨#[]⟩]) ∧ w' = (w.alloc (.cells #[.string m, .string c] 24)).alloc (.cells #[.string m, .string ⟨#[]⟩] 24) := by
  go_enter Trym.func14, Trym.ntmps14
  go_wp2
  exact bodyPost_ret (v := .agg #[.string m, .string ⟨#[]⟩]) (by simp [results, Trym.results14, go_sem]) rfl ⟨rfl, rfl⟩
theorem parties23_is (a : ByteArray) (h : (a.toList == [109, 97, 110, 97, 103, 101, 114]) = true) (w : World) :
    Calls Trym.prog 23 #[.string a] w fun e w' => e = .returned (.string ⟨#[109, 97, 110, 97, 103, 101, 114]⟩) ∧ w' = w := by
  go_enter Trym.func23, Trym.ntmps23
  go_wp2
  go_ret
  exact ⟨rfl, rfl⟩
theorem parties23_other (a : ByteArray) (h : (a.toList == [109, 97, 110, 97, 103, 101, 114]) = false) (w : World) :
    Calls Trym.prog 23 #[.string a] w fun e w' => e = .returned (.string ⟨#[109, 97, 110, 97, 103, 101, 114, 32, 97, 110, 100, 32, 99, 117, 115, 116, 111, 100, 105, 97, 110]⟩) ∧ w' = w := by
  go_enter Trym.func23, Trym.ntmps23
  go_wp2
  go_ret
  exact ⟨rfl, rfl⟩
end Go.Proofs.Qxb6000911aMods
