/- The given shell for FnAllocatedStrictlyIncreasingOverheadNondecreasing (4), its hole filled by hand. -/
import Derived.Test.Qxb6001544aModsRows
import Derived.WalkKit
import Derived.ProofKit
import Derived.OpenShut
import Derived.ShutString
namespace Go.Proofs.Qxb6001544aMods.fnAllocatedStrictlyIncreasingOverheadNondecreasing
open Go.ChangeShapes Go.WideShapes Go.ChangeAt Go.RowKit
open Go.ChangeMaps (open_string shut_string)
set_option linter.unusedVariables false      -- a walk need not use every 'w<i>' (that an integer argument fits its kind)

theorem own : ownKnob Trym.prog.godebug = none := by kernel_rfl

theorem ret_true {p : Prop} [Decidable p] (h : p) : Ending.returned (.bool (decide p)) = .returned (.bool true) := by rw [decide_eq_true h]
/-! ### WHAT 'allocated' ANSWERS, AS A PLAIN FUNCTION -/
def al (n : Int) : Int := if n = 0 then 0 else if n ≤ 32768 then n + n / 8 + 16 else n + 8192
theorem al_bd (n : Int) (h : 0 ≤ n) : n ≤ al n ∧ al n ≤ n + 8192 := by unfold al; split <;> (try split) <;> omega
theorem al_mono (a b : Int) (h : 0 ≤ a) (hab : a ≤ b) : al a - a ≤ al b - b := by
  unfold al
  repeat' split
  all_goals omega
theorem al_lt (a b : Int) (h : 0 ≤ a) (hab : a < b) : al a < al b := by have := al_mono a b h (by omega); omega
theorem ret_int {k : IntKind} {a b : Int} (h : a = b) : Ending.returned (.int k a) = .returned (.int k b) := by rw [h]
/-- 'ZZallocated' (and through her 'allocated') answers 'al n' and turns nothing. -/
theorem al_any (n : Int) (h0 : 0 ≤ n) (h1 : n ≤ 9223372036854767615) (w : World) :
    Calls Trym.prog 5 #[.int .i64 n] w fun e w' => e = .returned (.int .i64 (al n)) ∧ w' = w := by
  by_cases h2 : n = 0
  · subst h2
    go_enter Trym.func5, Trym.ntmps5
    go_wp2
    go_ret
    exact ⟨ret_int (by simp [al]), rfl⟩
  · have h2' : (n == 0) = false := by simpa using h2
    by_cases h3 : n ≤ 32768
    · go_enter Trym.func5, Trym.ntmps5
      go_wp2
      go_ret
      exact ⟨ret_int (by unfold al; rw [if_neg h2, if_pos h3]), rfl⟩
    · go_enter Trym.func5, Trym.ntmps5
      go_wp2
      go_ret
      exact ⟨ret_int (by unfold al; rw [if_neg h2, if_neg (by omega)]), rfl⟩

/-! ### STEP 1: THE WALK: the Go text returns true. 'Grown w w'': the world has at most new blocks (Derived/RowKit3.lean). Part the cases AHEAD of 'go_enter' where a test parts the walk; take each callee by a contract of your own. -/
theorem walk (a0 : Int) (a1 : Int) (w0 : (Lit.int .i64 a0).wf = true) (w1 : (Lit.int .i64 a1).wf = true) (w : World) :
    Calls Trym.prog 4 #[.int .i64 a0, .int .i64 a1] w fun e w' => e = .returned (.bool true) ∧ Grown w w' := by
  have hb := bounds_i64 w0
  have hb' := bounds_i64 w1
  by_cases h0 : a0 < 0
  · go_enter Trym.func4, Trym.ntmps4
    go_wp2
    go_ret
    exact ⟨rfl, by repeat (first | exact Grown.refl _ | apply Grown.drew | apply Grown.alloc)⟩
  · by_cases h1 : 9223372036854767615 < a0
    · go_enter Trym.func4, Trym.ntmps4
      go_wp2
      go_ret
      exact ⟨rfl, by repeat (first | exact Grown.refl _ | apply Grown.drew | apply Grown.alloc)⟩
    · by_cases h2 : a1 < 0
      · go_enter Trym.func4, Trym.ntmps4
        go_wp2
        go_ret
        exact ⟨rfl, by repeat (first | exact Grown.refl _ | apply Grown.drew | apply Grown.alloc)⟩
      · by_cases h3 : 9223372036854767615 < a1
        · go_enter Trym.func4, Trym.ntmps4
          go_wp2
          go_ret
          exact ⟨rfl, by repeat (first | exact Grown.refl _ | apply Grown.drew | apply Grown.alloc)⟩
        · have f0 := al_bd a0 (by omega)
          have f1 := al_bd a1 (by omega)
          by_cases h4 : a1 < a0
          · have g0 := al_mono a1 a0 (by omega) (by omega)
            have g1 := al_lt a1 a0 (by omega) (by omega)
            go_enter Trym.func4, Trym.ntmps4
            go_wp2_with (go_at_call 5; refine (al_any _ (by omega) (by omega) _).mono ?_; rintro e w' ⟨rfl, rfl⟩)
            go_ret
            exact ⟨by first | rfl | exact ret_true (by omega), by repeat (first | exact Grown.refl _ | apply Grown.drew | apply Grown.alloc)⟩
          · by_cases h5 : a0 < a1
            · have g0 := al_mono a0 a1 (by omega) (by omega)
              have g1 := al_lt a0 a1 (by omega) (by omega)
              go_enter Trym.func4, Trym.ntmps4
              go_wp2_with (go_at_call 5; refine (al_any _ (by omega) (by omega) _).mono ?_; rintro e w' ⟨rfl, rfl⟩)
              go_ret
              exact ⟨by first | rfl | exact ret_true (by omega), by repeat (first | exact Grown.refl _ | apply Grown.drew | apply Grown.alloc)⟩
            · have g0 := al_mono a0 a1 (by omega) (by omega)
              go_enter Trym.func4, Trym.ntmps4
              go_wp2_with (go_at_call 5; refine (al_any _ (by omega) (by omega) _).mono ?_; rintro e w' ⟨rfl, rfl⟩)
              go_ret
              exact ⟨by first | rfl | exact ret_true (by omega), by repeat (first | exact Grown.refl _ | apply Grown.drew | apply Grown.alloc)⟩

/-! ### THE ROW's STEP: WRITTEN OUT: LEAVE IT -/
set_option maxRecDepth 100000 in
theorem lifted (os : Os) (started : os.Started) (H : Type) (enc : TypeId × Value → H) :
    ReturnsInHanded {} Trym.checked os 4 .any (Rows.fnAllocatedStrictlyIncreasingOverheadNondecreasingSpec.pre6 enc Trym.prog Trym.f4 Rows.fnAllocatedStrictlyIncreasingOverheadNondecreasingRow.domain false) (Rows.fnAllocatedStrictlyIncreasingOverheadNondecreasingSpec.post enc Trym.prog Trym.f4 false true false false) := by
  refine returnsInHanded_of_change (C := Trym.checked) own started (by kernel_rfl) Trym.func4
    (ChangeSpec.witness6 (enc := enc) (C := Trym.checked) false ⟨#[], #[.int .i64 0, .int .i64 0], []⟩ 8 (by kernel_rfl) (by kernel_rfl) (by kernel_rfl) (by kernel_rfl)) ?_
  intro W base args ds gs before hval0 hW hcnd _
  have hval : ∀ (j : Nat) t v, Trym.f4.params[j]? = some t → args[j]? = some v → Value.okWide Trym.prog W .any base t v := hval0
  have hW' := hW
  obtain ⟨p, q, hA0, hV, rfl, hfz, hnd⟩ := hW
  have hA : DataW.TrodAll enc Trym.prog W 0 (fun _ => true) true Trym.f4.params.toList args.toList ds p := hA0
  rw [Trym.params4] at hA hval
  obtain ⟨v0, vs0, d0, ds0, p0, q0, hargs, rfl, rfl, h0, r0⟩ := trodAll_cons hA
  obtain ⟨v1, vs1, d1, ds1, p1, q1, rfl, rfl, rfl, h1, r1⟩ := trodAll_cons r0
  obtain ⟨rfl, rfl, rfl⟩ := trodAll_nil r1
  obtain rfl : args = #[v0, v1] := by cases args; simp_all
  obtain ⟨rfl, rfl⟩ := trodVars_none hV
  obtain ⟨a0, rfl, rfl, rfl, w0⟩ := open_int Trym.underlying3 (hval 0 3 v0 rfl rfl) h0
  obtain ⟨a1, rfl, rfl, rfl, w1⟩ := open_int Trym.underlying3 (hval 1 3 v1 rfl rfl) h1
  clear hA0 hval0
  simp only [List.append_nil] at hW'
  refine (walk a0 a1 w0 w1 W).mono fun e W' ⟨he, hg⟩ => ?_
  subst he
  exact ⟨_, rfl, post_of_same (pa := []) (pv := []) hW' (fun _ _ _ => (trodAll_cons_mk (shut_bool Trym.underlying4 _) trodAll_mk0)) (fun sp _ => (trodAll_cons_mk (shut_int Trym.underlying3 w0) (trodAll_cons_mk (shut_int Trym.underlying3 w1) trodAll_mk0))) (fun _ _ => rfl) rfl
    (hg.frame _) hg.2.1 (ok_one (by kernel_rfl) rfl (okWide_bool_mk Trym.underlying4 _))⟩

theorem over : Rows.fnAllocatedStrictlyIncreasingOverheadNondecreasingRow.holds Trym.pinned (OpenSpec.ofChange Rows.fnAllocatedStrictlyIncreasingOverheadNondecreasingSpec) :=
  OpenClaim.holds_of_wide 4 Trym.f4 rfl rfl rfl rfl rfl rfl rfl ⟨rfl, rfl, rfl, rfl, rfl⟩ rfl rfl rfl rfl rfl (by kernel_rfl) Trym.func4 (by kernel_rfl)
    (of_decide_eq_true (by kernel_rfl)) (by unfold Func.isWrapper; first | (rw [if_pos (by decide +kernel)]; kernel_rfl) | (rw [if_neg (by decide +kernel)]; exact ⟨rfl, rfl⟩))
    (fun os started H enc _ => lifted os started H enc)

/-- ████ THE STATEMENT ████ -/
theorem proved : Rows.FnAllocatedStrictlyIncreasingOverheadNondecreasingSaid :=
  over
#print axioms proved
end Go.Proofs.Qxb6001544aMods.fnAllocatedStrictlyIncreasingOverheadNondecreasing
