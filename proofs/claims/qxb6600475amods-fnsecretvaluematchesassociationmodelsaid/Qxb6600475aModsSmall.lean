/- zzMin (22), zzAddLen (25), zzLastIndex (21), zzBytesEqual (12), zzBytesEqualString (23): their contracts. -/
import Derived.Test.Qxb6600475aModsRows
import Derived.Test.Qxb6600475aModsPlain
import Derived.WalkSpells
import Derived.WalkSmall
import Derived.Deep.QuietTactic
import Derived.BigQuiet
namespace Go.Proofs.Qxb6600475aMods
open Go.ChangeShapes Go.WideShapes Go.ChangeAt Go.RowKit

theorem min22 (a b : Nat) (w : World) : Calls Trym.prog 22 #[.int .i64 a, .int .i64 b] w fun e w' => e = .returned (.int .i64 ((min a b : Nat) : Int)) ∧ w' = w := by
  by_cases h : a < b
  · go_enter Trym.func22, Trym.ntmps22
    go_wp2
    go_ret
    exact ⟨ret_int (by omega), rfl⟩
  · go_enter Trym.func22, Trym.ntmps22
    go_wp2
    go_ret
    exact ⟨ret_int (by omega), rfl⟩

/-- What zzAddLen answers. -/
def addLen (t n : Int) : Int := if t > 1048576 ∨ n > 1048576 ∨ t < 0 ∨ n < 0 ∨ t + n > 1048576 then 1048577 else t + n
theorem addLen_bd (t n : Int) : 0 ≤ addLen t n ∧ addLen t n ≤ 1048577 := by unfold addLen; split <;> omega
theorem add25 (t n : Int) (w : World) : Calls Trym.prog 25 #[.int .i64 t, .int .i64 n] w fun e w' => e = .returned (.int .i64 (addLen t n)) ∧ w' = w := by
  by_cases h1 : 1048576 < t
  · go_enter Trym.func25, Trym.ntmps25
    go_wp2
    go_ret
    exact ⟨ret_int (by unfold addLen; rw [if_pos (by omega)]), rfl⟩
  by_cases h2 : 1048576 < n
  · go_enter Trym.func25, Trym.ntmps25
    go_wp2
    go_ret
    exact ⟨ret_int (by unfold addLen; rw [if_pos (by omega)]), rfl⟩
  by_cases h3 : t < 0
  · go_enter Trym.func25, Trym.ntmps25
    go_wp2
    go_ret
    exact ⟨ret_int (by unfold addLen; rw [if_pos (by omega)]), rfl⟩
  by_cases h4 : n < 0
  · go_enter Trym.func25, Trym.ntmps25
    go_wp2
    go_ret
    exact ⟨ret_int (by unfold addLen; rw [if_pos (by omega)]), rfl⟩
  by_cases h5 : 1048576 < t + n
  · go_enter Trym.func25, Trym.ntmps25
    go_wp2
    go_ret
    exact ⟨ret_int (by unfold addLen; rw [if_pos (by omega)]), rfl⟩
  · go_enter Trym.func25, Trym.ntmps25
    go_wp2
    go_ret
    exact ⟨ret_int (by unfold addLen; rw [if_neg (by omega)]), rfl⟩

theorem last21 (a : Option Addr) (len cap n : Nat) (ss : Nat → ByteArray) (key : ByteArray) (w : World) (h : StrsAt w a len ss) (hn : n ≤ len) (hl : n ≤ 1048576) :
    Calls Trym.prog 21 #[.slice a len cap, .int .i64 n, .string key] w fun e w' => e = .returned (.int .i64 (lastIdx ss key n)) ∧ w' = w := by
  go_enter Trym.func21, Trym.ntmps21
  go_wp2
  go_loop [7, 8] (fun t i => ∃ k : Nat, k ≤ n ∧ i = .int .i64 k ∧ t = .int .i64 (lastIdx ss key k)) (fun _ i => n - (intOf i).toNat)
  case atStart => exact ⟨0, Nat.zero_le _, rfl, rfl⟩
  case round =>
    obtain ⟨k, hk, rfl, rfl⟩ := hrel
    by_cases hlt : k < n
    · rcases h with h | ⟨b, off, rfl, hb, hc⟩
      · omega
      have hck := hc k (by omega)
      have hkl : (k : Int) < (len : Int) := by omega
      clear hc
      cases hit : ((ss k).toList == key.toList)
      · go_wp2
        go_round
        case rel => exact ⟨k + 1, by omega, by go_num, int_eq (lastIdx_miss _ _ _ hit).symm⟩
        case measure => simp [intOf]; omega
      · go_wp2
        go_round
        case rel => exact ⟨k + 1, by omega, by go_num, int_eq (lastIdx_hit _ _ _ hit).symm⟩
        case measure => simp [intOf]; omega
    · obtain rfl : k = n := by omega
      go_wp2
      go_ret
      exact ⟨rfl, rfl⟩

/-- A slice of bytes equals itself. -/
theorem same12 (a : Option Addr) (L C B : Nat) (w : World) (h : Bs w B a L C) (hl : L ≤ 1048576) :
    Calls Trym.prog 12 #[.slice a L C, .slice a L C] w fun e w' => e = .returned (.bool true) ∧ Below w.heap.size w w' := by
  go_enter Trym.func12, Trym.ntmps12
  go_wp2
  go_loopw [5] (fun i wr => ∃ k : Nat, k ≤ L ∧ i = .int .i64 k ∧ Below w.heap.size w wr) (fun i _ => L - (intOf i).toNat)
  case atStart => exact ⟨0, Nat.zero_le _, rfl, Below.refl _ _⟩
  case round =>
    obtain ⟨k, hk, rfl, hbw⟩ := hrel
    by_cases hlt : k < L
    · rcases h.2 with h | ⟨b, off, zs, rfl, hB, hb, hc⟩
      · omega
      have hck : wr.cell? ⟨b, off + k, none⟩ = some (.int .u8 (zs k)) := (hbw.cell (p := ⟨b, off + k, none⟩) hb).trans (hc k hlt)
      have hk0 : (0 : Int) ≤ (k : Int) := Int.natCast_nonneg _
      have hk1 : (k : Int) < (L : Int) := by omega
      clear hc h
      go_wp2_with fail
      go_quiet (fail)
      go_wp2
      go_roundw
      case rel => exact ⟨k + 1, by omega, by go_num, below_drewN hbw _⟩
      case measure => simp [intOf]; omega
    · clear h
      go_wp2
      go_ret
      exact ⟨rfl, hbw⟩

/-- A slice that holds a string's bytes equals the string. -/
theorem text23 (g C : Nat) (s : ByteArray) (w : World) (hg : g < w.heap.size) (hc : ∀ j (hj : j < s.size), w.cell? ⟨g, j, none⟩ = some (.int .u8 (s[j].toNat : Int))) (hl : s.size ≤ 1048576) :
    Calls Trym.prog 23 #[.slice (some ⟨g, 0, none⟩) s.size C, .string s] w fun e w' => e = .returned (.bool true) ∧ Below w.heap.size w w' := by
  go_enter Trym.func23, Trym.ntmps23
  go_wp2
  go_loopw [5] (fun i wr => ∃ k : Nat, k ≤ s.size ∧ i = .int .i64 k ∧ Below w.heap.size w wr) (fun i _ => s.size - (intOf i).toNat)
  case atStart => exact ⟨0, Nat.zero_le _, rfl, Below.refl _ _⟩
  case round =>
    obtain ⟨k, hk, rfl, hbw⟩ := hrel
    by_cases hlt : k < s.size
    · have hck : wr.cell? ⟨g, k, none⟩ = some (.int .u8 (s[k].toNat : Int)) := (hbw.cell (p := ⟨g, k, none⟩) hg).trans (hc k hlt)
      have hk0 : (0 : Int) ≤ (k : Int) := Int.natCast_nonneg _
      have hk1 : (k : Int) < (s.size : Int) := by omega
      clear hc
      go_wp2_with fail
      go_quiet (fail)
      go_wp2
      go_roundw
      case rel => exact ⟨k + 1, by omega, by go_num, below_drewN hbw _⟩
      case measure => simp [intOf]; omega
    · clear hc
      go_wp2
      go_ret
      exact ⟨rfl, hbw⟩
end Go.Proofs.Qxb6600475aMods
