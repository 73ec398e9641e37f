/- 'trace.count' (12), ZZCount (8), b1PointN (9): their contracts. -/
import Derived.Test.Qxb6600301aModsRows
import Derived.Test.Qxb6600301aModsPlain
namespace Go.Proofs.Qxb6600301aMods
open Go.ChangeShapes Go.WideShapes Go.ChangeAt Go.RowKit

theorem count12_none (a : Option Addr) (cap : Nat) (name : ByteArray) (w : World) :
    Calls Trym.prog 12 #[.slice a 0 cap, .string name] w fun e w' => e = .returned (.int .i64 0) ∧ w' = w := by
  go_enter Trym.func12, Trym.ntmps12
  go_wp2
  go_loop [5, 10] (fun c i => c = .int .i64 0 ∧ i = .int .i64 0) (fun _ _ => 0)
  case atStart => exact ⟨rfl, rfl⟩
  case round =>
    obtain ⟨rfl, rfl⟩ := hrel
    go_wp2
    go_ret
    exact ⟨rfl, rfl⟩
set_option maxHeartbeats 400000 in
theorem count12_some (g n cap : Nat) (ss : Nat → ByteArray) (zs : Nat → Int) (name : ByteArray) (w : World) (hn : n ≤ 1048576) (hg : g < w.heap.size)
    (hc0 : ∀ k, k < n → w.cell? ⟨g, k * 2, none⟩ = some (.string (ss k))) (hc1 : ∀ k, k < n → w.cell? ⟨g, k * 2 + 1, none⟩ = some (.int .i64 (zs k))) :
    Calls Trym.prog 12 #[.slice (some ⟨g, 0, none⟩) n cap, .string name] w fun e w' => e = .returned (.int .i64 (cnt ss name n)) ∧ Below w.heap.size w w' := by
  go_enter Trym.func12, Trym.ntmps12
  go_wp2
  go_loopw [5, 10] (fun c i wr => ∃ k : Nat, k ≤ n ∧ i = .int .i64 k ∧ c = .int .i64 (cnt ss name k) ∧ Below w.heap.size w wr) (fun _ i _ => n - (intOf i).toNat)
  case atStart => exact ⟨0, Nat.zero_le _, rfl, rfl, Below.refl _ _⟩
  case round =>
    obtain ⟨k, hk, rfl, rfl, hnx⟩ := hrel
    have hcl := cnt_le ss name k
    by_cases hlt : k < n
    · have e0 : wr.cell? ⟨g, k * 2, none⟩ = some (.string (ss k)) := (hnx.cell (p := ⟨g, k * 2, none⟩) hg).trans (hc0 k hlt)
      have e1 : wr.cell? ⟨g, k * 2 + 1, none⟩ = some (.int .i64 (zs k)) := (hnx.cell (p := ⟨g, k * 2 + 1, none⟩) hg).trans (hc1 k hlt)
      have hsz := hnx.size
      have hgw : g < wr.heap.size := by omega
      clear hc0 hc1
      go_wp2
      · have hit : ((ss k).toList == name.toList) = true := by assumption
        go_roundw
        case rel => exact ⟨k + 1, by omega, by go_num, int_eq (by rw [cnt_hit _ _ _ hit]; omega), hnx.alloc hsz _⟩
        case measure => simp [intOf]; omega
      · have miss : ((ss k).toList == name.toList) = false := by assumption
        go_roundw
        case rel => exact ⟨k + 1, by omega, by go_num, int_eq (by rw [cnt_miss _ _ _ miss]), hnx.alloc hsz _⟩
        case measure => simp [intOf]; omega
    · have hk' : k = n := by omega
      subst hk'
      go_wp2
      go_ret
      exact ⟨rfl, hnx⟩
theorem zzcount8_none (a : Option Addr) (cap : Nat) (name : ByteArray) (w : World) :
    Calls Trym.prog 8 #[.slice a 0 cap, .string name] w fun e w' => e = .returned (.int .i64 0) ∧ w' = w := by
  go_enter Trym.func8, Trym.ntmps8
  go_wp2_with (go_at_call 12; refine (count12_none _ _ _ _).mono ?_; rintro e w' ⟨rfl, rfl⟩)
  go_ret
  exact ⟨rfl, rfl⟩
theorem zzcount8_some (g n cap : Nat) (ss : Nat → ByteArray) (zs : Nat → Int) (name : ByteArray) (w : World) (hn : n ≤ 1048576) (hg : g < w.heap.size)
    (hc0 : ∀ k, k < n → w.cell? ⟨g, k * 2, none⟩ = some (.string (ss k))) (hc1 : ∀ k, k < n → w.cell? ⟨g, k * 2 + 1, none⟩ = some (.int .i64 (zs k))) :
    Calls Trym.prog 8 #[.slice (some ⟨g, 0, none⟩) n cap, .string name] w fun e w' => e = .returned (.int .i64 (cnt ss name n)) ∧ Below w.heap.size w w' := by
  have H := count12_some g n cap ss zs name w hn hg hc0 hc1
  have HH : Hid (Calls Trym.prog 12 #[.slice (some ⟨g, 0, none⟩) n cap, .string name] w fun e w' => e = .returned (.int .i64 (cnt ss name n)) ∧ Below w.heap.size w w') := H
  clear H hc0 hc1
  go_enter Trym.func8, Trym.ntmps8
  go_wp2_with (go_at_call 12; refine (HH.out).mono ?_; rintro e w' ⟨rfl, hb⟩)
  go_ret
  exact ⟨rfl, hb⟩
theorem point9 (a : Option Addr) (len cap : Nat) (zs : Nat → Int) (k : Nat) (w : World) (h : IntsAt w a len zs) :
    Calls Trym.prog 9 #[.slice a len cap, .int .i64 k] w fun e w' => e = .returned (.int .i64 (pt zs len k)) ∧ w' = w := by
  by_cases hlt : k < len
  · rcases h with h | ⟨b, off, rfl, hb, hc⟩
    · omega
    · have hck := hc k hlt
      clear hc
      go_enter Trym.func9, Trym.ntmps9
      go_wp2
      go_ret
      exact ⟨ret_int (by unfold pt; rw [if_pos hlt]), rfl⟩
  · clear h
    go_enter Trym.func9, Trym.ntmps9
    go_wp2
    go_ret
    exact ⟨ret_int (by unfold pt; rw [if_neg (by omega)]), rfl⟩
end Go.Proofs.Qxb6600301aMods
