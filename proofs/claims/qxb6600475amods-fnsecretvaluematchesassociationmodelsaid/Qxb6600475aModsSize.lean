/- zzSecretSize (16): it returns some number and writes nothing that was there. -/
import Derived.Test.Qxb6600475aModsSmall
namespace Go.Proofs.Qxb6600475aMods
open Go.ChangeShapes Go.WideShapes Go.ChangeAt Go.RowKit

def SizeEnd (w : World) (e : Ending) (w' : World) : Prop := ∃ r : Int, e = .returned (.int .i64 r) ∧ Below w.heap.size w w'

set_option maxRecDepth 100000 in
set_option maxHeartbeats 3200000 in
theorem size16 (a0 a1 a2 a3 : Option Addr) (len0 cap0 len1 cap1 len2 cap2 len3 cap3 : Nat) (ss0 : Nat → ByteArray) (A1 : Nat → Option Addr) (L1 C1 : Nat → Nat) (ss2 ss3 : Nat → ByteArray) (key : ByteArray) (w : World)
    (h0 : StrsAt w a0 len0 ss0) (h1 : RowsAt w a1 len1 A1 L1 C1) (h2 : StrsAt w a2 len2 ss2) (h3 : StrsAt w a3 len3 ss3) (l0 : len0 ≤ 1048576) (l1 : len1 ≤ 1048576) (l2 : len2 ≤ 1048576) (l3 : len3 ≤ 1048576) :
    Calls Trym.prog 16 #[.slice a0 len0 cap0, .slice a1 len1 cap1, .slice a2 len2 cap2, .slice a3 len3 cap3, .string key] w fun e w' => SizeEnd w e w' := by
  have b0 := addLen_bd 0 (key.size : Int)
  go_enter Trym.func16, Trym.ntmps16
  go_wp2_with (go_at_call 25; refine (add25 _ _ _).mono ?_; rintro e wx ⟨rfl, hw⟩; subst wx)
  go_loopw [11, 12] (fun c i wr => ∃ (k : Nat) (t : Int), k ≤ len0 ∧ i = .int .i64 k ∧ c = .int .i64 t ∧ 0 ≤ t ∧ t ≤ 1048577 ∧ Below w.heap.size w wr) (fun _ i _ => len0 - (intOf i).toNat)
  case atStart => exact ⟨0, _, Nat.zero_le _, rfl, rfl, by omega, by omega, Below.refl _ _⟩
  case round =>
    obtain ⟨k0, t0, hk0, rfl, rfl, hp0, hq0, hbw0⟩ := hrel
    by_cases hlt0 : k0 < len0
    · rcases h0 with h0' | ⟨b, off, rfl, hb, hc⟩
      · omega
      have hck : wr.cell? ⟨b, off + k0, none⟩ = some (.string (ss0 k0)) := (hbw0.cell (p := ⟨b, off + k0, none⟩) hb).trans (hc k0 hlt0)
      clear hc
      have b1 := addLen_bd t0 16
      have b2 := addLen_bd (addLen t0 16) (((ss0 k0).size : Nat) : Int)
      have hk0' : (0 : Int) ≤ (k0 : Int) := Int.natCast_nonneg _
      have hk1' : (k0 : Int) < (len0 : Int) := by omega
      go_wp2_with fail
      go_quiet ((go_at_call 25; exact Calls.quiet_of_same (add25 _ _ _)))
      go_wp2
      · go_ret
        exact ⟨_, rfl, below_drewN hbw0 _⟩
      · go_roundw
        case rel => exact ⟨k0 + 1, _, by omega, by go_num, rfl, by omega, by omega, below_drewN hbw0 _⟩
        case measure => simp [intOf]; omega
    · go_wp2
      go_loopw [11, 13] (fun c i wr => ∃ (k : Nat) (t : Int), k ≤ len1 ∧ i = .int .i64 k ∧ c = .int .i64 t ∧ 0 ≤ t ∧ t ≤ 1048577 ∧ Below w.heap.size w wr) (fun _ i _ => len1 - (intOf i).toNat)
      case atStart => exact ⟨0, _, Nat.zero_le _, rfl, rfl, by omega, by omega, hbw0⟩
      case round =>
        clear hbw0
        obtain ⟨k1, t1, hk1, rfl, rfl, hp1, hq1, hbw1⟩ := hrel
        by_cases hlt1 : k1 < len1
        · rcases h1 with h1' | ⟨b, off, rfl, hb, hc⟩
          · omega
          have hck : wr.cell? ⟨b, off + k1, none⟩ = some (.slice (A1 k1) (L1 k1) (C1 k1)) := (hbw1.cell (p := ⟨b, off + k1, none⟩) hb).trans (hc k1 hlt1).1
          clear hc
          have b1 := addLen_bd t1 24
          have b2 := addLen_bd (addLen t1 24) (((L1 k1) : Nat) : Int)
          have hk0' : (0 : Int) ≤ (k1 : Int) := Int.natCast_nonneg _
          have hk1' : (k1 : Int) < (len1 : Int) := by omega
          go_wp2_with fail
          go_quiet ((go_at_call 25; exact Calls.quiet_of_same (add25 _ _ _)))
          go_wp2
          · go_ret
            exact ⟨_, rfl, below_drewN hbw1 _⟩
          · go_roundw
            case rel => exact ⟨k1 + 1, _, by omega, by go_num, rfl, by omega, by omega, below_drewN hbw1 _⟩
            case measure => simp [intOf]; omega
        · go_wp2
          go_loopw [11, 14] (fun c i wr => ∃ (k : Nat) (t : Int), k ≤ len2 ∧ i = .int .i64 k ∧ c = .int .i64 t ∧ 0 ≤ t ∧ t ≤ 1048577 ∧ Below w.heap.size w wr) (fun _ i _ => len2 - (intOf i).toNat)
          case atStart => exact ⟨0, _, Nat.zero_le _, rfl, rfl, by omega, by omega, hbw1⟩
          case round =>
            clear hbw1
            obtain ⟨k2, t2, hk2, rfl, rfl, hp2, hq2, hbw2⟩ := hrel
            by_cases hlt2 : k2 < len2
            · rcases h2 with h2' | ⟨b, off, rfl, hb, hc⟩
              · omega
              have hck : wr.cell? ⟨b, off + k2, none⟩ = some (.string (ss2 k2)) := (hbw2.cell (p := ⟨b, off + k2, none⟩) hb).trans (hc k2 hlt2)
              clear hc
              have b1 := addLen_bd t2 16
              have b2 := addLen_bd (addLen t2 16) (((ss2 k2).size : Nat) : Int)
              have hk0' : (0 : Int) ≤ (k2 : Int) := Int.natCast_nonneg _
              have hk1' : (k2 : Int) < (len2 : Int) := by omega
              go_wp2_with fail
              go_quiet ((go_at_call 25; exact Calls.quiet_of_same (add25 _ _ _)))
              go_wp2
              · go_ret
                exact ⟨_, rfl, below_drewN hbw2 _⟩
              · go_roundw
                case rel => exact ⟨k2 + 1, _, by omega, by go_num, rfl, by omega, by omega, below_drewN hbw2 _⟩
                case measure => simp [intOf]; omega
            · go_wp2
              go_loopw [11, 15] (fun c i wr => ∃ (k : Nat) (t : Int), k ≤ len3 ∧ i = .int .i64 k ∧ c = .int .i64 t ∧ 0 ≤ t ∧ t ≤ 1048577 ∧ Below w.heap.size w wr) (fun _ i _ => len3 - (intOf i).toNat)
              case atStart => exact ⟨0, _, Nat.zero_le _, rfl, rfl, by omega, by omega, hbw2⟩
              case round =>
                clear hbw2
                obtain ⟨k3, t3, hk3, rfl, rfl, hp3, hq3, hbw3⟩ := hrel
                by_cases hlt3 : k3 < len3
                · rcases h3 with h3' | ⟨b, off, rfl, hb, hc⟩
                  · omega
                  have hck : wr.cell? ⟨b, off + k3, none⟩ = some (.string (ss3 k3)) := (hbw3.cell (p := ⟨b, off + k3, none⟩) hb).trans (hc k3 hlt3)
                  clear hc
                  have b1 := addLen_bd t3 16
                  have b2 := addLen_bd (addLen t3 16) (((ss3 k3).size : Nat) : Int)
                  have hk0' : (0 : Int) ≤ (k3 : Int) := Int.natCast_nonneg _
                  have hk1' : (k3 : Int) < (len3 : Int) := by omega
                  go_wp2_with fail
                  go_quiet ((go_at_call 25; exact Calls.quiet_of_same (add25 _ _ _)))
                  go_wp2
                  · go_ret
                    exact ⟨_, rfl, below_drewN hbw3 _⟩
                  · go_roundw
                    case rel => exact ⟨k3 + 1, _, by omega, by go_num, rfl, by omega, by omega, below_drewN hbw3 _⟩
                    case measure => simp [intOf]; omega
                · go_wp2
                  go_ret
                  exact ⟨_, rfl, hbw3⟩
end Go.Proofs.Qxb6600475aMods
