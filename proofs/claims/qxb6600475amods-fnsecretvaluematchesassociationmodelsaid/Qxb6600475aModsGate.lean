/- The gate on length (15): its contract. -/
import Derived.Test.Qxb6600475aModsRows
import Derived.Test.Qxb6600475aModsPlain
namespace Go.Proofs.Qxb6600475aMods
open Go.ChangeShapes Go.WideShapes Go.ChangeAt Go.RowKit

/-- How the gate ends: it says no; or it says yes, and nothing is longer than 1<<20. -/
def GateEnd (w : World) (len0 len1 len2 len3 : Nat) (ss0 : Nat → ByteArray) (L1 : Nat → Nat) (ss2 ss3 : Nat → ByteArray) (key : ByteArray) (e : Ending) (w' : World) : Prop :=
  (e = .returned (.bool false) ∧ w' = w) ∨ (e = .returned (.bool true) ∧ w' = w ∧ len0 ≤ 1048576 ∧ len1 ≤ 1048576 ∧ len2 ≤ 1048576 ∧ len3 ≤ 1048576 ∧ key.size ≤ 1048576 ∧
    (∀ j, j < len0 → (ss0 j).size ≤ 1048576) ∧ (∀ j, j < len1 → L1 j ≤ 1048576) ∧ (∀ j, j < len2 → (ss2 j).size ≤ 1048576) ∧ (∀ j, j < len3 → (ss3 j).size ≤ 1048576))

set_option maxRecDepth 100000 in
set_option maxHeartbeats 3200000 in
theorem gate15 (a0 a1 a2 a3 : Option Addr) (len0 cap0 len1 cap1 len2 cap2 len3 cap3 : Nat) (ss0 : Nat → ByteArray) (A1 : Nat → Option Addr) (L1 C1 : Nat → Nat) (ss2 ss3 : Nat → ByteArray) (key : ByteArray) (w : World)
    (h0 : StrsAt w a0 len0 ss0) (h1 : RowsAt w a1 len1 A1 L1 C1) (h2 : StrsAt w a2 len2 ss2) (h3 : StrsAt w a3 len3 ss3) (l0 : len0 ≤ maxLen) (l1 : len1 ≤ maxLen) (l2 : len2 ≤ maxLen) (l3 : len3 ≤ maxLen) (lk : key.size ≤ maxLen) :
    Calls Trym.prog 15 #[.slice a0 len0 cap0, .slice a1 len1 cap1, .slice a2 len2 cap2, .slice a3 len3 cap3, .string key] w fun e w' => GateEnd w len0 len1 len2 len3 ss0 L1 ss2 ss3 key e w' := by
  unfold maxLen at l0 l1 l2 l3 lk
  by_cases hbig : 1048576 < len0
  · go_enter Trym.func15, Trym.ntmps15
    go_wp2
    go_ret
    exact .inl ⟨rfl, rfl⟩
  · go_enter Trym.func15, Trym.ntmps15
    go_wp2
    go_loop [11, 12] (fun c i => ∃ (k : Nat) (t : Int), k ≤ len0 ∧ i = .int .i64 k ∧ c = .int .i64 t ∧ 0 ≤ t ∧ t ≤ 1048576 ∧ Hid (∀ j, j < k → (ss0 j).size ≤ 1048576)) (fun _ i => len0 - (intOf i).toNat)
    case atStart => exact ⟨0, _, Nat.zero_le _, rfl, rfl, by omega, by omega, fun j hj => by omega⟩
    case round =>
      obtain ⟨k0, t0, hk0, rfl, rfl, hp0, hq0, hall0⟩ := hrel
      by_cases hlt0 : k0 < len0
      · rcases h0 with h0' | ⟨b, off, rfl, hb, hc⟩
        · omega
        have hck := hc k0 hlt0
        clear hc
        go_wp2
        · go_ret
          exact .inl ⟨rfl, rfl⟩
        · go_ret
          exact .inl ⟨rfl, rfl⟩
        · go_round
          case rel => exact ⟨k0 + 1, _, by omega, by go_num, rfl, by omega, by omega, fun j hj => by
            by_cases hj' : j < k0
            · exact hall0.out j hj'
            · obtain rfl : j = k0 := by omega
              omega⟩
          case measure => simp [intOf]; omega
      · obtain rfl : k0 = len0 := by omega
        go_wp2
        · go_ret
          exact .inl ⟨rfl, rfl⟩
        · go_ret
          exact .inl ⟨rfl, rfl⟩
        · go_loop [11, 13] (fun c i => ∃ (k : Nat) (t : Int), k ≤ len1 ∧ i = .int .i64 k ∧ c = .int .i64 t ∧ 0 ≤ t ∧ t ≤ 1048576 ∧ Hid (∀ j, j < k → (L1 j) ≤ 1048576)) (fun _ i => len1 - (intOf i).toNat)
          case atStart => exact ⟨0, _, Nat.zero_le _, rfl, rfl, by omega, by omega, fun j hj => by omega⟩
          case round =>
            obtain ⟨k1, t1, hk1, rfl, rfl, hp1, hq1, hall1⟩ := hrel
            by_cases hlt1 : k1 < len1
            · rcases h1 with h1' | ⟨b, off, rfl, hb, hc⟩
              · omega
              have hck := (hc k1 hlt1).1
              clear hc
              go_wp2
              · go_ret
                exact .inl ⟨rfl, rfl⟩
              · go_ret
                exact .inl ⟨rfl, rfl⟩
              · go_round
                case rel => exact ⟨k1 + 1, _, by omega, by go_num, rfl, by omega, by omega, fun j hj => by
                  by_cases hj' : j < k1
                  · exact hall1.out j hj'
                  · obtain rfl : j = k1 := by omega
                    omega⟩
                case measure => simp [intOf]; omega
            · obtain rfl : k1 = len1 := by omega
              go_wp2
              · go_ret
                exact .inl ⟨rfl, rfl⟩
              · go_ret
                exact .inl ⟨rfl, rfl⟩
              · go_loop [11, 14] (fun c i => ∃ (k : Nat) (t : Int), k ≤ len2 ∧ i = .int .i64 k ∧ c = .int .i64 t ∧ 0 ≤ t ∧ t ≤ 1048576 ∧ Hid (∀ j, j < k → (ss2 j).size ≤ 1048576)) (fun _ i => len2 - (intOf i).toNat)
                case atStart => exact ⟨0, _, Nat.zero_le _, rfl, rfl, by omega, by omega, fun j hj => by omega⟩
                case round =>
                  obtain ⟨k2, t2, hk2, rfl, rfl, hp2, hq2, hall2⟩ := hrel
                  by_cases hlt2 : k2 < len2
                  · rcases h2 with h2' | ⟨b, off, rfl, hb, hc⟩
                    · omega
                    have hck := hc k2 hlt2
                    clear hc
                    go_wp2
                    · go_ret
                      exact .inl ⟨rfl, rfl⟩
                    · go_ret
                      exact .inl ⟨rfl, rfl⟩
                    · go_round
                      case rel => exact ⟨k2 + 1, _, by omega, by go_num, rfl, by omega, by omega, fun j hj => by
                        by_cases hj' : j < k2
                        · exact hall2.out j hj'
                        · obtain rfl : j = k2 := by omega
                          omega⟩
                      case measure => simp [intOf]; omega
                  · obtain rfl : k2 = len2 := by omega
                    go_wp2
                    · go_ret
                      exact .inl ⟨rfl, rfl⟩
                    · go_ret
                      exact .inl ⟨rfl, rfl⟩
                    · go_loop [11, 15] (fun c i => ∃ (k : Nat) (t : Int), k ≤ len3 ∧ i = .int .i64 k ∧ c = .int .i64 t ∧ 0 ≤ t ∧ t ≤ 1048576 ∧ Hid (∀ j, j < k → (ss3 j).size ≤ 1048576)) (fun _ i => len3 - (intOf i).toNat)
                      case atStart => exact ⟨0, _, Nat.zero_le _, rfl, rfl, by omega, by omega, fun j hj => by omega⟩
                      case round =>
                        obtain ⟨k3, t3, hk3, rfl, rfl, hp3, hq3, hall3⟩ := hrel
                        by_cases hlt3 : k3 < len3
                        · rcases h3 with h3' | ⟨b, off, rfl, hb, hc⟩
                          · omega
                          have hck := hc k3 hlt3
                          clear hc
                          go_wp2
                          · go_ret
                            exact .inl ⟨rfl, rfl⟩
                          · go_ret
                            exact .inl ⟨rfl, rfl⟩
                          · go_round
                            case rel => exact ⟨k3 + 1, _, by omega, by go_num, rfl, by omega, by omega, fun j hj => by
                              by_cases hj' : j < k3
                              · exact hall3.out j hj'
                              · obtain rfl : j = k3 := by omega
                                omega⟩
                            case measure => simp [intOf]; omega
                        · obtain rfl : k3 = len3 := by omega
                          go_wp2
                          · go_ret
                            exact .inl ⟨rfl, rfl⟩
                          · go_ret
                            exact .inl ⟨rfl, rfl⟩
                          · go_ret
                            exact .inr ⟨rfl, rfl, by omega, by omega, by omega, by omega, by omega, hall0.out, hall1.out, hall2.out, hall3.out⟩
end Go.Proofs.Qxb6600475aMods
