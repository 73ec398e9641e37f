/- The gates on length (6, 10) and b1NamesBytes (7): their contracts. -/
import Derived.Test.Qxb6600301aModsRows
import Derived.Test.Qxb6600301aModsPlain
namespace Go.Proofs.Qxb6600301aMods
open Go.ChangeShapes Go.WideShapes Go.ChangeAt Go.RowKit

theorem names7 (a : Option Addr) (len cap : Nat) (ss : Nat → ByteArray) (w : World) (h : StrsAt w a len ss) (hl : len ≤ 4096) (hs : ∀ k, k < len → (ss k).size ≤ 1048576) :
    Calls Trym.prog 7 #[.slice a len cap] w fun e w' => ∃ r : Int, 0 ≤ r ∧ r ≤ 4000000 ∧ e = .returned (.int .i64 r) ∧ w' = w := by
  rcases h with rfl | ⟨b, off, rfl, hb, hc⟩
  · go_enter Trym.func7, Trym.ntmps7
    go_wp2
    go_loop [3, 4] (fun c i => c = .int .i64 0 ∧ i = .int .i64 0) (fun _ _ => 0)
    case atStart => exact ⟨rfl, rfl⟩
    case round =>
      obtain ⟨rfl, rfl⟩ := hrel
      go_wp2
      go_ret
      exact ⟨_, by omega, by omega, rfl, rfl⟩
  · go_enter Trym.func7, Trym.ntmps7
    go_wp2
    go_loop [3, 4] (fun c i => ∃ (k : Nat) (t : Int), k ≤ len ∧ i = .int .i64 k ∧ c = .int .i64 t ∧ 0 ≤ t ∧ t ≤ 1048576) (fun _ i => len - (intOf i).toNat)
    case atStart => exact ⟨0, _, Nat.zero_le _, rfl, rfl, by omega, by omega⟩
    case round =>
      obtain ⟨k, t, hk, rfl, rfl, h0, h1⟩ := hrel
      by_cases hlt : k < len
      · have hck := hc k hlt
        have hsk := hs k hlt
        clear hc hs
        go_wp2
        · go_ret
          exact ⟨_, by omega, by omega, rfl, rfl⟩
        · go_round
          case rel => exact ⟨k + 1, _, by omega, by go_num, rfl, by omega, by omega⟩
          case measure => simp [intOf]; omega
      · clear hc hs
        go_wp2
        go_ret
        exact ⟨_, by omega, by omega, rfl, rfl⟩
theorem gate6 (a a1 : Option Addr) (len cap len1 cap1 : Nat) (ss : Nat → ByteArray) (name : ByteArray) (w : World) (h : StrsAt w a len ss) (hl : len ≤ maxLen) (hl1 : len1 ≤ maxLen) (hn : name.size ≤ maxLen) :
    Calls Trym.prog 6 #[.slice a len cap, .slice a1 len1 cap1, .string name] w fun e w' => GateEnd w len ss e w' := by
  unfold maxLen at hl hl1 hn
  rcases h with rfl | ⟨b, off, rfl, hb, hc⟩
  · go_enter Trym.func6, Trym.ntmps6
    go_wp2
    go_loop [7, 8] (fun c i => c = .int .i64 0 ∧ i = .int .i64 0) (fun _ _ => 0)
    case atStart => exact ⟨rfl, rfl⟩
    case round =>
      obtain ⟨rfl, rfl⟩ := hrel
      go_wp2
      all_goals
        go_ret
        first | exact .inl ⟨rfl, rfl⟩ | exact .inr ⟨rfl, rfl, fun k hk => by omega⟩
  · by_cases hbig : 1048576 < len
    · clear hc
      go_enter Trym.func6, Trym.ntmps6
      go_wp2
      go_ret
      exact .inl ⟨rfl, rfl⟩
    · go_enter Trym.func6, Trym.ntmps6
      go_wp2
      go_loop [7, 8] (fun c i => ∃ (k : Nat) (t : Int), k ≤ len ∧ i = .int .i64 k ∧ c = .int .i64 t ∧ 0 ≤ t ∧ t ≤ 1048576 ∧ Hid (∀ j, j < k → (ss j).size ≤ 1048576)) (fun _ i => len - (intOf i).toNat)
      case atStart => exact ⟨0, _, Nat.zero_le _, rfl, rfl, by omega, by omega, fun j hj => by omega⟩
      case round =>
        obtain ⟨k, t, hk, rfl, rfl, h0, h1, hall⟩ := hrel
        by_cases hlt : k < len
        · have hck := hc k hlt
          clear hc
          go_wp2
          · go_ret
            exact .inl ⟨rfl, rfl⟩
          · go_ret
            exact .inl ⟨rfl, rfl⟩
          · go_round
            case rel => exact ⟨k + 1, _, by omega, by go_num, rfl, by omega, by omega, fun j hj => by
              by_cases hj' : j < k
              · exact hall.out j hj'
              · obtain rfl : j = k := by omega
                omega⟩
            case measure => simp [intOf]; omega
        · have hk' : k = len := by omega
          subst hk'
          clear hc
          go_wp2
          all_goals
            go_ret
            first | exact .inl ⟨rfl, rfl⟩ | exact .inr ⟨rfl, rfl, hall.out⟩
theorem gate10 (a a1 : Option Addr) (len cap len1 cap1 : Nat) (ss : Nat → ByteArray) (name : ByteArray) (w : World) (h : StrsAt w a len ss) (hl : len ≤ maxLen) (hl1 : len1 ≤ maxLen) (hn : name.size ≤ maxLen) :
    Calls Trym.prog 10 #[.slice a len cap, .slice a1 len1 cap1, .string name] w fun e w' => GateEnd w len ss e w' := by
  unfold maxLen at hl hl1 hn
  rcases h with rfl | ⟨b, off, rfl, hb, hc⟩
  · go_enter Trym.func10, Trym.ntmps10
    go_wp2
    go_loop [7, 8] (fun c i => c = .int .i64 0 ∧ i = .int .i64 0) (fun _ _ => 0)
    case atStart => exact ⟨rfl, rfl⟩
    case round =>
      obtain ⟨rfl, rfl⟩ := hrel
      go_wp2
      all_goals
        go_ret
        first | exact .inl ⟨rfl, rfl⟩ | exact .inr ⟨rfl, rfl, fun k hk => by omega⟩
  · by_cases hbig : 1048576 < len
    · clear hc
      go_enter Trym.func10, Trym.ntmps10
      go_wp2
      go_ret
      exact .inl ⟨rfl, rfl⟩
    · go_enter Trym.func10, Trym.ntmps10
      go_wp2
      go_loop [7, 8] (fun c i => ∃ (k : Nat) (t : Int), k ≤ len ∧ i = .int .i64 k ∧ c = .int .i64 t ∧ 0 ≤ t ∧ t ≤ 1048576 ∧ Hid (∀ j, j < k → (ss j).size ≤ 1048576)) (fun _ i => len - (intOf i).toNat)
      case atStart => exact ⟨0, _, Nat.zero_le _, rfl, rfl, by omega, by omega, fun j hj => by omega⟩
      case round =>
        obtain ⟨k, t, hk, rfl, rfl, h0, h1, hall⟩ := hrel
        by_cases hlt : k < len
        · have hck := hc k hlt
          clear hc
          go_wp2
          · go_ret
            exact .inl ⟨rfl, rfl⟩
          · go_ret
            exact .inl ⟨rfl, rfl⟩
          · go_round
            case rel => exact ⟨k + 1, _, by omega, by go_num, rfl, by omega, by omega, fun j hj => by
              by_cases hj' : j < k
              · exact hall.out j hj'
              · obtain rfl : j = k := by omega
                omega⟩
            case measure => simp [intOf]; omega
        · have hk' : k = len := by omega
          subst hk'
          clear hc
          go_wp2
          all_goals
            go_ret
            first | exact .inl ⟨rfl, rfl⟩ | exact .inr ⟨rfl, rfl, hall.out⟩
end Go.Proofs.Qxb6600301aMods
