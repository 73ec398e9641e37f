/- THE WALK OF FnCountStepsByOneOnEachMatch (3). -/
import Derived.Test.Qxb6600301aModsCount
import Derived.Test.Qxb6600301aModsGates
import Derived.Test.Qxb6600301aModsTrace
import Derived.WalkSpells
import Derived.OwnWalk
import Derived.Laws.Pointers
import Derived.Deep.RegionHeld3
import Derived.Deep.AppendLies
namespace Go.Proofs.Qxb6600301aMods
open Go.ChangeShapes Go.WideShapes Go.ChangeAt Go.RowKit

theorem Trym.info30 : (Trym.prog.info? 30).map (fun i => (i.zero, i.size, i.bytes)) = some (some (.agg #[.string ByteArray.empty, .int .i64 0]), 2, 24) := by kernel_rfl

set_option maxRecDepth 100000 in
set_option maxHeartbeats 1600000 in
theorem steps3 (a0 : Option Addr) (len0 cap0 : Nat) (ss : Nat → ByteArray) (a1 : Option Addr) (len1 cap1 : Nat) (zs : Nat → Int) (name : ByteArray) (w : World)
    (h0 : StrsAt w a0 len0 ss) (h1 : IntsAt w a1 len1 zs) (l0 : len0 ≤ 4096) (l1 : len1 ≤ 4096) (ln : name.size ≤ 1048576) :
    Calls Trym.prog 3 #[.slice a0 len0 cap0, .slice a1 len1 cap1, .string name] w fun e w' => e = .returned (.bool true) ∧ Below w.heap.size w w' := by
  obtain ⟨i0, hi0, hz0, hz1, hz2⟩ := info_parts Trym.info30
  go_enter Trym.func3, Trym.ntmps3
  go_wp2_with fail
  refine (gate6 a0 a1 len0 cap0 len1 cap1 ss name _ h0 (by unfold maxLen; omega) (by unfold maxLen; omega) (by unfold maxLen; omega)).mono ?_
  rintro e wx (⟨rfl, hw⟩ | ⟨rfl, hw, hall⟩)
  · subst wx
    go_wp2
    go_ret
    exact ⟨rfl, Below.refl _ _⟩
  · subst wx
    have HA : Hid (∀ k, k < len0 → (ss k).size ≤ 1048576) := hall
    clear hall
    go_wp2_with fail
    refine (names7 a0 len0 cap0 ss _ h0 l0 HA.out).mono ?_
    rintro e wx ⟨r, hr0, hr1, rfl, hw⟩
    subst wx
    go_wp2_with (first | (go_at_call 8; refine (zzcount8_none _ _ _ _).mono ?_; rintro e wx ⟨rfl, hw⟩; subst wx) | (at_make; refine wpList_make_own _ rfl _ _ 27 rfl w.heap.size 30 i0 _ 2 Trym.underlying27 hi0 hz0 hz1 .i64 .i64 _ len0 rfl rfl rfl (by rw [hz2]; omega) (by unfold maxLen; omega) (Nat.le_refl _) ?_; intro wm hown hgrow))
    · go_ret
      exact ⟨rfl, Below.refl _ _⟩
    · have hbm : Below w.heap.size w wm := (Below.refl _ _).grown hgrow (Nat.le_refl _) (fun k hk => by cases hk)
      have htr : TrAt w.heap.size wm ss 0 w.heap.size len0 := ⟨[], hown, Pts.zero ss⟩
      clear hown hgrow
      go_loopw [7, 8] (fun tr i wr => ∃ k g cap : Nat, k ≤ len0 ∧ i = .int .i64 k ∧ tr = .slice (some ⟨g, 0, none⟩) k cap ∧ TrAt w.heap.size wr ss k g cap ∧ Below w.heap.size w wr) (fun _ i _ => len0 - (intOf i).toNat)
      case atStart => exact ⟨0, _, _, Nat.zero_le _, rfl, rfl, htr, hbm⟩
      case round =>
        clear htr hbm
        obtain ⟨k, g, cap, hk, rfl, rfl, htr, hbw⟩ := hrel
        by_cases hlt : k < len0
        · rcases h0 with h00 | ⟨b, off, rfl, hb, hc⟩
          · omega
          have hI : IntsAt wr a1 len1 zs := h1.below hbw
          have HK : Hid (w.cell? ⟨b, off + k, none⟩ = some (.string (ss k))) := hc k hlt
          obtain ⟨hgl, hgB⟩ := htr.lt
          obtain ⟨tc0, zt, tc1⟩ := htr.cells
          have HC := zzcount8_some g k cap ss zt name wr (by omega) hgl tc0 tc1
          have HHC : Hid (Calls Trym.prog 8 #[.slice (some ⟨g, 0, none⟩) k cap, .string name] wr fun e w' => e = .returned (.int .i64 (cnt ss name k)) ∧ Below wr.heap.size wr w') := HC
          clear HC tc0 tc1 hc h1
          go_wp2_with fail
          refine HHC.out.mono ?_
          rintro e w1 ⟨rfl, hb1⟩
          have hsz := hbw.size
          have htr1 := htr.below hb1
          have hI1 := hI.below hb1
          have hck1 : w1.cell? ⟨b, off + k, none⟩ = some (.string (ss k)) := ((hbw.trans (hb1.mono hsz)).cell (p := ⟨b, off + k, none⟩) hb).trans HK.out
          have hbw1 : Below w.heap.size w w1 := hbw.trans (hb1.mono hsz)
          have hsz1 := hbw1.size
          have hcl := cnt_le ss name k
          have hb1' : b < w1.heap.size := by omega
          clear HHC htr hI hbw hb1 hgl hsz
          obtain ⟨xs, hown, hpts⟩ := htr1
          have hk0 : (0 : Int) ≤ (k : Int) := Int.natCast_nonneg _
          have hk1 : (k : Int) < (len0 : Int) := by omega
          have hgb : g ≠ b := by omega
          go_wp2_with fail
          go_region_held3 (fun w' => w'.cell? ⟨b, off + k, none⟩ = some (.string (ss k)))
            (first | go_keep | (rw [hgrow.cell_far _ (by simp; omega) (by simp [Value.ownBlock]; omega)]; assumption))
            (first
              | (go_at_call 9; refine (point9 a1 len1 cap1 zs k _ ?_).mono ?_; exact hI1; rintro e wx ⟨rfl, hw⟩; subst wx)
              | (refine step_append_lies _ (by rfl) _ _ _ (by rfl) w.heap.size 30 i0 _ 2 24 Trym.underlying27 hi0 hz0 hz1 hz2 rfl (by omega) (.slice (some ⟨g, 0, none⟩) k cap) k xs (by rfl) ((hown.alloc _).drew)
                  ⟨w1.heap.size, 0, none⟩ 1 1 [.string (ss k), .int .i64 (pt zs len1 k)] (by rfl) (by rfl) (World.news_of_block (cs := #[.string (ss k), .int .i64 (pt zs len1 k)]) (t := 30) (fr := (0, 0)) (heap_alloc_new w1 _)) (by simp [Value.oneCell'])
                  (by omega) (by unfold maxLen; omega) (by omega) (by simp; omega) (w1.heap.size + 1) (by simp) ?_; intro gg cap' w2 hown2 hgrow hat hlt2))
          have htr2 : TrAt w.heap.size w2 ss (k + 1) gg cap' := ⟨_, hown2, hpts.snoc _⟩
          have hbw2 : Below w.heap.size w w2 := ((hbw1.alloc hsz1 _).drew).grown hgrow (by simp; omega) (fun j hj => by simp [Value.ownBlock] at hj; omega)
          have hsz2 := hbw2.size
          clear hown hown2 hgrow hat hlt2 hpts hck1 hI1
          obtain ⟨hgl2, hgB2⟩ := htr2.lt
          obtain ⟨tc0, zt2, tc1⟩ := htr2.cells
          have HC2 := zzcount8_some gg (k + 1) cap' ss zt2 name w2 (by omega) hgl2 tc0 tc1
          have HHC2 : Hid (Calls Trym.prog 8 #[.slice (some ⟨gg, 0, none⟩) (k + 1) cap', .string name] w2 fun e w' => e = .returned (.int .i64 (cnt ss name (k + 1))) ∧ Below w2.heap.size w2 w') := HC2
          clear HC2 tc0 tc1
          go_wp2_with fail
          refine HHC2.out.mono ?_
          rintro e w3 ⟨rfl, hb3⟩
          have htr3 := htr2.below hb3
          have hbw3 : Below w.heap.size w w3 := hbw2.trans (hb3.mono hsz2)
          have hck3 : w3.cell? ⟨b, off + k, none⟩ = some (.string (ss k)) := (hbw3.cell (p := ⟨b, off + k, none⟩) hb).trans HK.out
          clear HHC2 htr2 hbw2 hb3 hgl2 hsz2 hbw1 hsz1
          cases hit : ((ss k).toList == name.toList)
          · have E1 : cnt ss name (k + 1) ≤ cnt ss name k := Nat.le_of_eq (cnt_miss _ _ _ hit)
            have E2 : cnt ss name k ≤ cnt ss name (k + 1) := Nat.le_of_eq (cnt_miss _ _ _ hit).symm
            go_wp2
            go_roundw
            case rel => exact ⟨k + 1, gg, cap', by omega, by go_num, rfl, htr3, hbw3⟩
            case measure => simp [intOf]; omega
          · have E1 : cnt ss name (k + 1) ≤ cnt ss name k + 1 := Nat.le_of_eq (cnt_hit _ _ _ hit)
            have E2 : cnt ss name k + 1 ≤ cnt ss name (k + 1) := Nat.le_of_eq (cnt_hit _ _ _ hit).symm
            go_wp2
            go_roundw
            case rel => exact ⟨k + 1, gg, cap', by omega, by go_num, rfl, htr3, hbw3⟩
            case measure => simp [intOf]; omega
        · go_wp2
          go_ret
          exact ⟨rfl, hbw⟩
/-- Whatever the lengths. -/
theorem steps3_any (a0 : Option Addr) (len0 cap0 : Nat) (ss : Nat → ByteArray) (a1 : Option Addr) (len1 cap1 : Nat) (zs : Nat → Int) (name : ByteArray) (w : World)
    (h0 : StrsAt w a0 len0 ss) (h1 : IntsAt w a1 len1 zs) (l0 : len0 ≤ maxLen) (l1 : len1 ≤ maxLen) (ln : name.size ≤ maxLen) :
    Calls Trym.prog 3 #[.slice a0 len0 cap0, .slice a1 len1 cap1, .string name] w fun e w' => e = .returned (.bool true) ∧ Below w.heap.size w w' := by
  by_cases c0 : len0 ≤ 4096
  · by_cases c1 : len1 ≤ 4096
    · by_cases c2 : name.size ≤ 1048576
      · exact steps3 a0 len0 cap0 ss a1 len1 cap1 zs name w h0 h1 c0 c1 c2
      · go_enter Trym.func3, Trym.ntmps3
        go_wp2_with fail
        refine (gate6 a0 a1 len0 cap0 len1 cap1 ss name _ h0 l0 l1 ln).mono ?_
        rintro e wx (⟨rfl, hw⟩ | ⟨rfl, hw, _⟩)
        all_goals
          subst wx
          go_wp2
          go_ret
          exact ⟨rfl, Below.refl _ _⟩
    · go_enter Trym.func3, Trym.ntmps3
      go_wp2_with fail
      refine (gate6 a0 a1 len0 cap0 len1 cap1 ss name _ h0 l0 l1 ln).mono ?_
      rintro e wx (⟨rfl, hw⟩ | ⟨rfl, hw, _⟩)
      all_goals
        subst wx
        go_wp2
        go_ret
        exact ⟨rfl, Below.refl _ _⟩
  · go_enter Trym.func3, Trym.ntmps3
    go_wp2_with fail
    refine (gate6 a0 a1 len0 cap0 len1 cap1 ss name _ h0 l0 l1 ln).mono ?_
    rintro e wx (⟨rfl, hw⟩ | ⟨rfl, hw, _⟩)
    all_goals
      subst wx
      go_wp2
      go_ret
      exact ⟨rfl, Below.refl _ _⟩
end Go.Proofs.Qxb6600301aMods
