/- THE WALK OF FnCountPartitionsTheTraceByName (4). -/
import Derived.Test.Qxb6600301aModsCount
import Derived.Test.Qxb6600301aModsGates
import Derived.Test.Qxb6600301aModsPartsPlain
import Derived.WalkSpells
import Derived.WalkSmall
import Derived.OwnWalk
import Derived.Laws.Pointers
import Derived.Deep.RegionHeld3
import Derived.Deep.QuietTactic
import Derived.BigQuiet
namespace Go.Proofs.Qxb6600301aMods
open Go.ChangeShapes Go.WideShapes Go.ChangeAt Go.RowKit

theorem Trym.info30' : (Trym.prog.info? 30).map (fun i => (i.zero, i.size, i.bytes)) = some (some (.agg #[.string ByteArray.empty, .int .i64 0]), 2, 24) := by kernel_rfl

set_option maxRecDepth 100000 in
set_option maxHeartbeats 1600000 in
theorem parts4 (a0 : Option Addr) (len0 cap0 : Nat) (ss : Nat → ByteArray) (a1 : Option Addr) (len1 cap1 : Nat) (zs : Nat → Int) (name : ByteArray) (w : World)
    (h0 : StrsAt w a0 len0 ss) (h1 : IntsAt w a1 len1 zs) (l0 : len0 ≤ 4096) (l1 : len1 ≤ 4096) (ln : name.size ≤ 1048576) :
    Calls Trym.prog 4 #[.slice a0 len0 cap0, .slice a1 len1 cap1, .string name] w fun e w' => e = .returned (.bool true) ∧ Below w.heap.size w w' := by
  obtain ⟨i0, hi0, hz0, hz1, hz2⟩ := info_parts Trym.info30'
  go_enter Trym.func4, Trym.ntmps4
  go_wp2_with fail
  refine (gate10 a0 a1 len0 cap0 len1 cap1 ss name _ h0 (by unfold maxLen; omega) (by unfold maxLen; omega) (by unfold maxLen; omega)).mono ?_
  rintro e wx (⟨rfl, hw⟩ | ⟨rfl, hw, hall⟩)
  · subst wx
    go_wp2
    go_ret
    exact ⟨rfl, Below.refl _ _⟩
  · subst wx
    have HA : Hid (∀ k, k < len0 → (ss k).size ≤ 1048576) := hall
    clear hall
    go_wp2_with fail
    refine (names7 a0 len0 cap0 ss _ h0 l0 HA.out).mono ?_
    rintro e wx ⟨r, hr0, hr1, rfl, hw⟩
    subst wx
    go_wp2_with (at_make; refine wpList_make_full _ rfl _ _ 27 rfl w.heap.size 30 i0 _ 2 Trym.underlying27 hi0 hz0 hz1 .i64 .i64 _ _ len0 rfl rfl rfl rfl (by rw [hz2]; omega) (by unfold maxLen; omega) (Nat.le_refl _) ?_; intro wm hown hgrow)
    · go_ret
      exact ⟨rfl, Below.refl _ _⟩
    · have hbm : Below w.heap.size w wm := (Below.refl _ _).grown hgrow (Nat.le_refl _) (fun k hk => by cases hk)
      have hfl : FillAt w.heap.size wm ss 0 len0 w.heap.size := ⟨_, hown, fun j hj => by omega⟩
      clear hown hgrow HA
      go_loopw [8] (fun i wr => ∃ k : Nat, k ≤ len0 ∧ i = .int .i64 k ∧ FillAt w.heap.size wr ss k len0 w.heap.size ∧ Below w.heap.size w wr) (fun i _ => len0 - (intOf i).toNat)
      case atStart => exact ⟨0, Nat.zero_le _, rfl, hfl, hbm⟩
      case round =>
        clear hfl hbm
        obtain ⟨k, hk, rfl, hfl, hbw⟩ := hrel
        by_cases hlt : k < len0
        · rcases h0 with h00 | ⟨b, off, rfl, hb, hc⟩
          · omega
          have hI : IntsAt wr a1 len1 zs := h1.below hbw
          have hck : wr.cell? ⟨b, off + k, none⟩ = some (.string (ss k)) := (hbw.cell (p := ⟨b, off + k, none⟩) hb).trans (hc k hlt)
          obtain ⟨⟨v0, hv0⟩, ⟨v1, hv1⟩, hf0, hf1⟩ := hfl.at hlt
          have hsz := hbw.size
          have hk0 : (0 : Int) ≤ (k : Int) := Int.natCast_nonneg _
          have hk1 : (k : Int) < (len0 : Int) := by omega
          have hne : b ≠ w.heap.size := by omega
          have kept : ∀ z : Int, ((wr.setCell ⟨w.heap.size, k * 2, none⟩ (.string (ss k))).setCell ⟨w.heap.size, k * 2 + 1, none⟩ (.int .i64 z)).drew.cell? ⟨b, off + k, none⟩ = some (.string (ss k)) := fun z =>
            ((((Below.refl w.heap.size wr).setCell (p := ⟨w.heap.size, k * 2, none⟩) (Nat.le_refl _) (.string (ss k))).setCell (p := ⟨w.heap.size, k * 2 + 1, none⟩) (Nat.le_refl _) (.int .i64 z)).cell (p := ⟨b, off + k, none⟩) hb).trans hck
          clear hc h1
          go_wp2_with fail
          go_region_held3 (fun w' => w'.cell? ⟨b, off + k, none⟩ = some (.string (ss k)))
            (first | go_keep | exact kept _)
            ((go_at_call 9; refine (point9 a1 len1 cap1 zs k _ ?_).mono ?_; exact hI; rintro e wx ⟨rfl, hw⟩; subst wx))
          go_wp2
          go_roundw
          case rel => exact ⟨k + 1, by omega, by go_num, (hfl.step hlt _).drew, ((hbw.setCell (p := ⟨w.heap.size, k * 2, none⟩) (Nat.le_refl _) _).setCell (p := ⟨w.heap.size, k * 2 + 1, none⟩) (Nat.le_refl _) _).drew⟩
          case measure => simp [intOf]; omega
        · obtain rfl : k = len0 := by omega
          have htr : TrAt w.heap.size wr ss k w.heap.size k := hfl.tr
          clear hfl h1
          go_wp2_with fail
          go_loopw [9, 10, 11] (fun s q i wr => ∃ m : Nat, m ≤ k ∧ i = .int .i64 m ∧ s = .int .i64 (tot ss k m) ∧ q = .bool (seen ss name m) ∧ TrAt w.heap.size wr ss k w.heap.size k ∧ Below w.heap.size w wr) (fun _ _ i _ => k - (intOf i).toNat)
          case atStart => exact ⟨0, Nat.zero_le _, rfl, rfl, rfl, htr, hbw⟩
          case round =>
            clear htr hbw
            obtain ⟨m, hm, rfl, rfl, rfl, htr, hbw⟩ := hrel
            have htl := tot_le ss k m
            have htm : m * k ≤ 4096 * 4096 := Nat.mul_le_mul (by omega) l0
            by_cases hmk : m < k
            · rcases h0 with h00 | ⟨b, off, rfl, hb, hc⟩
              · omega
              have HC0 : Hid (∀ j, j < k → w.cell? ⟨b, off + j, none⟩ = some (.string (ss j))) := hc
              have hcm : wr.cell? ⟨b, off + m, none⟩ = some (.string (ss m)) := (hbw.cell (p := ⟨b, off + m, none⟩) hb).trans (hc m hmk)
              obtain ⟨hgl, hgB⟩ := htr.lt
              obtain ⟨tc0, zt, tc1⟩ := htr.cells
              have HC := zzcount8_some w.heap.size k k ss zt (ss m) wr (by omega) hgl tc0 tc1
              have HHC : Hid (Calls Trym.prog 8 #[.slice (some ⟨w.heap.size, 0, none⟩) k k, .string (ss m)] wr fun e w' => e = .returned (.int .i64 (cnt ss (ss m) k)) ∧ Below wr.heap.size wr w') := HC
              have hc1 := cnt_pos ss (ss m) k m hmk (beq_self _)
              have hc2 := cnt_le ss (ss m) k
              clear HC tc0 tc1 hc
              go_wp2_with fail
              refine HHC.out.mono ?_
              rintro e w1 ⟨rfl, hb1⟩
              have hsz := hbw.size
              have htr1 := htr.below hb1
              have hbw1 : Below w.heap.size w w1 := hbw.trans (hb1.mono hsz)
              clear HHC htr hcm hbw hb1 hgl hsz
              have hsz1 := hbw1.size
              have hb1' : b < w1.heap.size := by omega
              go_wp2_with fail
              go_loopw [13, 14] (fun f j wr => ∃ x : Nat, x ≤ m ∧ j = .int .i64 x ∧ f = .bool true ∧ Hid (∀ y, y < x → ((ss y).toList == (ss m).toList) = false) ∧ Below w1.heap.size w1 wr) (fun _ j _ => m - (intOf j).toNat)
              case atStart => exact ⟨0, Nat.zero_le _, rfl, rfl, fun y hy => by omega, Below.refl _ _⟩
              case round =>
                obtain ⟨x, hx, rfl, rfl, hno, hb2⟩ := hrel
                have hbw2 : Below w.heap.size w wr := hbw1.trans (hb2.mono hsz1)
                have htr2 := htr1.below hb2
                have hcm : wr.cell? ⟨b, off + m, none⟩ = some (.string (ss m)) := (hbw2.cell (p := ⟨b, off + m, none⟩) hb).trans (HC0.out m hmk)
                by_cases hxm : x < m
                · have hcx : wr.cell? ⟨b, off + x, none⟩ = some (.string (ss x)) := (hbw2.cell (p := ⟨b, off + x, none⟩) hb).trans (HC0.out x (by omega))
                  have hx0 : (0 : Int) ≤ (x : Int) := Int.natCast_nonneg _
                  have hx1 : (x : Int) < (k : Int) := by omega
                  have hm0 : (0 : Int) ≤ (m : Int) := Int.natCast_nonneg _
                  have hm1 : (m : Int) < (k : Int) := by omega
                  cases he : ((ss x).toList == (ss m).toList)
                  · go_wp2_with fail
                    go_quiet (fail)
                    go_wp2
                    go_roundw
                    case rel => exact ⟨x + 1, by omega, by go_num, rfl, fun y hy => by
                      by_cases hy' : y < x
                      · exact hno.out y hy'
                      · obtain rfl : y = x := by omega
                        exact he, below_drewN hb2 _⟩
                    case measure => simp [intOf]; omega
                  · have hs : seen ss (ss m) m = true := seen_of ss (ss m) m x hxm he
                    have HS : Hid (seen ss (ss m) m = true) := hs
                    clear hs
                    go_wp2_with fail
                    go_quiet (fail)
                    cases ho : ((ss m).toList == name.toList)
                    · go_wp2
                      go_roundw
                      case rel => exact ⟨m + 1, by omega, by go_num, int_eq (by rw [tot_old _ _ _ HS.out]), bool_eq (seen_miss _ _ _ ho).symm, htr2.below (below_drewN (Below.refl _ _) _), below_drewN hbw2 _⟩
                      case measure => simp [intOf]; omega
                    · go_wp2
                      go_roundw
                      case rel => exact ⟨m + 1, by omega, by go_num, int_eq (by rw [tot_old _ _ _ HS.out]), bool_eq (seen_hit _ _ _ ho).symm, htr2.below (below_drewN (Below.refl _ _) _), below_drewN hbw2 _⟩
                      case measure => simp [intOf]; omega
                · obtain rfl : x = m := by omega
                  have hs : seen ss (ss x) x = false := seen_all ss (ss x) x hno.out
                  have HS : Hid (seen ss (ss x) x = false) := hs
                  clear hs
                  cases ho : ((ss x).toList == name.toList)
                  · go_wp2
                    go_roundw
                    case rel => exact ⟨x + 1, by omega, by go_num, int_eq (by rw [tot_new _ _ _ HS.out]; omega), bool_eq (seen_miss _ _ _ ho).symm, htr2, hbw2⟩
                    case measure => simp [intOf]; omega
                  · go_wp2
                    go_roundw
                    case rel => exact ⟨x + 1, by omega, by go_num, int_eq (by rw [tot_new _ _ _ HS.out]; omega), bool_eq (seen_hit _ _ _ ho).symm, htr2, hbw2⟩
                    case measure => simp [intOf]; omega
            · obtain rfl : m = k := by omega
              have hE := tot_all ss m m (Nat.le_refl _)
              have E1 : tot ss m m ≤ m := Nat.le_of_eq hE
              have E2 : m ≤ tot ss m m := Nat.le_of_eq hE.symm
              clear hE
              cases hs : seen ss name m
              · obtain ⟨hgl, hgB⟩ := htr.lt
                obtain ⟨tc0, zt, tc1⟩ := htr.cells
                have HC := zzcount8_some w.heap.size m m ss zt name wr (by omega) hgl tc0 tc1
                have HHC : Hid (Calls Trym.prog 8 #[.slice (some ⟨w.heap.size, 0, none⟩) m m, .string name] wr fun e w' => e = .returned (.int .i64 (cnt ss name m)) ∧ Below wr.heap.size wr w') := HC
                have hz : cnt ss name m ≤ 0 := Nat.le_of_eq (cnt_none ss name m hs)
                have hsz := hbw.size
                clear HC tc0 tc1 htl htm
                go_wp2_with fail
                refine HHC.out.mono ?_
                rintro e w1 ⟨rfl, hb1⟩
                go_wp2
                go_ret
                exact ⟨rfl, hbw.trans (hb1.mono hsz)⟩
              · go_wp2
                go_ret
                exact ⟨rfl, hbw⟩
/-- Whatever the lengths. -/
theorem parts4_any (a0 : Option Addr) (len0 cap0 : Nat) (ss : Nat → ByteArray) (a1 : Option Addr) (len1 cap1 : Nat) (zs : Nat → Int) (name : ByteArray) (w : World)
    (h0 : StrsAt w a0 len0 ss) (h1 : IntsAt w a1 len1 zs) (l0 : len0 ≤ maxLen) (l1 : len1 ≤ maxLen) (ln : name.size ≤ maxLen) :
    Calls Trym.prog 4 #[.slice a0 len0 cap0, .slice a1 len1 cap1, .string name] w fun e w' => e = .returned (.bool true) ∧ Below w.heap.size w w' := by
  by_cases c0 : len0 ≤ 4096
  · by_cases c1 : len1 ≤ 4096
    · by_cases c2 : name.size ≤ 1048576
      · exact parts4 a0 len0 cap0 ss a1 len1 cap1 zs name w h0 h1 c0 c1 c2
      · go_enter Trym.func4, Trym.ntmps4
        go_wp2_with fail
        refine (gate10 a0 a1 len0 cap0 len1 cap1 ss name _ h0 l0 l1 ln).mono ?_
        rintro e wx (⟨rfl, hw⟩ | ⟨rfl, hw, _⟩)
        all_goals
          subst wx
          go_wp2
          go_ret
          exact ⟨rfl, Below.refl _ _⟩
    · go_enter Trym.func4, Trym.ntmps4
      go_wp2_with fail
      refine (gate10 a0 a1 len0 cap0 len1 cap1 ss name _ h0 l0 l1 ln).mono ?_
      rintro e wx (⟨rfl, hw⟩ | ⟨rfl, hw, _⟩)
      all_goals
        subst wx
        go_wp2
        go_ret
        exact ⟨rfl, Below.refl _ _⟩
  · go_enter Trym.func4, Trym.ntmps4
    go_wp2_with fail
    refine (gate10 a0 a1 len0 cap0 len1 cap1 ss name _ h0 l0 l1 ln).mono ?_
    rintro e wx (⟨rfl, hw⟩ | ⟨rfl, hw, _⟩)
    all_goals
      subst wx
      go_wp2
      go_ret
      exact ⟨rfl, Below.refl _ _⟩
end Go.Proofs.Qxb6600301aMods
