/- zzBuildSecret (19): its contract. -/
import Derived.Test.Qxb6600475aModsSmall
import Derived.Test.Qxb6600475aModsSecret
import Derived.WalkSpells
import Derived.OwnWalk
import Derived.Laws.Pointers
import Derived.Deep.RegionHeld3
namespace Go.Proofs.Qxb6600475aMods
open Go.ChangeShapes Go.WideShapes Go.ChangeAt Go.RowKit

theorem hide2 {p : Prop} (h : p) : Hid p := h
set_option maxRecDepth 100000 in
set_option maxHeartbeats 3200000 in
theorem build19 (a0 a1 a2 a3 : Option Addr) (len0 cap0 len1 cap1 len2 cap2 len3 cap3 : Nat) (ss0 : Nat → ByteArray) (A1 : Nat → Option Addr) (L1 C1 : Nat → Nat) (ss2 ss3 : Nat → ByteArray) (w : World)
    (h0 : StrsAt w a0 len0 ss0) (h1 : RowsAt w a1 len1 A1 L1 C1) (h2 : StrsAt w a2 len2 ss2) (h3 : StrsAt w a3 len3 ss3) (n0 : a0 = none → len0 = 0) (n2 : a2 = none → len2 = 0)
    (l0 : len0 ≤ 1048576) (l2 : len2 ≤ 1048576) (s0 : ∀ j, j < len0 → (ss0 j).size ≤ 1048576) (s2 : ∀ j, j < len2 → (ss2 j).size ≤ 1048576) :
    Calls Trym.prog 19 #[.slice a0 len0 cap0, .slice a1 len1 cap1, .slice a2 len2 cap2, .slice a3 len3 cap3] w fun e w' =>
      BuildEnd w ss0 (fun j => .slice (A1 j) (L1 j) (C1 j)) (min len0 len1) ss2 (fun j => .string (ss3 j)) (min len2 len3) e w' := by
  have q31 := fun (w : World) (a : Option Addr) (n c : Nat) => run_neq_slice_nil_any (P := Trym.prog) w 31 9 a n c 0 0 Trym.underlying31
  have hmm := @run_makeMap Trym.prog
  cases a0 with
  | none =>
    obtain rfl := n0 rfl
    clear n0 h0 s0
    go_enter Trym.func19, Trym.ntmps19
    have hsecW := secAt_new w (.string ⟨#[]⟩) (.string ⟨#[]⟩) (.map none) (.map none) 49
    have hmapW : MapAt (w.alloc (.cells #[.string ⟨#[]⟩, .string ⟨#[]⟩, .map none, .map none, .map none, .map none] 49)) none ss0 (fun j => .slice (A1 j) (L1 j) (C1 j)) (min 0 len1) := .inl ⟨rfl, by omega⟩
    have hbwW : Below w.heap.size w (w.alloc (.cells #[.string ⟨#[]⟩, .string ⟨#[]⟩, .map none, .map none, .map none, .map none] 49)) := (Below.refl _ _).alloc (Nat.le_refl _) _
    have HW := hide2 (And.intro hsecW (And.intro hmapW hbwW))
    clear hsecW hmapW hbwW
    cases a2 with
    | none =>
      obtain rfl := n2 rfl
      clear n2 h2 s2
      go_wp2_with (go_at_call 22; refine (min22 _ _ _).mono ?_; rintro e wx ⟨rfl, hw⟩; subst wx)
      obtain ⟨hsecW, hmapW, hbwW⟩ := HW.out
      go_ret
      exact BuildEnd.none2 ss2 _ hsecW hmapW (by omega) hbwW
    | some x2 =>
      clear n2
      go_wp2_with (go_at_call 22; refine (min22 _ _ _).mono ?_; rintro e wx ⟨rfl, hw⟩; subst wx)
      obtain ⟨hsecW, hmapW, hbwW⟩ := HW.out
      have hst0 := St2.start (b2 := w.heap.size + 1) ss2 (fun j => .string (ss3 j)) hsecW hmapW (by simp) (by simp <;> omega) (by simp) hbwW
      have HST0 := hide2 hst0
      clear hst0 hsecW hmapW hbwW
      go_loopw [15] (fun i wr => ∃ k : Nat, k ≤ min len2 len3 ∧ i = .int .i64 k ∧ St2 w wr (none) ss0 (fun j => .slice (A1 j) (L1 j) (C1 j)) (min 0 len1) (w.heap.size + 1) ss2 (fun j => .string (ss3 j)) k) (fun i _ => min len2 len3 - (intOf i).toNat)
      case atStart => exact ⟨0, Nat.zero_le _, rfl, HST0.out⟩
      case round =>
        clear HST0
        obtain ⟨k2, hk2, rfl, hst⟩ := hrel
        have hbwr := hst.2.2.2.2.2.2
        by_cases hlt2 : k2 < min len2 len3
        · rcases h2 with h20 | ⟨b, off, hx2, hb, hc0⟩
          · omega
          rcases h3 with h30 | ⟨b', off', rfl, hb', hc1⟩
          · omega
          obtain rfl : x2 = ⟨b, off, none⟩ := by simpa using hx2
          have hck0 : wr.cell? ⟨b, off + k2, none⟩ = some (.string (ss2 k2)) := (hbwr.cell (p := ⟨b, off + k2, none⟩) hb).trans (hc0 k2 (by omega))
          have hck1 : wr.cell? ⟨b', off' + k2, none⟩ = some (.string (ss3 k2)) := (hbwr.cell (p := ⟨b', off' + k2, none⟩) hb').trans (hc1 k2 (by omega))
          have hs2 := s2 k2 (by omega)
          have hsz2 := hbwr.size
          have hgt := hst.2.2.2.2.2.1
          obtain ⟨w2, hrun, hst2, hgrow⟩ := hst.step Trym.underlying44 (by unfold maxLen; omega) (by unfold maxLen; omega)
          have hrun' : (Instr.mapUpdate 44 (.map (some (w.heap.size + 1))) (.string (ss2 k2)) (.string (ss3 k2))).run Trym.prog wr.drew = .ok () w2 := hrun
          have HST := hide2 hst2
          have kp0 : w2.cell? ⟨b, off + k2, none⟩ = some (.string (ss2 k2)) := (hgrow.cell_far ⟨b, off + k2, none⟩ (by show b < wr.heap.size; omega) (by simp; omega)).trans hck0
          have kp1 : w2.cell? ⟨b', off' + k2, none⟩ = some (.string (ss3 k2)) := (hgrow.cell_far ⟨b', off' + k2, none⟩ (by show b' < wr.heap.size; omega) (by simp; omega)).trans hck1
          have hj0 : (0 : Int) ≤ (k2 : Int) := Int.natCast_nonneg _
          have hj1 : (k2 : Int) < (len2 : Int) := by omega
          have hj2 : (k2 : Int) < (len3 : Int) := by omega
          clear hc0 hc1 hx2 hrun hst2 hgrow hst s2 hbwr
          go_wp2_with fail
          go_region_held3 (fun w' => w'.cell? ⟨b, off + k2, none⟩ = some (.string (ss2 k2)) ∧ w'.cell? ⟨b', off' + k2, none⟩ = some (.string (ss3 k2)))
            (first | go_keep | exact ⟨kp0, kp1⟩)
            (fail)
          go_wp2
          go_roundw
          case rel => exact ⟨k2 + 1, by omega, by go_num, HST.out⟩
          case measure => simp [intOf]; omega
        · obtain rfl : k2 = min len2 len3 := by omega
          obtain ⟨-, c4, c5, f4, f5⟩ := hst.2.1
          have HD := hide2 hst.done
          clear hst hbwr s2 h2 h3
          go_wp2
          go_ret
          exact HD.out
  | some x0 =>
    clear n0
    go_enter Trym.func19, Trym.ntmps19
    go_wp2_with (go_at_call 22; refine (min22 _ _ _).mono ?_; rintro e wx ⟨rfl, hw⟩; subst wx)
    have hst0 : St1 w ((w.alloc (.cells #[.string ⟨#[]⟩, .string ⟨#[]⟩, .map none, .map none, .map none, .map none] 49)).alloc (.map #[] 0)) ss0 (fun j => .slice (A1 j) (L1 j) (C1 j)) 0 := by
      have e1 : (w.alloc (.cells #[.string ⟨#[]⟩, .string ⟨#[]⟩, .map none, .map none, .map none, .map none] 49)).heap.size = w.heap.size + 1 := by simp
      refine ⟨?_, (secAt_new w _ _ _ _ 49).below ((Below.refl _ _).alloc (Nat.le_refl _) _), ((Below.refl _ _).alloc (Nat.le_refl _) _).alloc (by simp) _⟩
      rw [← e1]
      exact LastMap.made _ _ _
    go_loopw [12] (fun i wr => ∃ k : Nat, k ≤ min len0 len1 ∧ i = .int .i64 k ∧ St1 w wr ss0 (fun j => .slice (A1 j) (L1 j) (C1 j)) k) (fun i _ => min len0 len1 - (intOf i).toNat)
    case atStart => exact ⟨0, Nat.zero_le _, rfl, hst0⟩
    case round =>
      clear hst0
      obtain ⟨k, hk, rfl, hst⟩ := hrel
      by_cases hlt : k < min len0 len1
      · rcases h0 with h00 | ⟨b, off, hx0, hb, hc0⟩
        · omega
        rcases h1 with h10 | ⟨b', off', rfl, hb', hc1⟩
        · omega
        obtain rfl : x0 = ⟨b, off, none⟩ := by simpa using hx0
        have hck0 : wr.cell? ⟨b, off + k, none⟩ = some (.string (ss0 k)) := (hst.2.2.cell (p := ⟨b, off + k, none⟩) hb).trans (hc0 k (by omega))
        have hck1 : wr.cell? ⟨b', off' + k, none⟩ = some (.slice (A1 k) (L1 k) (C1 k)) := (hst.2.2.cell (p := ⟨b', off' + k, none⟩) hb').trans (hc1 k (by omega)).1
        have hs0 := s0 k (by omega)
        have hsz := hst.2.2.size
        obtain ⟨w2, hrun, hst2, hgrow⟩ := hst.step Trym.underlying47 (by unfold maxLen; omega) (by unfold maxLen; omega)
        have hrun' : (Instr.mapUpdate 47 (.map (some (w.heap.size + 1))) (.string (ss0 k)) (.slice (A1 k) (L1 k) (C1 k))).run Trym.prog wr.drew = .ok () w2 := hrun
        have HST : Hid (St1 w w2 ss0 (fun j => .slice (A1 j) (L1 j) (C1 j)) (k + 1)) := hst2
        have kp0 : w2.cell? ⟨b, off + k, none⟩ = some (.string (ss0 k)) := (hgrow.cell_far ⟨b, off + k, none⟩ (by show b < wr.heap.size; omega) (by simp; omega)).trans hck0
        have kp1 : w2.cell? ⟨b', off' + k, none⟩ = some (.slice (A1 k) (L1 k) (C1 k)) := (hgrow.cell_far ⟨b', off' + k, none⟩ (by show b' < wr.heap.size; omega) (by simp; omega)).trans hck1
        have hk0 : (0 : Int) ≤ (k : Int) := Int.natCast_nonneg _
        have hk1 : (k : Int) < (len0 : Int) := by omega
        have hk2 : (k : Int) < (len1 : Int) := by omega
        clear hc0 hc1 hx0 hrun hst2 hgrow hst s0 h2 h3
        go_wp2_with fail
        go_region_held3 (fun w' => w'.cell? ⟨b, off + k, none⟩ = some (.string (ss0 k)) ∧ w'.cell? ⟨b', off' + k, none⟩ = some (.slice (A1 k) (L1 k) (C1 k)))
          (first | go_keep | exact ⟨kp0, kp1⟩)
          (fail)
        go_wp2
        go_roundw
        case rel => exact ⟨k + 1, by omega, by go_num, HST.out⟩
        case measure => simp [intOf]; omega
      · obtain ⟨hlm, hsec, hbw⟩ := hst
        obtain rfl : k = min len0 len1 := by omega
        obtain ⟨wr0, rfl⟩ : ∃ x, x = wr := ⟨wr, rfl⟩
        have hmapw : MapAt wr0 (some (w.heap.size + 1)) ss0 (fun j => .slice (A1 j) (L1 j) (C1 j)) (min len0 len1) := .inr ⟨_, rfl, hlm⟩
        have hlt1 := hlm.lt
        have hsec0 := hsec
        obtain ⟨-, c4, c5, f4, f5⟩ := hsec
        have HW := hide2 (And.intro (SecAt.set4 hsec0 (some (w.heap.size + 1))) (And.intro (hmapw.setCell (p := ⟨w.heap.size, 4, none⟩) (by simp) (.map (some (w.heap.size + 1)))) (hbw.setCell (p := ⟨w.heap.size, 4, none⟩) (Nat.le_refl _) (.map (some (w.heap.size + 1))))))
        clear hmapw hlm hbw hsec0 s0 h0 h1
        cases a2 with
        | none =>
          obtain rfl := n2 rfl
          clear n2 h2 s2
          go_wp2_with (go_at_call 22; refine (min22 _ _ _).mono ?_; rintro e wx ⟨rfl, hw⟩; subst wx)
          obtain ⟨hsecW, hmapW, hbwW⟩ := HW.out
          go_ret
          exact BuildEnd.none2 ss2 _ hsecW hmapW (by omega) hbwW
        | some x2 =>
          clear n2
          go_wp2_with (go_at_call 22; refine (min22 _ _ _).mono ?_; rintro e wx ⟨rfl, hw⟩; subst wx)
          obtain ⟨hsecW, hmapW, hbwW⟩ := HW.out
          have hst0 := St2.start (b2 := wr0.heap.size) ss2 (fun j => .string (ss3 j)) hsecW hmapW (by simp) (by simp <;> omega) (by simp) hbwW
          have HST0 := hide2 hst0
          clear hst0 hsecW hmapW hbwW
          go_loopw [15] (fun i wr => ∃ k : Nat, k ≤ min len2 len3 ∧ i = .int .i64 k ∧ St2 w wr (some (w.heap.size + 1)) ss0 (fun j => .slice (A1 j) (L1 j) (C1 j)) (min len0 len1) (wr0.heap.size) ss2 (fun j => .string (ss3 j)) k) (fun i _ => min len2 len3 - (intOf i).toNat)
          case atStart => exact ⟨0, Nat.zero_le _, rfl, HST0.out⟩
          case round =>
            clear HST0
            obtain ⟨k2, hk2, rfl, hst⟩ := hrel
            have hbwr := hst.2.2.2.2.2.2
            by_cases hlt2 : k2 < min len2 len3
            · rcases h2 with h20 | ⟨b, off, hx2, hb, hc0⟩
              · omega
              rcases h3 with h30 | ⟨b', off', rfl, hb', hc1⟩
              · omega
              obtain rfl : x2 = ⟨b, off, none⟩ := by simpa using hx2
              have hck0 : wr.cell? ⟨b, off + k2, none⟩ = some (.string (ss2 k2)) := (hbwr.cell (p := ⟨b, off + k2, none⟩) hb).trans (hc0 k2 (by omega))
              have hck1 : wr.cell? ⟨b', off' + k2, none⟩ = some (.string (ss3 k2)) := (hbwr.cell (p := ⟨b', off' + k2, none⟩) hb').trans (hc1 k2 (by omega))
              have hs2 := s2 k2 (by omega)
              have hsz2 := hbwr.size
              have hgt := hst.2.2.2.2.2.1
              obtain ⟨w2, hrun, hst2, hgrow⟩ := hst.step Trym.underlying44 (by unfold maxLen; omega) (by unfold maxLen; omega)
              have hrun' : (Instr.mapUpdate 44 (.map (some (wr0.heap.size))) (.string (ss2 k2)) (.string (ss3 k2))).run Trym.prog wr.drew = .ok () w2 := hrun
              have HST := hide2 hst2
              have kp0 : w2.cell? ⟨b, off + k2, none⟩ = some (.string (ss2 k2)) := (hgrow.cell_far ⟨b, off + k2, none⟩ (by show b < wr.heap.size; omega) (by simp; omega)).trans hck0
              have kp1 : w2.cell? ⟨b', off' + k2, none⟩ = some (.string (ss3 k2)) := (hgrow.cell_far ⟨b', off' + k2, none⟩ (by show b' < wr.heap.size; omega) (by simp; omega)).trans hck1
              have hj0 : (0 : Int) ≤ (k2 : Int) := Int.natCast_nonneg _
              have hj1 : (k2 : Int) < (len2 : Int) := by omega
              have hj2 : (k2 : Int) < (len3 : Int) := by omega
              clear hc0 hc1 hx2 hrun hst2 hgrow hst s2 hbwr
              go_wp2_with fail
              go_region_held3 (fun w' => w'.cell? ⟨b, off + k2, none⟩ = some (.string (ss2 k2)) ∧ w'.cell? ⟨b', off' + k2, none⟩ = some (.string (ss3 k2)))
                (first | go_keep | exact ⟨kp0, kp1⟩)
                (fail)
              go_wp2
              go_roundw
              case rel => exact ⟨k2 + 1, by omega, by go_num, HST.out⟩
              case measure => simp [intOf]; omega
            · obtain rfl : k2 = min len2 len3 := by omega
              obtain ⟨-, c4, c5, f4, f5⟩ := hst.2.1
              have HD := hide2 hst.done
              clear hst hbwr s2 h2 h3
              go_wp2
              go_ret
              exact HD.out
end Go.Proofs.Qxb6600475aMods
