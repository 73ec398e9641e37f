/- THE WALK OF FnSecretValueMatchesAssociationModel (6). -/
import Derived.Test.Qxb6600475aModsGate
import Derived.Test.Qxb6600475aModsSize
import Derived.Test.Qxb6600475aModsClones
import Derived.Test.Qxb6600475aModsValue
import Derived.Test.Qxb6600475aModsBuild
namespace Go.Proofs.Qxb6600475aMods
open Go.ChangeShapes Go.WideShapes Go.ChangeAt Go.RowKit

theorem zero9 (w : World) : (zeroValue 9).run Trym.prog w = .ok (.string ByteArray.empty) w := by kernel_rfl
theorem zero22 (w : World) : (zeroValue 22).run Trym.prog w = .ok (.slice none 0 0) w := by kernel_rfl

set_option maxRecDepth 100000 in
set_option maxHeartbeats 3200000 in
theorem law6 (a0 a1 a2 a3 : Option Addr) (len0 cap0 len1 cap1 len2 cap2 len3 cap3 : Nat) (ss0 : Nat → ByteArray) (A1 : Nat → Option Addr) (L1 C1 : Nat → Nat) (ss2 ss3 : Nat → ByteArray) (key : ByteArray) (w : World)
    (h0 : StrsAt w a0 len0 ss0) (h1 : RowsAt w a1 len1 A1 L1 C1) (h2 : StrsAt w a2 len2 ss2) (h3 : StrsAt w a3 len3 ss3)
    (n0 : a0 = none → len0 = 0 ∧ cap0 = 0) (n1 : a1 = none → len1 = 0 ∧ cap1 = 0) (n2 : a2 = none → len2 = 0 ∧ cap2 = 0) (n3 : a3 = none → len3 = 0 ∧ cap3 = 0)
    (l0 : len0 ≤ maxLen) (l1 : len1 ≤ maxLen) (l2 : len2 ≤ maxLen) (l3 : len3 ≤ maxLen) (lk : key.size ≤ maxLen) :
    Calls Trym.prog 6 #[.slice a0 len0 cap0, .slice a1 len1 cap1, .slice a2 len2 cap2, .slice a3 len3 cap3, .string key] w fun e w' => e = .returned (.bool true) ∧ Below w.heap.size w w' := by
  go_enter Trym.func6, Trym.ntmps6
  go_wp2_with fail
  refine (gate15 a0 a1 a2 a3 len0 cap0 len1 cap1 len2 cap2 len3 cap3 ss0 A1 L1 C1 ss2 ss3 key _ h0 h1 h2 h3 l0 l1 l2 l3 lk).mono ?_
  rintro e wx (⟨rfl, hw⟩ | ⟨rfl, hw, g0, g1, g2, g3, gk, gs0, gs1, gs2, gs3⟩)
  · subst wx
    go_wp2
    go_ret
    exact ⟨rfl, Below.refl _ _⟩
  subst wx
  clear l0 l1 l2 l3
  have GS := hide2 (And.intro gs0 (And.intro gs1 (And.intro gs2 gs3)))
  have NN := hide2 (And.intro n0 (And.intro n1 (And.intro n2 n3)))
  clear gs0 gs1 gs2 gs3 n0 n1 n2 n3
  go_wp2_with fail
  refine (size16 a0 a1 a2 a3 len0 cap0 len1 cap1 len2 cap2 len3 cap3 ss0 A1 L1 C1 ss2 ss3 key _ h0 h1 h2 h3 g0 g1 g2 g3).mono ?_
  rintro e w1 ⟨r, rfl, hb1⟩
  by_cases hr : 1048576 < r
  · go_wp2
    go_ret
    exact ⟨rfl, hb1⟩
  have h0 := h0.below hb1
  have h1 := h1.below hb1
  have h2 := h2.below hb1
  have h3 := h3.below hb1
  go_wp2_with fail
  refine (clone17 a0 len0 cap0 ss0 _ NN.out.1 h0 g0).mono ?_
  rintro e w2 ⟨a0', c0', rfl, n0', k0, hb2⟩
  have h1 := h1.below hb2
  have h2 := h2.below hb2
  have h3 := h3.below hb2
  have hbw2 := hb1.trans (hb2.mono hb1.size)
  go_wp2_with fail
  refine (clone18 a1 len1 cap1 A1 L1 C1 _ NN.out.2.1 h1 g1 GS.out.2.1).mono ?_
  rintro e w3 ⟨a1', c1', A1', C1', rfl, n1', k1, hb3⟩
  have h2 := h2.below hb3
  have h3 := h3.below hb3
  have k0 := k0.below hb3
  have hbw3 := hbw2.trans (hb3.mono hbw2.size)
  go_wp2_with fail
  refine (clone17 a2 len2 cap2 ss2 _ NN.out.2.2.1 h2 g2).mono ?_
  rintro e w4 ⟨a2', c2', rfl, n2', k2, hb4⟩
  have h3 := h3.below hb4
  have k0 := k0.below hb4
  have k1 := k1.below hb4
  have hbw4 := hbw3.trans (hb4.mono hbw3.size)
  go_wp2_with fail
  refine (clone17 a3 len3 cap3 ss3 _ NN.out.2.2.2 h3 g3).mono ?_
  rintro e w5 ⟨a3', c3', rfl, n3', k3, hb5⟩
  have k0 := k0.below hb5
  have k1 := k1.below hb5
  have k2 := k2.below hb5
  have hbw5 := hbw4.trans (hb5.mono hbw4.size)
  go_wp2_with fail
  refine (build19 a0' a1' a2' a3' len0 c0' len1 c1' len2 c2' len3 c3' ss0 A1' L1 C1' ss2 ss3 _ k0 k1 k2 k3 n0' n2' g0 g2 GS.out.1 GS.out.2.2.1).mono ?_
  rintro e w6 ⟨m1, m2, rfl, hsec, hm1, hm2, hb6⟩
  have k0 := k0.below hb6
  have k1 := k1.below hb6
  have k2 := k2.below hb6
  have k3 := k3.below hb6
  have hbw6 := hbw5.trans (hb6.mono hbw5.size)
  have hmin1 : min len0 len1 ≤ len0 := Nat.min_le_left _ _
  have hmin2 : min len2 len3 ≤ len2 := Nat.min_le_left _ _
  have hmin1' : min len0 len1 ≤ len1 := Nat.min_le_right _ _
  have hmin2' : min len2 len3 ≤ len3 := Nat.min_le_right _ _
  obtain ⟨-, c4, c5, -, -⟩ := hsec
  clear hb1 hb2 hb3 hb4 hb5 hb6 hbw2 hbw3 hbw4 hbw5 n0' n1' n2' n3' NN
  go_wp2_with fail
  rcases hm2.look Trym.underlying44 (zero9 _) lk with ⟨hl2, hrun2⟩ | ⟨j, hj, hl2, hrun2⟩
  · rcases hm1.look Trym.underlying47 (zero22 _) lk with ⟨hl1, hrun1⟩ | ⟨j, hj, hl1, hrun1⟩
    · -- neither has the key
      refine (value20_data w5.heap.size m1 m2 key none 0 0 false _ c4 c5 hrun2 hrun1).mono ?_
      rintro e wx ⟨rfl, hw⟩
      subst wx
      clear hrun1 hrun2 hm1 hm2 c4 c5
      have q22 := fun (w : World) (a : Option Addr) (n c : Nat) => Lib.run_eql_slice_nil (P := Trym.prog) w 22 5 a n c 0 0 Trym.underlying22
      go_wp2_with fail
      refine (min22 _ _ _).mono ?_
      rintro e wx ⟨rfl, hw⟩
      subst wx
      go_wp2_with fail
      refine (last21 a2' len2 c2' (min len2 len3) ss2 key _ k2 hmin2 (by omega)).mono ?_
      rintro e wx ⟨rfl, hw⟩
      subst wx
      rw [hl2]
      go_wp2_with fail
      refine (min22 _ _ _).mono ?_
      rintro e wx ⟨rfl, hw⟩
      subst wx
      go_wp2_with fail
      refine (last21 a0' len0 c0' (min len0 len1) ss0 key _ k0 hmin1 (by omega)).mono ?_
      rintro e wx ⟨rfl, hw⟩
      subst wx
      rw [hl1]
      go_wp2
      go_ret
      exact ⟨rfl, hbw6⟩
    · -- data has it
      refine (value20_data w5.heap.size m1 m2 key (A1' j) (L1 j) (C1' j) true _ c4 c5 hrun2 hrun1).mono ?_
      rintro e wx ⟨rfl, hw⟩
      subst wx
      clear hrun1 hrun2 hm1 hm2 c4 c5
      have q22 := fun (w : World) (a : Option Addr) (n c : Nat) => Lib.run_eql_slice_nil (P := Trym.prog) w 22 5 a n c 0 0 Trym.underlying22
      rcases k1 with k1 | ⟨b, off, rfl, hb, hc⟩
      · omega
      have hck := (hc j (by omega)).1
      have hbs := (hc j (by omega)).2
      have hls := GS.out.2.1 j (by omega)
      have hjl : (j : Int) < (len1 : Int) := by omega
      clear hc
      go_wp2_with fail
      refine (min22 _ _ _).mono ?_
      rintro e wx ⟨rfl, hw⟩
      subst wx
      go_wp2_with fail
      refine (last21 a2' len2 c2' (min len2 len3) ss2 key _ k2 hmin2 (by omega)).mono ?_
      rintro e wx ⟨rfl, hw⟩
      subst wx
      rw [hl2]
      go_wp2_with fail
      refine (min22 _ _ _).mono ?_
      rintro e wx ⟨rfl, hw⟩
      subst wx
      go_wp2_with fail
      refine (last21 a0' len0 c0' (min len0 len1) ss0 key _ k0 hmin1 (by omega)).mono ?_
      rintro e wx ⟨rfl, hw⟩
      subst wx
      rw [hl1]
      go_wp2_with fail
      refine (same12 (A1' j) (L1 j) (C1' j) 0 _ hbs hls).mono ?_
      rintro e w8 ⟨rfl, hb8⟩
      have hck8 : w8.cell? ⟨b, off + j, none⟩ = some (.slice (A1' j) (L1 j) (C1' j)) := (hb8.cell (p := ⟨b, off + j, none⟩) hb).trans hck
      go_wp2
      go_ret
      exact ⟨rfl, hbw6.trans (hb8.mono hbw6.size)⟩
  · -- stringData has it
    refine (value20_text w5.heap.size m2 key (ss3 j) _ c5 hrun2).mono ?_
    rintro e w7 ⟨cap, rfl, hcells, hlt7, hb7⟩
    have k2 := k2.below hb7
    have k3 := k3.below hb7
    have hbw7 := hbw6.trans (hb7.mono hbw6.size)
    clear hrun2 hm1 hm2 c4 c5 hbw6
    rcases k3 with k3 | ⟨b, off, rfl, hb, hc⟩
    · omega
    have hck := hc j (by omega)
    have hls := GS.out.2.2.2 j (by omega)
    have hjl : (j : Int) < (len3 : Int) := by omega
    have HT := hide2 (text23 w6.heap.size cap (ss3 j) w7 hlt7 hcells hls)
    clear hc hcells
    go_wp2_with fail
    refine (min22 _ _ _).mono ?_
    rintro e wx ⟨rfl, hw⟩
    subst wx
    go_wp2_with fail
    refine (last21 a2' len2 c2' (min len2 len3) ss2 key _ k2 hmin2 (by omega)).mono ?_
    rintro e wx ⟨rfl, hw⟩
    subst wx
    rw [hl2]
    go_wp2_with fail
    refine HT.out.mono ?_
    rintro e w8 ⟨rfl, hb8⟩
    go_wp2
    go_ret
    exact ⟨rfl, hbw7.trans (hb8.mono hbw7.size)⟩
end Go.Proofs.Qxb6600475aMods
