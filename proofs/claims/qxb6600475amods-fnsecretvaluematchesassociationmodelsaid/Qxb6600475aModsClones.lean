/- zzCloneBytes (9), zzCloneStrings (17), zzCloneByteSlices (18): their contracts. -/
import Derived.Test.Qxb6600475aModsRows
import Derived.Test.Qxb6600475aModsPlain
import Derived.WalkSpells
import Derived.WalkSmall
import Derived.OwnWalk
import Derived.Lib.LazyBuf
namespace Go.Proofs.Qxb6600475aMods
open Go.ChangeShapes Go.WideShapes Go.ChangeAt Go.RowKit

theorem Trym.info5 : (Trym.prog.info? 5).map (fun i => (i.zero, i.size, i.bytes)) = some (some (.int .u8 0), 1, 1) := by kernel_rfl
theorem Trym.info9 : (Trym.prog.info? 9).map (fun i => (i.zero, i.size, i.bytes)) = some (some (.string ByteArray.empty), 1, 16) := by kernel_rfl
theorem Trym.info22 : (Trym.prog.info? 22).map (fun i => (i.zero, i.size, i.bytes)) = some (some (.slice none 0 0), 1, 24) := by kernel_rfl

/-- What the clone of a slice of bytes ends in: a slice of the same length, nil just if the other was, in new memory from block B on. -/
def CloneEnd (w : World) (B L : Nat) (e : Ending) (w' : World) : Prop :=
  ∃ (a' : Option Addr) (C' : Nat), e = .returned (.slice a' L C') ∧ Bs w' B a' L C' ∧ Below w.heap.size w w'

theorem clone9 (a : Option Addr) (L C B : Nat) (w : World) (h : Bs w 0 a L C) (hl : L ≤ 1048576) (hB : B ≤ w.heap.size) :
    Calls Trym.prog 9 #[.slice a L C] w fun e w' => CloneEnd w B L e w' := by
  obtain ⟨i0, hi0, hz0, hz1, hz2⟩ := info_parts Trym.info5
  have q22 := fun (w : World) (a : Option Addr) (n c : Nat) => Lib.run_eql_slice_nil (P := Trym.prog) w 22 5 a n c 0 0 Trym.underlying22
  obtain ⟨h1, h2⟩ := h
  cases a with
  | none =>
    obtain ⟨rfl, rfl⟩ := h1 rfl
    go_enter Trym.func9, Trym.ntmps9
    go_wp2
    go_ret
    exact ⟨none, 0, rfl, ⟨fun _ => ⟨rfl, rfl⟩, .inl rfl⟩, Below.refl _ _⟩
  | some x =>
    clear h1
    go_enter Trym.func9, Trym.ntmps9
    go_wp2_with (at_make; refine wpList_make_full _ rfl _ _ 22 rfl 0 5 i0 _ 1 Trym.underlying22 hi0 hz0 hz1 .i64 .i64 _ _ L rfl rfl rfl rfl (by rw [hz2]; omega) (by unfold maxLen; omega) (Nat.zero_le _) ?_; intro wm hown hgrow)
    have hbm : Below w.heap.size w wm := (Below.refl _ _).grown hgrow (Nat.le_refl _) (fun k hk => by cases hk)
    have hfl : Fill wm 5 (fun j => .int .u8 0) 0 L w.heap.size := ⟨_, hown, fun j hj => by omega⟩
    clear hown hgrow
    rcases h2 with rfl | ⟨b, off, zs, hx, -, hb, hc⟩
    · go_loop [4] (fun i => i = .int .i64 0) (fun _ => 0)
      case atStart => rfl
      case round =>
        subst hrel
        go_wp2
        go_ret
        exact ⟨some ⟨w.heap.size, 0, none⟩, 0, rfl, ⟨(fun h => by cases h), .inl rfl⟩, hbm⟩
    · obtain rfl : x = ⟨b, off, none⟩ := by simpa using hx
      clear hx
      have hfl' : Fill wm 5 (fun j => .int .u8 (zs j)) 0 L w.heap.size := hfl.congr (fun j hj => by omega)
      clear hfl
      go_loopw [4] (fun i wr => ∃ k : Nat, k ≤ L ∧ i = .int .i64 k ∧ Fill wr 5 (fun j => .int .u8 (zs j)) k L w.heap.size ∧ Below w.heap.size w wr) (fun i _ => L - (intOf i).toNat)
      case atStart => exact ⟨0, Nat.zero_le _, rfl, hfl', hbm⟩
      case round =>
        clear hfl' hbm
        obtain ⟨k, hk, rfl, hfl, hbw⟩ := hrel
        by_cases hlt : k < L
        · have hck : wr.cell? ⟨b, off + k, none⟩ = some (.int .u8 (zs k)) := (hbw.cell (p := ⟨b, off + k, none⟩) hb).trans (hc k hlt)
          obtain ⟨⟨v0, hv0⟩, hf0⟩ := hfl.at hlt
          have hst := hfl.step hlt
          have hbs := hbw.setCell (p := ⟨w.heap.size, k, none⟩) (Nat.le_refl _) (.int .u8 (zs k))
          have hst' : Hid (Fill (wr.setCell ⟨w.heap.size, k, none⟩ (.int .u8 (zs k))) 5 (fun j => .int .u8 (zs j)) (k + 1) L w.heap.size ∧ Below w.heap.size w (wr.setCell ⟨w.heap.size, k, none⟩ (.int .u8 (zs k)))) := ⟨hst, hbs⟩
          clear hst hbs hc hfl
          go_wp2
          go_roundw
          case rel => exact ⟨k + 1, by omega, by go_num, hst'.out.1, hst'.out.2⟩
          case measure => simp [intOf]; omega
        · obtain rfl : k = L := by omega
          have hlast : Hid (Bs wr B (some ⟨w.heap.size, 0, none⟩) k k) := ⟨(fun h => by cases h), .inr ⟨w.heap.size, 0, zs, rfl, hB, hfl.lt, fun j hj => by rw [Nat.zero_add]; exact hfl.cell (Nat.le_refl _) j hj⟩⟩
          clear hc hfl
          go_wp2
          go_ret
          exact ⟨_, _, rfl, hlast.out, hbw⟩

/-- What the clone of a slice of strings ends in. -/
def StrsEnd (w : World) (len : Nat) (ss : Nat → ByteArray) (e : Ending) (w' : World) : Prop :=
  ∃ (a' : Option Addr) (C' : Nat), e = .returned (.slice a' len C') ∧ (a' = none → len = 0) ∧ StrsAt w' a' len ss ∧ Below w.heap.size w w'

theorem clone17 (a : Option Addr) (len cap : Nat) (ss : Nat → ByteArray) (w : World) (h1 : a = none → len = 0 ∧ cap = 0) (h2 : StrsAt w a len ss) (hl : len ≤ 1048576) :
    Calls Trym.prog 17 #[.slice a len cap] w fun e w' => StrsEnd w len ss e w' := by
  obtain ⟨i0, hi0, hz0, hz1, hz2⟩ := info_parts Trym.info9
  have q31 := fun (w : World) (a : Option Addr) (n c : Nat) => Lib.run_eql_slice_nil (P := Trym.prog) w 31 9 a n c 0 0 Trym.underlying31
  cases a with
  | none =>
    obtain ⟨rfl, rfl⟩ := h1 rfl
    go_enter Trym.func17, Trym.ntmps17
    go_wp2
    go_ret
    exact ⟨none, 0, rfl, fun _ => rfl, .inl rfl, Below.refl _ _⟩
  | some x =>
    clear h1
    go_enter Trym.func17, Trym.ntmps17
    go_wp2_with (at_make; refine wpList_make_full _ rfl _ _ 31 rfl 0 9 i0 _ 1 Trym.underlying31 hi0 hz0 hz1 .i64 .i64 _ _ len rfl rfl rfl rfl (by rw [hz2]; omega) (by unfold maxLen; omega) (Nat.zero_le _) ?_; intro wm hown hgrow)
    have hbm : Below w.heap.size w wm := (Below.refl _ _).grown hgrow (Nat.le_refl _) (fun k hk => by cases hk)
    have hfl : Fill wm 9 (fun j => .string (ss j)) 0 len w.heap.size := ⟨_, hown, fun j hj => by omega⟩
    clear hown hgrow
    rcases h2 with rfl | ⟨b, off, hx, hb, hc⟩
    · go_loop [4] (fun i => i = .int .i64 0) (fun _ => 0)
      case atStart => rfl
      case round =>
        subst hrel
        go_wp2
        go_ret
        exact ⟨some ⟨w.heap.size, 0, none⟩, 0, rfl, fun _ => rfl, .inl rfl, hbm⟩
    · obtain rfl : x = ⟨b, off, none⟩ := by simpa using hx
      clear hx
      go_loopw [4] (fun i wr => ∃ k : Nat, k ≤ len ∧ i = .int .i64 k ∧ Fill wr 9 (fun j => .string (ss j)) k len w.heap.size ∧ Below w.heap.size w wr) (fun i _ => len - (intOf i).toNat)
      case atStart => exact ⟨0, Nat.zero_le _, rfl, hfl, hbm⟩
      case round =>
        clear hfl hbm
        obtain ⟨k, hk, rfl, hfl, hbw⟩ := hrel
        by_cases hlt : k < len
        · have hck : wr.cell? ⟨b, off + k, none⟩ = some (.string (ss k)) := (hbw.cell (p := ⟨b, off + k, none⟩) hb).trans (hc k hlt)
          obtain ⟨⟨v0, hv0⟩, hf0⟩ := hfl.at hlt
          have hst' : Hid (Fill (wr.setCell ⟨w.heap.size, k, none⟩ (.string (ss k))) 9 (fun j => .string (ss j)) (k + 1) len w.heap.size ∧ Below w.heap.size w (wr.setCell ⟨w.heap.size, k, none⟩ (.string (ss k)))) := ⟨hfl.step hlt, hbw.setCell (p := ⟨w.heap.size, k, none⟩) (Nat.le_refl _) (.string (ss k))⟩
          clear hc hfl
          go_wp2
          go_roundw
          case rel => exact ⟨k + 1, by omega, by go_num, hst'.out.1, hst'.out.2⟩
          case measure => simp [intOf]; omega
        · obtain rfl : k = len := by omega
          have hlast : Hid (StrsAt wr (some ⟨w.heap.size, 0, none⟩) k ss) := .inr ⟨w.heap.size, 0, rfl, hfl.lt, fun j hj => by rw [Nat.zero_add]; exact hfl.cell (Nat.le_refl _) j hj⟩
          clear hc hfl
          go_wp2
          go_ret
          exact ⟨_, _, rfl, (fun h => by cases h), hlast.out, hbw⟩
/-- What the clone of a slice of slices of bytes ends in. -/
def RowsEnd (w : World) (len : Nat) (L : Nat → Nat) (e : Ending) (w' : World) : Prop :=
  ∃ (a' : Option Addr) (c' : Nat) (A' : Nat → Option Addr) (C' : Nat → Nat), e = .returned (.slice a' len c') ∧ (a' = none → len = 0) ∧ RowsAt w' a' len A' L C' ∧ Below w.heap.size w w'
/-- The row of the clones so far. -/
def RowsFill (w : World) (L : Nat → Nat) (k n g : Nat) : Prop :=
  ∃ (A' : Nat → Option Addr) (C' : Nat → Nat), Fill w 22 (fun j => .slice (A' j) (L j) (C' j)) k n g ∧ ∀ j, j < k → Bs w (g + 1) (A' j) (L j) (C' j)
theorem RowsFill.step {w : World} {L : Nat → Nat} {k n g : Nat} (h : RowsFill w L k n g) (hk : k < n) {a : Option Addr} {C : Nat} (hb : Bs w (g + 1) a (L k) C) : RowsFill (w.setCell ⟨g, k, none⟩ (.slice a (L k) C)) L (k + 1) n g := by
  obtain ⟨A', C', h1, h2⟩ := h
  have h1' : Fill w 22 (fun j => .slice (if j = k then a else A' j) (L j) (if j = k then C else C' j)) k n g := h1.congr (fun j hj => by simp [show ¬ j = k by omega])
  have h1s := h1'.step hk
  simp only [if_true] at h1s
  refine ⟨fun j => if j = k then a else A' j, fun j => if j = k then C else C' j, h1s, fun j hj => ?_⟩
  by_cases e : j = k
  · subst e
    simp only [if_true]
    exact hb.setCell (by show g < g + 1; omega) _
  · simp only [e, if_false]
    exact (h2 j (by omega)).setCell (by show g < g + 1; omega) _
theorem RowsFill.below {w w' : World} {L : Nat → Nat} {k n g : Nat} (h : RowsFill w L k n g) (hb : Below w.heap.size w w') : RowsFill w' L k n g := by
  obtain ⟨A', C', h1, h2⟩ := h
  exact ⟨A', C', h1.below hb, fun j hj => (h2 j hj).below hb⟩
theorem RowsFill.at {w : World} {L : Nat → Nat} {k n g : Nat} (h : RowsFill w L k n g) (hk : k < n) : (∃ v, w.cell? ⟨g, k, none⟩ = some v) ∧ w.frozen? ⟨g, k, none⟩ = false ∧ g < w.heap.size := by
  obtain ⟨A', C', h1, h2⟩ := h
  exact ⟨(h1.at hk).1, (h1.at hk).2, h1.lt⟩
theorem RowsFill.rows {w : World} {L : Nat → Nat} {n g : Nat} (h : RowsFill w L n n g) : ∃ (A' : Nat → Option Addr) (C' : Nat → Nat), RowsAt w (some ⟨g, 0, none⟩) n A' L C' := by
  obtain ⟨A', C', h1, h2⟩ := h
  exact ⟨A', C', .inr ⟨g, 0, rfl, h1.lt, fun j hj => ⟨by rw [Nat.zero_add]; exact h1.cell (Nat.le_refl _) j hj, (h2 j hj).lower (Nat.zero_le _)⟩⟩⟩

theorem clone18 (a : Option Addr) (len cap : Nat) (A : Nat → Option Addr) (L C : Nat → Nat) (w : World) (h1 : a = none → len = 0 ∧ cap = 0) (h2 : RowsAt w a len A L C) (hl : len ≤ 1048576) (hs : ∀ j, j < len → L j ≤ 1048576) :
    Calls Trym.prog 18 #[.slice a len cap] w fun e w' => RowsEnd w len L e w' := by
  obtain ⟨i0, hi0, hz0, hz1, hz2⟩ := info_parts Trym.info22
  have q26 := fun (w : World) (a : Option Addr) (n c : Nat) => Lib.run_eql_slice_nil (P := Trym.prog) w 26 22 a n c 0 0 Trym.underlying26
  cases a with
  | none =>
    obtain ⟨rfl, rfl⟩ := h1 rfl
    go_enter Trym.func18, Trym.ntmps18
    go_wp2
    go_ret
    exact ⟨none, 0, A, C, rfl, fun _ => rfl, .inl rfl, Below.refl _ _⟩
  | some x =>
    clear h1
    go_enter Trym.func18, Trym.ntmps18
    go_wp2_with (at_make; refine wpList_make_full _ rfl _ _ 26 rfl 0 22 i0 _ 1 Trym.underlying26 hi0 hz0 hz1 .i64 .i64 _ _ len rfl rfl rfl rfl (by rw [hz2]; omega) (by unfold maxLen; omega) (Nat.zero_le _) ?_; intro wm hown hgrow)
    have hbm : Below w.heap.size w wm := (Below.refl _ _).grown hgrow (Nat.le_refl _) (fun k hk => by cases hk)
    have hfl : RowsFill wm L 0 len w.heap.size := ⟨A, C, ⟨_, hown, fun j hj => by omega⟩, fun j hj => by omega⟩
    clear hown hgrow
    rcases h2 with rfl | ⟨b, off, hx, hb, hc⟩
    · go_loop [4] (fun i => i = .int .i64 0) (fun _ => 0)
      case atStart => rfl
      case round =>
        subst hrel
        go_wp2
        go_ret
        exact ⟨some ⟨w.heap.size, 0, none⟩, 0, A, C, rfl, fun _ => rfl, .inl rfl, hbm⟩
    · obtain rfl : x = ⟨b, off, none⟩ := by simpa using hx
      clear hx
      go_loopw [4] (fun i wr => ∃ k : Nat, k ≤ len ∧ i = .int .i64 k ∧ RowsFill wr L k len w.heap.size ∧ Below w.heap.size w wr) (fun i _ => len - (intOf i).toNat)
      case atStart => exact ⟨0, Nat.zero_le _, rfl, hfl, hbm⟩
      case round =>
        clear hfl hbm
        obtain ⟨k, hk, rfl, hfl, hbw⟩ := hrel
        by_cases hlt : k < len
        · have hck : wr.cell? ⟨b, off + k, none⟩ = some (.slice (A k) (L k) (C k)) := (hbw.cell (p := ⟨b, off + k, none⟩) hb).trans (hc k hlt).1
          have hbk : Bs wr 0 (A k) (L k) (C k) := (hc k hlt).2.below hbw
          have hsk := hs k hlt
          have hszw := hbw.size
          obtain ⟨-, -, hgl⟩ := hfl.at hlt
          have HC : Hid (Calls Trym.prog 9 #[.slice (A k) (L k) (C k)] wr fun e w' => CloneEnd wr (w.heap.size + 1) (L k) e w') := clone9 (A k) (L k) (C k) (w.heap.size + 1) wr hbk hsk (by omega)
          clear hc hs hbk
          go_wp2_with fail
          refine HC.out.mono ?_
          rintro e w1 ⟨a', C', rfl, hbs, hb1⟩
          have hfl1 := hfl.below hb1
          have hbw1 : Below w.heap.size w w1 := hbw.trans (hb1.mono hszw)
          obtain ⟨⟨v0, hv0⟩, hf0, -⟩ := hfl1.at hlt
          have hst' : Hid (RowsFill (w1.setCell ⟨w.heap.size, k, none⟩ (.slice a' (L k) C')) L (k + 1) len w.heap.size ∧ Below w.heap.size w (w1.setCell ⟨w.heap.size, k, none⟩ (.slice a' (L k) C'))) := ⟨hfl1.step hlt hbs, hbw1.setCell (p := ⟨w.heap.size, k, none⟩) (Nat.le_refl _) _⟩
          clear HC hfl hbw hb1 hfl1 hbs hbw1
          go_wp2
          go_roundw
          case rel => exact ⟨k + 1, by omega, by go_num, hst'.out.1, hst'.out.2⟩
          case measure => simp [intOf]; omega
        · obtain rfl : k = len := by omega
          obtain ⟨A', C', hlast0⟩ := hfl.rows
          have hlast : Hid (RowsAt wr (some ⟨w.heap.size, 0, none⟩) k A' L C') := hlast0
          clear hc hfl hlast0 hs
          go_wp2
          go_ret
          exact ⟨_, _, A', C', rfl, (fun h => by cases h), hlast.out, hbw⟩
end Go.Proofs.Qxb6600475aMods
