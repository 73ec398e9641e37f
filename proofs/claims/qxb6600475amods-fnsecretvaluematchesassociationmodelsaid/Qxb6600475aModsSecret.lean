/- THE SECRET THAT zzBuildSecret MAKES: worlds alone. Its struct lies in block 'w.heap.size', Data in cell 4, StringData in cell 5. -/
import Derived.Test.Qxb6600475aModsMaps
import Derived.Deep.AppendLies
namespace Go.Proofs.Qxb6600475aMods
open Go.ChangeShapes Go.WideShapes Go.ChangeAt Go.RowKit

def SecAt (w : World) (sb : Nat) (m1 m2 : Option Nat) : Prop :=
  sb < w.heap.size ∧ w.cell? ⟨sb, 4, none⟩ = some (.map m1) ∧ w.cell? ⟨sb, 5, none⟩ = some (.map m2) ∧ w.frozen? ⟨sb, 4, none⟩ = false ∧ w.frozen? ⟨sb, 5, none⟩ = false
theorem SecAt.of_block {w w' : World} {sb : Nat} {m1 m2 : Option Nat} (h : SecAt w sb m1 m2) (hb : w'.heap[sb]? = w.heap[sb]?) (hs : w.heap.size ≤ w'.heap.size) : SecAt w' sb m1 m2 := by
  obtain ⟨h0, h1, h2, h3, h4⟩ := h
  exact ⟨by omega, (World.cell?_of_block (w := w) (a := ⟨sb, 4, none⟩) hb).trans h1, (World.cell?_of_block (w := w) (a := ⟨sb, 5, none⟩) hb).trans h2, (World.frozen?_of_block (w := w) (a := ⟨sb, 4, none⟩) hb).trans h3, (World.frozen?_of_block (w := w) (a := ⟨sb, 5, none⟩) hb).trans h4⟩
theorem SecAt.below {w w' : World} {sb : Nat} {m1 m2 : Option Nat} (h : SecAt w sb m1 m2) (hb : Below w.heap.size w w') : SecAt w' sb m1 m2 := h.of_block (hb.block sb h.1) hb.size
theorem SecAt.grown {w w' : World} {sb : Nat} {m1 m2 : Option Nat} {row : Option Nat} (h : SecAt w sb m1 m2) (hg : w.grownBy w' row) (hne : some sb ≠ row) : SecAt w' sb m1 m2 := h.of_block (hg.block sb h.1 hne) hg.size
theorem SecAt.set4 {w : World} {sb : Nat} {m1 m2 : Option Nat} (h : SecAt w sb m1 m2) (m : Option Nat) : SecAt (w.setCell ⟨sb, 4, none⟩ (.map m)) sb m m2 := by
  obtain ⟨h0, h1, h2, h3, h4⟩ := h
  refine ⟨by simpa [World.setCell] using h0, ?_, ?_, ?_, ?_⟩
  · exact World.cell?_setCell_same _ _ _ h1
  · exact (World.cell?_setCell_other _ _ _ _ (by simp)).trans h2
  · rw [World.frozen?_setCell]; exact h3
  · rw [World.frozen?_setCell]; exact h4
theorem SecAt.set5 {w : World} {sb : Nat} {m1 m2 : Option Nat} (h : SecAt w sb m1 m2) (m : Option Nat) : SecAt (w.setCell ⟨sb, 5, none⟩ (.map m)) sb m1 m := by
  obtain ⟨h0, h1, h2, h3, h4⟩ := h
  refine ⟨by simpa [World.setCell] using h0, ?_, ?_, ?_, ?_⟩
  · exact (World.cell?_setCell_other _ _ _ _ (by simp)).trans h1
  · exact World.cell?_setCell_same _ _ _ h2
  · rw [World.frozen?_setCell]; exact h3
  · rw [World.frozen?_setCell]; exact h4
theorem LastMap.far {w w' : World} {b : Nat} {ss : Nat → ByteArray} {vs : Nat → Value} {k : Nat} {row : Option Nat} (h : LastMap w b ss vs k) (hg : w.grownBy w' row) (hne : some b ≠ row) : LastMap w' b ss vs k := by
  obtain ⟨D, h1, h2⟩ := h
  exact ⟨D, h1.kept hg hne, h2⟩
theorem MapAt.far {w w' : World} {m : Option Nat} {ss : Nat → ByteArray} {vs : Nat → Value} {n : Nat} {row : Option Nat} (h : MapAt w m ss vs n) (hg : w.grownBy w' row) (hne : m = none ∨ m ≠ row) : MapAt w' m ss vs n := by
  rcases h with h | ⟨b, rfl, h⟩
  · exact .inl h
  · rcases hne with hne | hne
    · cases hne
    · exact .inr ⟨b, rfl, h.far hg hne⟩
theorem MapAt.setCell {w : World} {m : Option Nat} {ss : Nat → ByteArray} {vs : Nat → Value} {n : Nat} (h : MapAt w m ss vs n) {p : Addr} (hp : m ≠ some p.block) (u : Value) : MapAt (w.setCell p u) m ss vs n := by
  rcases h with h | ⟨b, rfl, h⟩
  · exact .inl h
  · exact .inr ⟨b, rfl, h.setCell (fun e => hp (by rw [e])) u⟩

/-- While Data is filled. -/
def St1 (w wr : World) (ss0 : Nat → ByteArray) (vs1 : Nat → Value) (k : Nat) : Prop :=
  LastMap wr (w.heap.size + 1) ss0 vs1 k ∧ SecAt wr w.heap.size none none ∧ Below w.heap.size w wr
theorem St1.step {w wr : World} {ss0 : Nat → ByteArray} {vs1 : Nat → Value} {k : Nat} (h : St1 w wr ss0 vs1 k) {t e : TypeId} (ht : Trym.prog.underlying t = some (.map 9 e)) (hk : k < maxLen) (hs : (ss0 k).size ≤ maxLen) :
    ∃ w2, (Instr.mapUpdate t (.map (some (w.heap.size + 1))) (.string (ss0 k)) (vs1 k)).run Trym.prog wr.drew = .ok () w2 ∧ St1 w w2 ss0 vs1 (k + 1) ∧ wr.drew.grownBy w2 (some (w.heap.size + 1)) := by
  obtain ⟨h1, h2, h3⟩ := h
  obtain ⟨w2, hrun, hl, hg⟩ := h1.drew.store ht hk hs
  exact ⟨w2, hrun, ⟨hl, (show SecAt wr.drew w.heap.size none none from h2).grown hg (by simp), h3.drew.grown hg h3.size (fun j hj => by simp at hj; omega)⟩, hg⟩
/-- While StringData is filled. -/
def St2 (w wr : World) (m1 : Option Nat) (ss0 : Nat → ByteArray) (vs1 : Nat → Value) (n1 b2 : Nat) (ss2 : Nat → ByteArray) (vs3 : Nat → Value) (k : Nat) : Prop :=
  LastMap wr b2 ss2 vs3 k ∧ SecAt wr w.heap.size m1 none ∧ MapAt wr m1 ss0 vs1 n1 ∧ m1 ≠ some b2 ∧ m1 ≠ some w.heap.size ∧ w.heap.size < b2 ∧ Below w.heap.size w wr
theorem St2.step {w wr : World} {m1 : Option Nat} {ss0 : Nat → ByteArray} {vs1 : Nat → Value} {n1 b2 : Nat} {ss2 : Nat → ByteArray} {vs3 : Nat → Value} {k : Nat} (h : St2 w wr m1 ss0 vs1 n1 b2 ss2 vs3 k) {t e : TypeId} (ht : Trym.prog.underlying t = some (.map 9 e)) (hk : k < maxLen) (hs : (ss2 k).size ≤ maxLen) :
    ∃ w2, (Instr.mapUpdate t (.map (some b2)) (.string (ss2 k)) (vs3 k)).run Trym.prog wr.drew = .ok () w2 ∧ St2 w w2 m1 ss0 vs1 n1 b2 ss2 vs3 (k + 1) ∧ wr.drew.grownBy w2 (some b2) := by
  obtain ⟨h1, h2, h3, h4, h5, h6, h7⟩ := h
  obtain ⟨w2, hrun, hl, hg⟩ := h1.drew.store ht hk hs
  refine ⟨w2, hrun, ⟨hl, (show SecAt wr.drew w.heap.size m1 none from h2).grown hg (by simp; omega), (h3.below (w' := wr.drew) ((Below.refl _ _).drew)).far hg (.inr h4), h4, h5, h6, h7.drew.grown hg h7.size (fun j hj => by simp at hj; omega)⟩, hg⟩
/-- How zzBuildSecret ends. -/
def BuildEnd (w : World) (ss0 : Nat → ByteArray) (vs1 : Nat → Value) (n1 : Nat) (ss2 : Nat → ByteArray) (vs3 : Nat → Value) (n2 : Nat) (e : Ending) (w' : World) : Prop :=
  ∃ m1 m2, e = .returned (.pointer (some ⟨w.heap.size, 0, none⟩)) ∧ SecAt w' w.heap.size m1 m2 ∧ MapAt w' m1 ss0 vs1 n1 ∧ MapAt w' m2 ss2 vs3 n2 ∧ Below w.heap.size w w'
theorem St2.done {w wr : World} {m1 : Option Nat} {ss0 : Nat → ByteArray} {vs1 : Nat → Value} {n1 b2 : Nat} {ss2 : Nat → ByteArray} {vs3 : Nat → Value} {n2 : Nat} (h : St2 w wr m1 ss0 vs1 n1 b2 ss2 vs3 n2) :
    BuildEnd w ss0 vs1 n1 ss2 vs3 n2 (.returned (.pointer (some ⟨w.heap.size, 0, none⟩))) (wr.setCell ⟨w.heap.size, 5, none⟩ (.map (some b2))) := by
  obtain ⟨h1, h2, h3, h4, h5, h6, h7⟩ := h
  exact ⟨m1, some b2, rfl, h2.set5 _, h3.setCell h5 _, .inr ⟨b2, rfl, h1.setCell (by show b2 ≠ w.heap.size; omega) _⟩, h7.setCell (p := ⟨w.heap.size, 5, none⟩) (Nat.le_refl _) _⟩
theorem St2.start {w W : World} {m1 : Option Nat} {ss0 : Nat → ByteArray} {vs1 : Nat → Value} {n1 b2 : Nat} (ss2 : Nat → ByteArray) (vs3 : Nat → Value) (hsec : SecAt W w.heap.size m1 none) (hmap : MapAt W m1 ss0 vs1 n1) (hb2 : W.heap.size = b2) (ha : m1 ≠ some b2) (hb : m1 ≠ some w.heap.size) (hbw : Below w.heap.size w W) :
    St2 w (W.alloc (.map #[] 0)) m1 ss0 vs1 n1 b2 ss2 vs3 0 := by
  subst hb2
  have hbl : Below W.heap.size W (W.alloc (.map #[] 0)) := (Below.refl _ _).alloc (Nat.le_refl _) _
  exact ⟨LastMap.made _ _ _, hsec.below hbl, hmap.below hbl, ha, hb, hsec.1, hbw.trans (hbl.mono hbw.size)⟩
theorem BuildEnd.none2 {w W : World} {m1 : Option Nat} {ss0 : Nat → ByteArray} {vs1 : Nat → Value} {n1 : Nat} (ss2 : Nat → ByteArray) (vs3 : Nat → Value) {n2 : Nat} (hsec : SecAt W w.heap.size m1 none) (hmap : MapAt W m1 ss0 vs1 n1) (hn : n2 = 0) (hbw : Below w.heap.size w W) :
    BuildEnd w ss0 vs1 n1 ss2 vs3 n2 (.returned (.pointer (some ⟨w.heap.size, 0, none⟩))) W :=
  ⟨m1, none, rfl, hsec, hmap, .inl ⟨rfl, hn⟩, hbw⟩
/-- The struct as it is laid. -/
theorem secAt_new (w : World) (v0 v1 v2 v3 : Value) (t : TypeId) : SecAt (w.alloc (.cells #[v0, v1, v2, v3, .map none, .map none] t)) w.heap.size none none := by
  have hb : (w.alloc (.cells #[v0, v1, v2, v3, .map none, .map none] t)).heap[w.heap.size]? = some (.cells #[v0, v1, v2, v3, .map none, .map none] t) := heap_alloc_new w _
  refine ⟨by simp, ?_, ?_, ?_, ?_⟩
  · rw [cell_of_row _ _ 4 _ _ _ hb]; rfl
  · rw [cell_of_row _ _ 5 _ _ _ hb]; rfl
  · exact frozen_of_row _ _ 4 _ _ hb
  · exact frozen_of_row _ _ 5 _ _ hb
end Go.Proofs.Qxb6600475aMods
