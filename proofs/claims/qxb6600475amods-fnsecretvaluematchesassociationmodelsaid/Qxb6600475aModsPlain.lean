/- THE PLAIN SIDE: what the walks are told of the slices that came in and of the rows that the call makes. Nothing of the dump. -/
import Derived.WalkKit
import Derived.ProofKit
namespace Go.Proofs.Qxb6600475aMods
open Go.ChangeShapes Go.WideShapes Go.ChangeAt Go.RowKit

theorem ret_int {k : IntKind} {a b : Int} (h : a = b) : Ending.returned (.int k a) = .returned (.int k b) := by rw [h]
theorem int_eq {k : IntKind} {a b : Int} (h : a = b) : Value.int k a = Value.int k b := by rw [h]
theorem bool_eq {a b : Bool} (h : a = b) : Value.bool a = Value.bool b := by rw [h]

/-- A slice of strings: no element, or a row whose first 'len' cells hold 'ss 0', 'ss 1', .. -/
def StrsAt (w : World) (a : Option Addr) (len : Nat) (ss : Nat → ByteArray) : Prop :=
  len = 0 ∨ ∃ b off, a = some ⟨b, off, none⟩ ∧ b < w.heap.size ∧ ∀ k, k < len → w.cell? ⟨b, off + k, none⟩ = some (.string (ss k))
theorem StrsAt.below {w w' : World} {a : Option Addr} {len : Nat} {ss : Nat → ByteArray} (h : StrsAt w a len ss) (hb : Below w.heap.size w w') : StrsAt w' a len ss := by
  rcases h with h | ⟨b, off, rfl, hl, hc⟩
  · exact .inl h
  · exact .inr ⟨b, off, rfl, Nat.lt_of_lt_of_le hl hb.size, fun k hk => (hb.cell (p := ⟨b, off + k, none⟩) hl).trans (hc k hk)⟩
/-- A slice of bytes, from block B on. -/
def Bs (w : World) (B : Nat) (a : Option Addr) (L C : Nat) : Prop :=
  (a = none → L = 0 ∧ C = 0) ∧ (L = 0 ∨ ∃ b off, ∃ zs : Nat → Int, a = some ⟨b, off, none⟩ ∧ B ≤ b ∧ b < w.heap.size ∧ ∀ j, j < L → w.cell? ⟨b, off + j, none⟩ = some (.int .u8 (zs j)))
theorem Bs.below {w w' : World} {B : Nat} {a : Option Addr} {L C : Nat} (h : Bs w B a L C) (hb : Below w.heap.size w w') : Bs w' B a L C := by
  obtain ⟨h1, h2⟩ := h
  refine ⟨h1, ?_⟩
  rcases h2 with h | ⟨b, off, zs, rfl, hB, hl, hc⟩
  · exact .inl h
  · exact .inr ⟨b, off, zs, rfl, hB, Nat.lt_of_lt_of_le hl hb.size, fun k hk => (hb.cell (p := ⟨b, off + k, none⟩) hl).trans (hc k hk)⟩
theorem setCell_far {B : Nat} {w : World} {p q : Addr} (hp : p.block < B) (u : Value) (hq : B ≤ q.block) : (w.setCell p u).cell? q = w.cell? q :=
  World.cell?_of_block (w := w) (Below.heap_setCell w p u q.block (by omega))
theorem Bs.setCell {w : World} {B : Nat} {a : Option Addr} {L C : Nat} (h : Bs w B a L C) {p : Addr} (hp : p.block < B) (u : Value) : Bs (w.setCell p u) B a L C := by
  obtain ⟨h1, h2⟩ := h
  refine ⟨h1, ?_⟩
  rcases h2 with h | ⟨b, off, zs, rfl, hB, hl, hc⟩
  · exact .inl h
  · refine .inr ⟨b, off, zs, rfl, hB, by simpa [World.setCell] using hl, fun k hk => ?_⟩
    rw [← hc k hk]
    exact setCell_far (q := ⟨b, off + k, none⟩) hp u hB
theorem Bs.lower {w : World} {B B' : Nat} {a : Option Addr} {L C : Nat} (h : Bs w B a L C) (hB : B' ≤ B) : Bs w B' a L C := by
  obtain ⟨h1, h2⟩ := h
  refine ⟨h1, ?_⟩
  rcases h2 with h | ⟨b, off, zs, rfl, hb, hl, hc⟩
  · exact .inl h
  · exact .inr ⟨b, off, zs, rfl, Nat.le_trans hB hb, hl, hc⟩
/-- A slice of slices of bytes. -/
def RowsAt (w : World) (a : Option Addr) (len : Nat) (A : Nat → Option Addr) (L C : Nat → Nat) : Prop :=
  len = 0 ∨ ∃ b off, a = some ⟨b, off, none⟩ ∧ b < w.heap.size ∧ ∀ k, k < len → w.cell? ⟨b, off + k, none⟩ = some (.slice (A k) (L k) (C k)) ∧ Bs w 0 (A k) (L k) (C k)
theorem RowsAt.below {w w' : World} {a : Option Addr} {len : Nat} {A : Nat → Option Addr} {L C : Nat → Nat} (h : RowsAt w a len A L C) (hb : Below w.heap.size w w') : RowsAt w' a len A L C := by
  rcases h with h | ⟨b, off, rfl, hl, hc⟩
  · exact .inl h
  · exact .inr ⟨b, off, rfl, Nat.lt_of_lt_of_le hl hb.size, fun k hk => ⟨(hb.cell (p := ⟨b, off + k, none⟩) hl).trans (hc k hk).1, (hc k hk).2.below hb⟩⟩

/-! ### A row of n one-cell elements that the call makes and fills, of which the first k hold f 0 .. f (k-1) -/
theorem ownsRow_lt {w : World} {B : Nat} {e : TypeId} {size g n cap : Nat} {xs : List Value} (h : w.ownsRow B e size (.slice (some ⟨g, 0, none⟩) n cap) n xs) : g < w.heap.size ∧ B ≤ g := by
  rcases h.2 with ⟨h', _⟩ | ⟨g', cap', cur, h', hb, hg, _⟩
  · simp at h'
  · simp only [Value.slice.injEq, Option.some.injEq, Addr.mk.injEq, and_true, true_and] at h'
    obtain ⟨rfl, rfl⟩ := h'
    refine ⟨?_, hb⟩
    rcases Nat.lt_or_ge g w.heap.size with hlt | hge
    · exact hlt
    · rw [Array.getElem?_eq_none hge] at hg; cases hg
theorem ownsRow_below {w w' : World} {B : Nat} {e : TypeId} {size g n cap : Nat} {xs : List Value} (h : w.ownsRow B e size (.slice (some ⟨g, 0, none⟩) n cap) n xs) (hb : Below w.heap.size w w') : w'.ownsRow B e size (.slice (some ⟨g, 0, none⟩) n cap) n xs := by
  have hlt := (ownsRow_lt h).1
  refine ⟨h.1, ?_⟩
  rcases h.2 with ⟨h', _⟩ | ⟨g', cap', cur, h', hB, hg, r⟩
  · simp at h'
  · have h2 := h'
    simp only [Value.slice.injEq, Option.some.injEq, Addr.mk.injEq, and_true, true_and] at h2
    obtain ⟨rfl, rfl⟩ := h2
    exact .inr ⟨g, cap, cur, h', hB, by rw [hb.block g hlt]; exact hg, r⟩
def Fill (w : World) (e : TypeId) (f : Nat → Value) (k n g : Nat) : Prop :=
  ∃ xs, w.ownsRow 0 e 1 (.slice (some ⟨g, 0, none⟩) n n) n xs ∧ ∀ j, j < k → xs[j]? = some (f j)
theorem Fill.lt {w : World} {e : TypeId} {f : Nat → Value} {k n g : Nat} (h : Fill w e f k n g) : g < w.heap.size := by
  obtain ⟨xs, h1, _⟩ := h
  exact (ownsRow_lt h1).1
theorem Fill.at {w : World} {e : TypeId} {f : Nat → Value} {k n g : Nat} (h : Fill w e f k n g) (hk : k < n) : (∃ v, w.cell? ⟨g, k, none⟩ = some v) ∧ w.frozen? ⟨g, k, none⟩ = false := by
  obtain ⟨xs, h1, h2⟩ := h
  have hl := h1.1
  refine ⟨⟨xs[k]'(by omega), ?_⟩, h1.frozenAt _⟩
  rw [h1.cellAt _ (by omega)]; exact List.getElem?_eq_getElem (by omega)
theorem Fill.cell {w : World} {e : TypeId} {f : Nat → Value} {k n g : Nat} (h : Fill w e f k n g) (hkn : k ≤ n) (j : Nat) (hj : j < k) : w.cell? ⟨g, j, none⟩ = some (f j) := by
  obtain ⟨xs, h1, h2⟩ := h
  rw [h1.cellAt _ (by omega)]; exact h2 j hj
theorem Fill.step {w : World} {e : TypeId} {f : Nat → Value} {k n g : Nat} (h : Fill w e f k n g) (hk : k < n) : Fill (w.setCell ⟨g, k, none⟩ (f k)) e f (k + 1) n g := by
  obtain ⟨xs, h1, h2⟩ := h
  have hl := h1.1
  refine ⟨_, (h1.stored k (f k)).1, fun j hj => ?_⟩
  by_cases e : j = k
  · subst e
    rw [List.getElem?_set_self (by omega)]
  · rw [List.getElem?_set_ne (by omega)]; exact h2 j (by omega)
theorem Fill.congr {w : World} {e : TypeId} {f f' : Nat → Value} {k n g : Nat} (h : Fill w e f k n g) (hf : ∀ j, j < k → f j = f' j) : Fill w e f' k n g := by
  obtain ⟨xs, h1, h2⟩ := h
  exact ⟨xs, h1, fun j hj => by rw [← hf j hj]; exact h2 j hj⟩
theorem Fill.below {w w' : World} {e : TypeId} {f : Nat → Value} {k n g : Nat} (h : Fill w e f k n g) (hb : Below w.heap.size w w') : Fill w' e f k n g := by
  obtain ⟨xs, h1, h2⟩ := h
  exact ⟨xs, ownsRow_below h1 hb, h2⟩

/-- The last i < n with ss i = v, or -1. -/
def lastIdx (ss : Nat → ByteArray) (v : ByteArray) : Nat → Int
  | 0 => -1
  | k + 1 => if ((ss k).toList == v.toList) = true then (k : Int) else lastIdx ss v k
theorem lastIdx_hit (ss : Nat → ByteArray) (v : ByteArray) (k : Nat) (h : ((ss k).toList == v.toList) = true) : lastIdx ss v (k + 1) = k := by
  show (if _ then _ else _) = _
  rw [if_pos h]
theorem lastIdx_miss (ss : Nat → ByteArray) (v : ByteArray) (k : Nat) (h : ((ss k).toList == v.toList) = false) : lastIdx ss v (k + 1) = lastIdx ss v k := by
  show (if _ then _ else _) = _
  rw [if_neg (by rw [h]; simp)]
theorem lastIdx_bd (ss : Nat → ByteArray) (v : ByteArray) (k : Nat) : -1 ≤ lastIdx ss v k ∧ lastIdx ss v k < k := by
  induction k with
  | zero => show -1 ≤ (-1 : Int) ∧ (-1 : Int) < ((0 : Nat) : Int); omega
  | succ k ih =>
    cases h : ((ss k).toList == v.toList)
    · rw [lastIdx_miss _ _ _ h]; omega
    · rw [lastIdx_hit _ _ _ h]; omega
end Go.Proofs.Qxb6600475aMods
