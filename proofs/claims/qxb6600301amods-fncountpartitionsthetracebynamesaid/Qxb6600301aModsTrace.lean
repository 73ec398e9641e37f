/- THE TRACE THAT THE LAW ITSELF MAKES: a row of points (a string and an int each), owned by the call. Worlds and lists alone; nothing of the dump. -/
import Derived.Test.Qxb6600301aModsPlain
import Derived.Deep.AppendLies
namespace Go.Proofs.Qxb6600301aMods
open Go.ChangeShapes Go.WideShapes Go.ChangeAt Go.RowKit

/-- The cells 'xs' are k points, the j-th bearing the name 'ss j'. -/
def Pts (ss : Nat → ByteArray) (k : Nat) (xs : List Value) : Prop :=
  xs.length = k * 2 ∧ ∀ j, j < k → xs[j * 2]? = some (.string (ss j)) ∧ ∃ z : Int, xs[j * 2 + 1]? = some (.int .i64 z)
theorem Pts.zero (ss : Nat → ByteArray) : Pts ss 0 [] := ⟨rfl, fun j hj => by omega⟩
theorem Pts.snoc {ss : Nat → ByteArray} {k : Nat} {xs : List Value} (h : Pts ss k xs) (z : Int) : Pts ss (k + 1) (xs ++ [.string (ss k), .int .i64 z]) := by
  obtain ⟨h1, h2⟩ := h
  refine ⟨by simp [h1]; omega, fun j hj => ?_⟩
  by_cases hjk : j < k
  · obtain ⟨e0, z', e1⟩ := h2 j hjk
    exact ⟨by rw [List.getElem?_append_left (by omega)]; exact e0, z', by rw [List.getElem?_append_left (by omega)]; exact e1⟩
  · obtain rfl : j = k := by omega
    refine ⟨?_, z, ?_⟩
    · rw [List.getElem?_append_right (by omega), h1]; simp
    · rw [List.getElem?_append_right (by omega), h1]; simp
/-- The value '.slice (some ⟨g, 0, none⟩) k cap' owns k points with the names 'ss 0' .. -/
def TrAt (B : Nat) (w : World) (ss : Nat → ByteArray) (k g cap : Nat) : Prop :=
  ∃ xs, w.ownsRow B 30 2 (.slice (some ⟨g, 0, none⟩) k cap) k xs ∧ Pts ss k xs
theorem ownsRow_lt {w : World} {B : Nat} {e : TypeId} {size g n cap : Nat} {xs : List Value} (h : w.ownsRow B e size (.slice (some ⟨g, 0, none⟩) n cap) n xs) : g < w.heap.size ∧ B ≤ g := by
  rcases h.2 with ⟨h', _⟩ | ⟨g', cap', cur, h', hb, hg, _⟩
  · simp at h'
  · simp only [Value.slice.injEq, Option.some.injEq, Addr.mk.injEq, and_true, true_and] at h'
    obtain ⟨rfl, rfl⟩ := h'
    refine ⟨?_, hb⟩
    rcases Nat.lt_or_ge g w.heap.size with hlt | hge
    · exact hlt
    · rw [Array.getElem?_eq_none hge] at hg; cases hg
theorem ownsRow_below {w w' : World} {B : Nat} {e : TypeId} {size g n cap : Nat} {xs : List Value} (h : w.ownsRow B e size (.slice (some ⟨g, 0, none⟩) n cap) n xs) (hb : Below w.heap.size w w') : w'.ownsRow B e size (.slice (some ⟨g, 0, none⟩) n cap) n xs := by
  have hlt := (ownsRow_lt h).1
  refine ⟨h.1, ?_⟩
  rcases h.2 with ⟨h', _⟩ | ⟨g', cap', cur, h', hB, hg, r⟩
  · simp at h'
  · have h2 := h'
    simp only [Value.slice.injEq, Option.some.injEq, Addr.mk.injEq, and_true, true_and] at h2
    obtain ⟨rfl, rfl⟩ := h2
    exact .inr ⟨g, cap, cur, h', hB, by rw [hb.block g hlt]; exact hg, r⟩
theorem TrAt.below {B : Nat} {w w' : World} {ss : Nat → ByteArray} {k g cap : Nat} (h : TrAt B w ss k g cap) (hb : Below w.heap.size w w') : TrAt B w' ss k g cap := by
  obtain ⟨xs, h1, h2⟩ := h
  exact ⟨xs, ownsRow_below h1 hb, h2⟩
theorem TrAt.lt {B : Nat} {w : World} {ss : Nat → ByteArray} {k g cap : Nat} (h : TrAt B w ss k g cap) : g < w.heap.size ∧ B ≤ g := by
  obtain ⟨xs, h1, h2⟩ := h
  exact ownsRow_lt h1
theorem TrAt.cells {B : Nat} {w : World} {ss : Nat → ByteArray} {k g cap : Nat} (h : TrAt B w ss k g cap) :
    (∀ j, j < k → w.cell? ⟨g, j * 2, none⟩ = some (.string (ss j))) ∧ ∃ zs : Nat → Int, ∀ j, j < k → w.cell? ⟨g, j * 2 + 1, none⟩ = some (.int .i64 (zs j)) := by
  obtain ⟨xs, h1, hl, h2⟩ := h
  refine ⟨fun j hj => by rw [h1.cellAt (j * 2) (by omega)]; exact (h2 j hj).1, fun j => match xs[j * 2 + 1]? with | some (.int _ z) => z | _ => 0, fun j hj => ?_⟩
  obtain ⟨_, z, hz⟩ := h2 j hj
  rw [h1.cellAt (j * 2 + 1) (by omega), hz]
  simp only [hz]
end Go.Proofs.Qxb6600301aMods
