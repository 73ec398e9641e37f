/- THE PLAIN SIDE: what the walks are told of the slices that came in, and how many of the first k strings are a given one. Nothing of the dump. -/
import Derived.WalkKit
import Derived.ProofKit
namespace Go.Proofs.Qxb6600301aMods
open Go.ChangeShapes Go.WideShapes Go.ChangeAt Go.RowKit

/-- A slice of strings that came in: it has no element, or it leads to a row whose first 'len' cells hold the strings 'ss 0', 'ss 1', .. -/
def StrsAt (w : World) (a : Option Addr) (len : Nat) (ss : Nat → ByteArray) : Prop :=
  len = 0 ∨ ∃ b off, a = some ⟨b, off, none⟩ ∧ b < w.heap.size ∧ ∀ k, k < len → w.cell? ⟨b, off + k, none⟩ = some (.string (ss k))
/-- The same for a slice of ints. -/
def IntsAt (w : World) (a : Option Addr) (len : Nat) (zs : Nat → Int) : Prop :=
  len = 0 ∨ ∃ b off, a = some ⟨b, off, none⟩ ∧ b < w.heap.size ∧ ∀ k, k < len → w.cell? ⟨b, off + k, none⟩ = some (.int .i64 (zs k))
theorem StrsAt.below {w w' : World} {a : Option Addr} {len : Nat} {ss : Nat → ByteArray} (h : StrsAt w a len ss) (hb : Below w.heap.size w w') : StrsAt w' a len ss := by
  rcases h with h | ⟨b, off, rfl, hl, hc⟩
  · exact .inl h
  · exact .inr ⟨b, off, rfl, Nat.lt_of_lt_of_le hl hb.size, fun k hk => (hb.cell (p := ⟨b, off + k, none⟩) hl).trans (hc k hk)⟩
theorem IntsAt.below {w w' : World} {a : Option Addr} {len : Nat} {zs : Nat → Int} (h : IntsAt w a len zs) (hb : Below w.heap.size w w') : IntsAt w' a len zs := by
  rcases h with h | ⟨b, off, rfl, hl, hc⟩
  · exact .inl h
  · exact .inr ⟨b, off, rfl, Nat.lt_of_lt_of_le hl hb.size, fun k hk => (hb.cell (p := ⟨b, off + k, none⟩) hl).trans (hc k hk)⟩

/-- How many of 'ss 0' .. 'ss (k-1)' are 'name'. -/
def cnt (ss : Nat → ByteArray) (name : ByteArray) : Nat → Nat
  | 0 => 0
  | k + 1 => cnt ss name k + (if ((ss k).toList == name.toList) = true then 1 else 0)
theorem cnt_le (ss : Nat → ByteArray) (name : ByteArray) (k : Nat) : cnt ss name k ≤ k := by
  induction k with
  | zero => exact Nat.le_refl _
  | succ k ih => unfold cnt; split <;> omega
theorem cnt_hit (ss : Nat → ByteArray) (name : ByteArray) (k : Nat) (h : ((ss k).toList == name.toList) = true) : cnt ss name (k + 1) = cnt ss name k + 1 := by
  show cnt ss name k + _ = _
  rw [if_pos h]
theorem cnt_miss (ss : Nat → ByteArray) (name : ByteArray) (k : Nat) (h : ((ss k).toList == name.toList) = false) : cnt ss name (k + 1) = cnt ss name k := by
  show cnt ss name k + _ = _
  rw [if_neg (by rw [h]; simp)]
  rfl
theorem ret_int {k : IntKind} {a b : Int} (h : a = b) : Ending.returned (.int k a) = .returned (.int k b) := by rw [h]
theorem int_eq {k : IntKind} {a b : Int} (h : a = b) : Value.int k a = Value.int k b := by rw [h]
theorem bool_eq {a b : Bool} (h : a = b) : Value.bool a = Value.bool b := by rw [h]
/-- The number that the k-th point carries. -/
def pt (zs : Nat → Int) (len k : Nat) : Int := if k < len then zs k else 0
/-- How a gate on length ends: it says no; or it says yes, and no string is longer than 1<<20. -/
def GateEnd (w : World) (len : Nat) (ss : Nat → ByteArray) (e : Ending) (w' : World) : Prop :=
  (e = .returned (.bool false) ∧ w' = w) ∨ (e = .returned (.bool true) ∧ w' = w ∧ ∀ k, k < len → (ss k).size ≤ 1048576)
end Go.Proofs.Qxb6600301aMods
