/- A MAP KEYED BY STRINGS THAT THE CALL FILLS FROM A LIST OF PAIRS: at each key the value of the last pair. Over Derived/Maps, the elements read as themselves ('held'). -/
import Derived.Test.Qxb6600475aModsRows
import Derived.Test.Qxb6600475aModsPlain
import Derived.Maps.OwnSet
namespace Go.Proofs.Qxb6600475aMods
open Go.ChangeShapes Go.WideShapes Go.ChangeAt Go.RowKit

/-- An element reads as itself. -/
def anyElem (v : Value) : Option (DataW Value × List MemPlace) := some (.held v, [])
theorem keyed9 : Maps.Keyed Trym.prog 9 := Maps.string_keyed Trym.underlying9
def kl (s : ByteArray) : Lit := .string s.data.toList
theorem key9 {s : ByteArray} (h : s.size ≤ maxLen) : keyOf Trym.prog 9 (.string s) = some (kl s) := WideMaps.keyOf_string_mk Trym.underlying9 h
theorem kl_key (s : ByteArray) : WideAt.IsKeyLit (kl s) := trivial
theorem kl_same {a b : ByteArray} (h : (a.toList == b.toList) = true) : kl a = kl b := by
  have e : a.toList = b.toList := by simpa using h
  rw [ByteArray.toList_eq, ByteArray.toList_eq] at e
  unfold kl
  rw [e]
theorem kl_other {a b : ByteArray} (h : (a.toList == b.toList) = false) : kl b ≠ kl a := by
  intro e
  unfold kl at e
  have e' : b.data.toList = a.data.toList := by injection e
  rw [ByteArray.toList_eq, ByteArray.toList_eq, e'] at h
  simp at h

/-- Block b is a map of at most k entries that holds, at each key, the value of the last of the first k pairs that bears it. -/
def LastMap (w : World) (b : Nat) (ss : Nat → ByteArray) (vs : Nat → Value) (k : Nat) : Prop :=
  ∃ D : DataW Value, w.ownsMap Trym.prog 9 anyElem b k D ∧ Maps.IsMap D ∧ ∀ s : ByteArray,
    (lastIdx ss s k = -1 → Maps.has D (kl s) = false) ∧ ∀ j : Nat, lastIdx ss s k = (j : Int) → Maps.has D (kl s) = true ∧ ∀ z, D.atKey (kl s) z = .held (vs j)
theorem LastMap.made (w : World) (ss : Nat → ByteArray) (vs : Nat → Value) : LastMap (w.alloc (.map #[] 0)) w.heap.size ss vs 0 := by
  refine ⟨.map [], World.ownsMap_made _ _ _ _, Maps.isMap_empty, fun s => ⟨fun _ => rfl, fun j hj => ?_⟩⟩
  have : (-1 : Int) = (j : Int) := hj
  omega
theorem LastMap.lt {w : World} {b : Nat} {ss : Nat → ByteArray} {vs : Nat → Value} {k : Nat} (h : LastMap w b ss vs k) : b < w.heap.size := by
  obtain ⟨D, h1, _⟩ := h
  exact h1.lt
theorem LastMap.drew {w : World} {b : Nat} {ss : Nat → ByteArray} {vs : Nat → Value} {k : Nat} (h : LastMap w b ss vs k) : LastMap w.drew b ss vs k := by
  obtain ⟨D, h1, h2⟩ := h
  exact ⟨D, h1.drew, h2⟩
theorem LastMap.below {w w' : World} {b : Nat} {ss : Nat → ByteArray} {vs : Nat → Value} {k : Nat} (h : LastMap w b ss vs k) (hb : Below w.heap.size w w') : LastMap w' b ss vs k := by
  have hlt := h.lt
  obtain ⟨D, ⟨es, clock, h1, h2⟩, h3⟩ := h
  exact ⟨D, ⟨es, clock, (hb.block b hlt).trans h1, h2⟩, h3⟩
theorem LastMap.setCell {w : World} {b : Nat} {ss : Nat → ByteArray} {vs : Nat → Value} {k : Nat} (h : LastMap w b ss vs k) {p : Addr} (hp : b ≠ p.block) (u : Value) : LastMap (w.setCell p u) b ss vs k := by
  obtain ⟨D, h1, h2⟩ := h
  exact ⟨D, h1.setCell hp u, h2⟩
theorem LastMap.store {w : World} {b : Nat} {ss : Nat → ByteArray} {vs : Nat → Value} {k : Nat} (h : LastMap w b ss vs k) {t e : TypeId} (ht : Trym.prog.underlying t = some (.map 9 e)) (hk : k < maxLen) (hs : (ss k).size ≤ maxLen) :
    ∃ w', (Instr.mapUpdate t (.map (some b)) (.string (ss k)) (vs k)).run Trym.prog w = .ok () w' ∧ LastMap w' b ss vs (k + 1) ∧ w.grownBy w' (some b) := by
  obtain ⟨D, h1, h2, h3⟩ := h
  obtain ⟨w', hrun, hown, hgrow⟩ := h1.update keyed9 ht hk (key9 hs) (val := vs k) (d := .held (vs k)) (ps := []) rfl
  refine ⟨w', hrun, ⟨_, hown, h2.put _ _, fun s => ?_⟩, hgrow⟩
  cases hit : ((ss k).toList == s.toList)
  · rw [lastIdx_miss _ _ _ hit, Maps.has_put_other (kl_other hit)]
    refine ⟨(h3 s).1, fun j hj => ⟨((h3 s).2 j hj).1, fun z => ?_⟩⟩
    rw [Maps.atKey_put_other (kl_other hit)]
    exact ((h3 s).2 j hj).2 z
  · rw [lastIdx_hit _ _ _ hit, ← kl_same hit]
    refine ⟨fun hj => by omega, fun j hj => ⟨Maps.has_put_same h2 (kl_key _) _, fun z => ?_⟩⟩
    obtain rfl : k = j := by omega
    exact Maps.atKey_put_same h2 (kl_key _) _ _

/-- A map value: nil where there are no pairs; else such a map. -/
def MapAt (w : World) (m : Option Nat) (ss : Nat → ByteArray) (vs : Nat → Value) (n : Nat) : Prop :=
  (m = none ∧ n = 0) ∨ ∃ b, m = some b ∧ LastMap w b ss vs n
theorem MapAt.below {w w' : World} {m : Option Nat} {ss : Nat → ByteArray} {vs : Nat → Value} {n : Nat} (h : MapAt w m ss vs n) (hb : Below w.heap.size w w') : MapAt w' m ss vs n := by
  rcases h with h | ⟨b, rfl, h⟩
  · exact .inl h
  · exact .inr ⟨b, rfl, h.below hb⟩
/-- THE LOOK-UP. -/
theorem MapAt.look {w : World} {m : Option Nat} {ss : Nat → ByteArray} {vs : Nat → Value} {n : Nat} (h : MapAt w m ss vs n) {t e : TypeId} (ht : Trym.prog.underlying t = some (.map 9 e)) {z : Value} (hz : (zeroValue e).run Trym.prog w = .ok z w)
    {key : ByteArray} (hk : key.size ≤ maxLen) :
    (lastIdx ss key n = -1 ∧ (Instr.lookup t (.map m) (.string key) true).run Trym.prog w = .ok (.tuple #[z, .bool false]) w) ∨
    ∃ j : Nat, j < n ∧ lastIdx ss key n = (j : Int) ∧ (Instr.lookup t (.map m) (.string key) true).run Trym.prog w = .ok (.tuple #[vs j, .bool true]) w := by
  rcases h with ⟨rfl, rfl⟩ | ⟨b, rfl, D, h1, h2, h3⟩
  · exact .inl ⟨rfl, Maps.look_nil true keyed9 ht hz (key9 hk)⟩
  · obtain ⟨v, ps, hrun, hv⟩ := h1.look_ok keyed9 ht hz (zd := .held z) (zp := []) rfl (key9 hk)
    have hbd := lastIdx_bd ss key n
    by_cases hl : lastIdx ss key n = -1
    · left
      have hf := (h3 key).1 hl
      rw [hf] at hrun
      rw [Maps.atKey_of_not_has hf] at hv
      simp only [anyElem, Option.some.injEq, Prod.mk.injEq, DataW.held.injEq] at hv
      exact ⟨hl, by rw [← hv.1]; exact hrun⟩
    · right
      obtain ⟨j, hj⟩ : ∃ j : Nat, lastIdx ss key n = (j : Int) := ⟨(lastIdx ss key n).toNat, by omega⟩
      obtain ⟨hf, ha⟩ := (h3 key).2 j hj
      rw [hf] at hrun
      rw [ha] at hv
      simp only [anyElem, Option.some.injEq, Prod.mk.injEq, DataW.held.injEq] at hv
      exact ⟨j, by omega, hj, by rw [← hv.1]; exact hrun⟩
end Go.Proofs.Qxb6600475aMods
