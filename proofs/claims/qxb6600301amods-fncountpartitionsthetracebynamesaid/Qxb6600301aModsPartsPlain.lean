/- THE PLAIN LAW BEHIND FnCountPartitionsTheTraceByName: the counts of the distinct names add up to the length; and the row that is filled point by point. Nothing of the dump. -/
import Derived.Test.Qxb6600301aModsTrace
namespace Go.Proofs.Qxb6600301aMods
open Go.ChangeShapes Go.WideShapes Go.ChangeAt Go.RowKit

/-- Is 'v' among 'ss 0' .. 'ss (k-1)'? -/
def seen (ss : Nat → ByteArray) (v : ByteArray) : Nat → Bool
  | 0 => false
  | k + 1 => seen ss v k || ((ss k).toList == v.toList)
theorem seen_of (ss : Nat → ByteArray) (v : ByteArray) (n j : Nat) (hj : j < n) (h : ((ss j).toList == v.toList) = true) : seen ss v n = true := by
  induction n with
  | zero => omega
  | succ n ih =>
    show (seen ss v n || _) = true
    by_cases e : j = n
    · subst e; rw [h]; simp
    · rw [ih (by omega)]; rfl
theorem seen_not (ss : Nat → ByteArray) (v : ByteArray) (n j : Nat) (hj : j < n) (h : seen ss v n = false) : ((ss j).toList == v.toList) = false := by
  cases hc : ((ss j).toList == v.toList)
  · rfl
  · rw [seen_of ss v n j hj hc] at h; cases h
theorem seen_all (ss : Nat → ByteArray) (v : ByteArray) (n : Nat) (h : ∀ j, j < n → ((ss j).toList == v.toList) = false) : seen ss v n = false := by
  induction n with
  | zero => rfl
  | succ n ih =>
    show (seen ss v n || _) = false
    rw [ih (fun j hj => h j (by omega)), h n (by omega)]; rfl
theorem seen_hit (ss : Nat → ByteArray) (v : ByteArray) (k : Nat) (h : ((ss k).toList == v.toList) = true) : seen ss v (k + 1) = true := by
  show (seen ss v k || _) = true
  rw [h]; simp
theorem seen_miss (ss : Nat → ByteArray) (v : ByteArray) (k : Nat) (h : ((ss k).toList == v.toList) = false) : seen ss v (k + 1) = seen ss v k := by
  show (seen ss v k || _) = _
  rw [h]; simp
/-- How many of the first k names are new where they stand and equal v: one if v is among them, else none. -/
def uni (ss : Nat → ByteArray) (v : ByteArray) : Nat → Nat
  | 0 => 0
  | k + 1 => uni ss v k + (if (!seen ss (ss k) k && ((ss k).toList == v.toList)) = true then 1 else 0)
theorem seen_congr (ss : Nat → ByteArray) (u v : ByteArray) (n : Nat) (h : (u.toList == v.toList) = true) : seen ss u n = seen ss v n := by
  have e : u.toList = v.toList := by simpa using h
  induction n with
  | zero => rfl
  | succ n ih => show (seen ss u n || _) = (seen ss v n || _); rw [ih, e]
theorem uni_is (ss : Nat → ByteArray) (v : ByteArray) (k : Nat) : uni ss v k = if seen ss v k = true then 1 else 0 := by
  induction k with
  | zero => rfl
  | succ k ih =>
    show uni ss v k + _ = if (seen ss v k || ((ss k).toList == v.toList)) = true then 1 else 0
    rw [ih]
    cases hc : ((ss k).toList == v.toList)
    · simp
    · rw [seen_congr ss (ss k) v k hc]
      cases seen ss v k <;> simp
/-- The sum of the counts (over the first m) of the names that are new among the first k. -/
def tot (ss : Nat → ByteArray) (m : Nat) : Nat → Nat
  | 0 => 0
  | k + 1 => tot ss m k + (if seen ss (ss k) k = true then 0 else cnt ss (ss k) m)
theorem tot_zero (ss : Nat → ByteArray) (k : Nat) : tot ss 0 k = 0 := by
  induction k with
  | zero => rfl
  | succ k ih => show tot ss 0 k + _ = 0; rw [ih]; simp [cnt]
theorem tot_step (ss : Nat → ByteArray) (m k : Nat) : tot ss (m + 1) k = tot ss m k + uni ss (ss m) k := by
  induction k with
  | zero => rfl
  | succ k ih =>
    show tot ss (m + 1) k + _ = (tot ss m k + _) + (uni ss (ss m) k + _)
    rw [ih]
    have hsym : ((ss m).toList == (ss k).toList) = ((ss k).toList == (ss m).toList) := BEq.comm
    cases hs : seen ss (ss k) k
    · simp only [Bool.false_eq_true, if_false, Bool.not_false, Bool.true_and]
      show tot ss m k + uni ss (ss m) k + (cnt ss (ss k) m + _) = _
      rw [hsym]
      omega
    · simp only [if_true, Bool.not_true, Bool.false_and, Bool.false_eq_true, if_false]
      omega
theorem beq_self (b : ByteArray) : (b.toList == b.toList) = true := by simp
/-- THE LAW: the counts of the distinct names add up to the length. -/
theorem tot_all (ss : Nat → ByteArray) (n : Nat) : ∀ m, m ≤ n → tot ss m n = m := by
  intro m
  induction m with
  | zero => intro _; exact tot_zero ss n
  | succ m ih =>
    intro hm
    rw [tot_step, ih (by omega), uni_is, if_pos (seen_of ss (ss m) n m (by omega) (beq_self _))]
theorem tot_le (ss : Nat → ByteArray) (m k : Nat) : tot ss m k ≤ k * m := by
  induction k with
  | zero => exact Nat.zero_le _
  | succ k ih =>
    show tot ss m k + _ ≤ _
    have := cnt_le ss (ss k) m
    rw [Nat.add_mul]
    split <;> omega
theorem tot_new (ss : Nat → ByteArray) (m k : Nat) (h : seen ss (ss k) k = false) : tot ss m (k + 1) = tot ss m k + cnt ss (ss k) m := by
  show tot ss m k + _ = _
  rw [h]; rfl
theorem tot_old (ss : Nat → ByteArray) (m k : Nat) (h : seen ss (ss k) k = true) : tot ss m (k + 1) = tot ss m k := by
  show tot ss m k + _ = _
  rw [h]; rfl
theorem cnt_pos (ss : Nat → ByteArray) (v : ByteArray) (n j : Nat) (hj : j < n) (h : ((ss j).toList == v.toList) = true) : 1 ≤ cnt ss v n := by
  induction n with
  | zero => omega
  | succ n ih =>
    by_cases e : j = n
    · subst e; rw [cnt_hit _ _ _ h]; omega
    · have := ih (by omega)
      show 1 ≤ cnt ss v n + _
      omega
theorem cnt_none (ss : Nat → ByteArray) (v : ByteArray) (n : Nat) (h : seen ss v n = false) : cnt ss v n = 0 := by
  induction n with
  | zero => rfl
  | succ n ih =>
    have h' : (seen ss v n || ((ss n).toList == v.toList)) = false := h
    rw [Bool.or_eq_false_iff] at h'
    rw [cnt_miss _ _ _ h'.2, ih h'.1]

/-! ### The row of n points, of which the first k bear their names -/
def FillAt (B : Nat) (w : World) (ss : Nat → ByteArray) (k n g : Nat) : Prop :=
  ∃ xs, w.ownsRow B 30 2 (.slice (some ⟨g, 0, none⟩) n n) n xs ∧ ∀ j, j < k → xs[j * 2]? = some (.string (ss j)) ∧ ∃ z : Int, xs[j * 2 + 1]? = some (.int .i64 z)
theorem FillAt.tr {B : Nat} {w : World} {ss : Nat → ByteArray} {n g : Nat} (h : FillAt B w ss n n g) : TrAt B w ss n g n := by
  obtain ⟨xs, h1, h2⟩ := h
  exact ⟨xs, h1, h1.1, h2⟩
theorem FillAt.at {B : Nat} {w : World} {ss : Nat → ByteArray} {k n g : Nat} (h : FillAt B w ss k n g) (hk : k < n) :
    (∃ v, w.cell? ⟨g, k * 2, none⟩ = some v) ∧ (∃ v, w.cell? ⟨g, k * 2 + 1, none⟩ = some v) ∧ w.frozen? ⟨g, k * 2, none⟩ = false ∧ w.frozen? ⟨g, k * 2 + 1, none⟩ = false := by
  obtain ⟨xs, h1, h2⟩ := h
  have hl := h1.1
  refine ⟨⟨xs[k * 2]'(by omega), ?_⟩, ⟨xs[k * 2 + 1]'(by omega), ?_⟩, h1.frozenAt _, h1.frozenAt _⟩
  · rw [h1.cellAt _ (by omega)]; exact List.getElem?_eq_getElem (by omega)
  · rw [h1.cellAt _ (by omega)]; exact List.getElem?_eq_getElem (by omega)
theorem FillAt.step {B : Nat} {w : World} {ss : Nat → ByteArray} {k n g : Nat} (h : FillAt B w ss k n g) (hk : k < n) (z : Int) :
    FillAt B ((w.setCell ⟨g, k * 2, none⟩ (.string (ss k))).setCell ⟨g, k * 2 + 1, none⟩ (.int .i64 z)) ss (k + 1) n g := by
  obtain ⟨xs, h1, h2⟩ := h
  have hl := h1.1
  refine ⟨_, ((h1.stored (k * 2) (.string (ss k))).1.stored (k * 2 + 1) (.int .i64 z)).1, fun j hj => ?_⟩
  by_cases e : j = k
  · subst e
    refine ⟨?_, z, ?_⟩
    · rw [List.getElem?_set_ne (by omega), List.getElem?_set_self (by omega)]
    · rw [List.getElem?_set_self (by simp; omega)]
  · obtain ⟨e0, z', e1⟩ := h2 j (by omega)
    exact ⟨by rw [List.getElem?_set_ne (by omega), List.getElem?_set_ne (by omega)]; exact e0, z', by rw [List.getElem?_set_ne (by omega), List.getElem?_set_ne (by omega)]; exact e1⟩
theorem FillAt.drew {B : Nat} {w : World} {ss : Nat → ByteArray} {k n g : Nat} (h : FillAt B w ss k n g) : FillAt B w.drew ss k n g := by
  obtain ⟨xs, h1, h2⟩ := h
  exact ⟨xs, h1.drew, h2⟩
end Go.Proofs.Qxb6600301aMods
