/- From the reading of a slice that came in to what the walks are told of it. -/
import Derived.Test.Qxb6600475aModsRows
import Derived.Test.Qxb6600475aModsPlain
import Derived.SliceStrings
import Derived.Deep.Matrix
namespace Go.Proofs.Qxb6600475aMods
open Go.ChangeShapes Go.WideShapes Go.ChangeAt Go.RowKit

theorem strs_of {H : Type} {enc : TypeId × Value → H} {W : World} {a : Option Addr} {len cap : Nat} {d : DataW H} {p : List MemPlace}
    (h : DataW.Trod enc Trym.prog W 0 (fun _ => true) true 31 (.slice a len cap) d p) : len ≤ maxLen ∧ (a = none → len = 0 ∧ cap = 0) ∧ ∃ ss, StrsAt W a len ss := by
  obtain ⟨fuel, hf⟩ := h
  rcases open_strings Trym.underlying31 Trym.underlying9 (by kernel_rfl) hf with ⟨hcs, _⟩ | ⟨x, l, c, zs, hcs, _, hl, hm, hz, _, hcell, _⟩
  · simp [Value.cells] at hcs
    obtain ⟨rfl, rfl, rfl⟩ := hcs
    exact ⟨Nat.zero_le _, fun _ => ⟨rfl, rfl⟩, fun _ => ByteArray.empty, .inl rfl⟩
  · simp [Value.cells] at hcs
    obtain ⟨rfl, rfl, rfl⟩ := hcs
    refine ⟨Nat.le_trans hl hm, (fun h => by cases h), fun k => zs.getD k ByteArray.empty, ?_⟩
    by_cases h0 : len = 0
    · exact .inl h0
    · right
      simp only [if_true] at hz
      obtain ⟨b, off, spot⟩ := x
      have hc := hcell 0 (by omega)
      have hspot : spot = none := by simpa [Addr.add] using World.cell?_spot hc
      subst hspot
      have hc0 : W.cell? ⟨b, off, none⟩ = some (.string (zs.getD 0 ByteArray.empty)) := by simpa [Addr.add] using hc
      exact ⟨b, off, rfl, World.block_lt_of_cell? W _ hc0, fun k hk => by rw [← add_plain]; exact hcell k (by omega)⟩
theorem rows_of {H : Type} {enc : TypeId × Value → H} {W : World} {a : Option Addr} {len cap : Nat} {d : DataW H} {p : List MemPlace}
    (h : DataW.Trod enc Trym.prog W 0 (fun _ => true) true 26 (.slice a len cap) d p) : len ≤ maxLen ∧ (a = none → len = 0 ∧ cap = 0) ∧ ∃ A L C, RowsAt W a len A L C := by
  obtain ⟨fuel, hf⟩ := h
  rcases Deep.open_int_rows Trym.underlying26 Trym.underlying22 Trym.underlying5 (by kernel_rfl) (by kernel_rfl) hf with ⟨hcs, _⟩ | ⟨x, l, c, A, L, C, Z, hcs, _, hl, hm, _, hcell⟩
  · simp [Value.cells] at hcs
    obtain ⟨rfl, rfl, rfl⟩ := hcs
    exact ⟨Nat.zero_le _, fun _ => ⟨rfl, rfl⟩, fun _ => none, fun _ => 0, fun _ => 0, .inl rfl⟩
  · simp [Value.cells] at hcs
    obtain ⟨rfl, rfl, rfl⟩ := hcs
    refine ⟨Nat.le_trans hl hm, (fun h => by cases h), A, L, C, ?_⟩
    by_cases h0 : len = 0
    · exact .inl h0
    · right
      obtain ⟨b, off, spot⟩ := x
      have hc := (hcell 0 (by omega)).1
      have hspot : spot = none := by simpa [Addr.add] using World.cell?_spot hc
      subst hspot
      have hc0 : W.cell? ⟨b, off, none⟩ = some (.slice (A 0) (L 0) (C 0)) := by simpa [Addr.add] using hc
      refine ⟨b, off, rfl, World.block_lt_of_cell? W _ hc0, fun k hk => ?_⟩
      obtain ⟨e1, e2, e3, e4, e5, e6, e7⟩ := hcell k (by omega)
      refine ⟨by rw [← add_plain]; exact e1, fun hn => ?_, ?_⟩
      · have := e6 hn
        exact ⟨by omega, this⟩
      · by_cases hL : L k = 0
        · exact .inl hL
        · right
          cases hA : A k with
          | none => have := e6 hA; omega
          | some y =>
            obtain ⟨_, hcy⟩ := e7 y hA
            obtain ⟨b', off', spot'⟩ := y
            have hcz := hcy 0 (by omega)
            have hspot' : spot' = none := by simpa [Addr.add] using World.cell?_spot hcz
            subst hspot'
            have hc0' : W.cell? ⟨b', off', none⟩ = some (.int .u8 ((Z k).getD 0 0)) := by simpa [Addr.add] using hcz
            exact ⟨b', off', fun j => (Z k).getD j 0, rfl, Nat.zero_le _, World.block_lt_of_cell? W _ hc0', fun j hj => by rw [← add_plain]; exact hcy j (by omega)⟩
end Go.Proofs.Qxb6600475aMods
