/- From the reading of a slice that came in to what the walks are told of it. -/
import Derived.Test.Qxb6600301aModsRows
import Derived.Test.Qxb6600301aModsPlain
import Derived.SliceStrings
namespace Go.Proofs.Qxb6600301aMods
open Go.ChangeShapes Go.WideShapes Go.ChangeAt Go.RowKit

theorem strs_of {H : Type} {enc : TypeId × Value → H} {W : World} {a : Option Addr} {len cap : Nat} {d : DataW H} {p : List MemPlace}
    (h : DataW.Trod enc Trym.prog W 0 (fun _ => true) true 22 (.slice a len cap) d p) : len ≤ maxLen ∧ ∃ ss, StrsAt W a len ss := by
  obtain ⟨fuel, hf⟩ := h
  rcases open_strings Trym.underlying22 Trym.underlying9 (by kernel_rfl) hf with ⟨hcs, _⟩ | ⟨x, l, c, zs, hcs, _, hl, hm, hz, _, hcell, _⟩
  · simp [Value.cells] at hcs
    obtain ⟨rfl, rfl, rfl⟩ := hcs
    exact ⟨Nat.zero_le _, fun _ => ByteArray.empty, .inl rfl⟩
  · simp [Value.cells] at hcs
    obtain ⟨rfl, rfl, rfl⟩ := hcs
    refine ⟨Nat.le_trans hl hm, fun k => zs.getD k ByteArray.empty, ?_⟩
    by_cases h0 : len = 0
    · exact .inl h0
    · right
      simp only [if_true] at hz
      obtain ⟨b, off, spot⟩ := x
      have hc := hcell 0 (by omega)
      have hspot : spot = none := by simpa [Addr.add] using World.cell?_spot hc
      subst hspot
      have hc0 : W.cell? ⟨b, off, none⟩ = some (.string (zs.getD 0 ByteArray.empty)) := by simpa [Addr.add] using hc
      exact ⟨b, off, rfl, World.block_lt_of_cell? W _ hc0, fun k hk => by rw [← add_plain]; exact hcell k (by omega)⟩
theorem ints_of {H : Type} {enc : TypeId × Value → H} {W : World} {a : Option Addr} {len cap : Nat} {d : DataW H} {p : List MemPlace}
    (h : DataW.Trod enc Trym.prog W 0 (fun _ => true) true 23 (.slice a len cap) d p) : len ≤ maxLen ∧ ∃ zs, IntsAt W a len zs := by
  obtain ⟨fuel, hf⟩ := h
  rcases open_ints Trym.underlying23 Trym.underlying3 (by kernel_rfl) hf with ⟨hcs, _⟩ | ⟨x, l, c, zs, hcs, _, hl, hm, hz, _, hcell, _⟩
  · simp [Value.cells] at hcs
    obtain ⟨rfl, rfl, rfl⟩ := hcs
    exact ⟨Nat.zero_le _, fun _ => 0, .inl rfl⟩
  · simp [Value.cells] at hcs
    obtain ⟨rfl, rfl, rfl⟩ := hcs
    refine ⟨Nat.le_trans hl hm, fun k => zs.getD k 0, ?_⟩
    by_cases h0 : len = 0
    · exact .inl h0
    · right
      simp only [if_true] at hz
      obtain ⟨b, off, spot⟩ := x
      have hc := hcell 0 (by omega)
      have hspot : spot = none := by simpa [Addr.add] using World.cell?_spot hc
      subst hspot
      have hc0 : W.cell? ⟨b, off, none⟩ = some (.int .i64 (zs.getD 0 0)) := by simpa [Addr.add] using hc
      exact ⟨b, off, rfl, World.block_lt_of_cell? W _ hc0, fun k hk => by rw [← add_plain]; exact hcell k (by omega)⟩
end Go.Proofs.Qxb6600301aMods
