/- (*Secret).Value (20): its contracts. -/
import Derived.Test.Qxb6600475aModsMaps
import Derived.WalkSpells
import Derived.WalkSmall
import Derived.Laws.IdiomStrings
namespace Go.Proofs.Qxb6600475aMods
open Go.ChangeShapes Go.WideShapes Go.ChangeAt Go.RowKit

/-- How Value ends where stringData has the key: new memory holds the text's bytes. -/
def TextEnd (w : World) (text : ByteArray) (e : Ending) (w' : World) : Prop :=
  ∃ cap, e = .returned (.tuple #[.slice (some ⟨w.heap.size, 0, none⟩) text.size cap, .bool true]) ∧ (∀ j (hj : j < text.size), w'.cell? ⟨w.heap.size, j, none⟩ = some (.int .u8 (text[j].toNat : Int))) ∧ w.heap.size < w'.heap.size ∧ Below w.heap.size w w'
theorem textEnd (w : World) (text : ByteArray) (cap : Nat) (m : Nat × Nat) : TextEnd w text (.returned (.tuple #[.slice (some ⟨w.heap.size, 0, none⟩) text.size cap, .bool true])) (w.drew.alloc (.cells (bytesRow text cap) 5 m)) := by
  refine ⟨cap, rfl, fun j hj => ?_, ?_, (Below.refl _ _).drew.alloc (Nat.le_refl _) _⟩
  · show (w.drew.alloc (.cells (bytesRow text cap) 5 m)).cell? ⟨w.drew.heap.size, j, none⟩ = _
    rw [World.cell?_alloc_mark, bytesRow_at text cap j hj]
    rfl
  · show w.heap.size < (w.heap.push _).size
    simp

theorem value20_text (sb : Nat) (m2 : Option Nat) (key text : ByteArray) (w : World) (c5 : w.cell? ⟨sb, 5, none⟩ = some (.map m2))
    (hrun : (Instr.lookup 44 (.map m2) (.string key) true).run Trym.prog w = .ok (.tuple #[.string text, .bool true]) w) :
    Calls Trym.prog 20 #[.pointer (some ⟨sb, 0, none⟩), .string key] w fun e w' => TextEnd w text e w' := by
  have hcv := fun (w : World) (s : ByteArray) => run_bytes_of_string (P := Trym.prog) w 9 22 5 s Trym.underlying9 Trym.underlying22 Trym.underlying5
  go_enter Trym.func20, Trym.ntmps20
  go_wp2
  go_ret2
  exact textEnd _ _ _ _
theorem value20_data (sb : Nat) (m1 m2 : Option Nat) (key : ByteArray) (a : Option Addr) (L C : Nat) (t : Bool) (w : World) (c4 : w.cell? ⟨sb, 4, none⟩ = some (.map m1)) (c5 : w.cell? ⟨sb, 5, none⟩ = some (.map m2))
    (hrun2 : (Instr.lookup 44 (.map m2) (.string key) true).run Trym.prog w = .ok (.tuple #[.string ByteArray.empty, .bool false]) w)
    (hrun1 : (Instr.lookup 47 (.map m1) (.string key) true).run Trym.prog w = .ok (.tuple #[.slice a L C, .bool t]) w) :
    Calls Trym.prog 20 #[.pointer (some ⟨sb, 0, none⟩), .string key] w fun e w' => e = .returned (.tuple #[.slice a L C, .bool t]) ∧ w' = w := by
  go_enter Trym.func20, Trym.ntmps20
  go_wp2
  go_ret2
  exact ⟨rfl, rfl⟩
end Go.Proofs.Qxb6600475aMods
