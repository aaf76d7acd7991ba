import Derived.Test.Qxb6603781aRows
import Derived.WalkKit
import Derived.WalkSpells
import Derived.Below
import Derived.BigRegion
namespace Go.Proofs.Qxb6603781a
open Go.RowKit

/-- The names of the fifteen counts, in the order of the Go text. -/
def nms : List ByteArray :=
  [⟨#[97, 99, 113, 117, 105, 115, 105, 116, 105, 111, 110, 115]⟩,
   ⟨#[114, 101, 110, 101, 119, 97, 108, 115]⟩,
   ⟨#[114, 101, 108, 101, 97, 115, 101, 115]⟩,
   ⟨#[119, 105, 116, 104, 100, 114, 97, 119, 97, 108, 115]⟩,
   ⟨#[104, 97, 110, 100, 111, 118, 101, 114, 115]⟩,
   ⟨#[110, 111, 100, 101, 95, 99, 114, 97, 115, 104, 101, 115]⟩,
   ⟨#[99, 108, 105, 101, 110, 116, 95, 99, 114, 97, 115, 104, 101, 115]⟩,
   ⟨#[112, 97, 114, 116, 105, 116, 105, 111, 110, 115]⟩,
   ⟨#[109, 101, 115, 115, 97, 103, 101, 115]⟩,
   ⟨#[100, 114, 111, 112, 112, 101, 100]⟩,
   ⟨#[100, 117, 112, 108, 105, 99, 97, 116, 101, 100]⟩,
   ⟨#[115, 117, 114, 118, 101, 121, 115]⟩,
   ⟨#[115, 117, 114, 118, 101, 121, 115, 95, 104, 101, 108, 100]⟩,
   ⟨#[119, 114, 111, 110, 103, 95, 111, 119, 110, 101, 114, 115]⟩,
   ⟨#[108, 97, 116, 101, 95, 108, 97, 112, 115, 101, 115]⟩]
def nm (j : Nat) : ByteArray := nms.getD j ByteArray.empty

/-- Block g holds the fifteen pairs (name, address of the field) of the struct at (b, o). -/
def Fld (b o g : Nat) (w : World) : Prop :=
  ∀ j, j < 15 → w.cell? ⟨g, j * 2, none⟩ = some (.string (nm j)) ∧ w.cell? ⟨g, j * 2 + 1, none⟩ = some (.pointer (some ⟨b, o + j, none⟩))

theorem upto15 {p : Nat → Prop} (h0 : p 0) (h1 : p 1) (h2 : p 2) (h3 : p 3) (h4 : p 4) (h5 : p 5) (h6 : p 6) (h7 : p 7) (h8 : p 8) (h9 : p 9) (h10 : p 10) (h11 : p 11) (h12 : p 12) (h13 : p 13) (h14 : p 14) : ∀ j, j < 15 → p j
  | 0, _ => h0 | 1, _ => h1 | 2, _ => h2 | 3, _ => h3 | 4, _ => h4 | 5, _ => h5 | 6, _ => h6 | 7, _ => h7 | 8, _ => h8 | 9, _ => h9 | 10, _ => h10 | 11, _ => h11 | 12, _ => h12 | 13, _ => h13 | 14, _ => h14
  | n + 15, h => absurd h (by omega)

theorem cell_new (w : World) (c : Array Value) (t : TypeId) (i : Nat) : (w.alloc (.cells c t)).drew.cell? ⟨w.heap.size, i, none⟩ = c[i]? := by
  show (match ((w.heap.push (.cells c t)))[w.heap.size]? with | some (.cells c _ _) => if (none : Option Nat).isSome then none else c[i]? | _ => none) = _
  simp

set_option maxRecDepth 100000 in
set_option maxHeartbeats 1000000 in
theorem fields_any (b o : Nat) (w : World) :
    Calls Try.prog 7 #[.pointer (some ⟨b, o, none⟩)] w fun e w' => e = .returned (.slice (some ⟨w.heap.size, 0, none⟩) 15 15) ∧ Fld b o w.heap.size w' ∧ Below w.heap.size w w' ∧ w'.heap.size = w.heap.size + 1 := by
  go_enter Try.func7, Try.ntmps7
  go_wp2
  go_region
  go_wp2
  go_ret
  refine ⟨rfl, ?_, ((Below.refl _ _).alloc (Nat.le_refl _) _).drew, by simp⟩
  refine upto15 ?_ ?_ ?_ ?_ ?_ ?_ ?_ ?_ ?_ ?_ ?_ ?_ ?_ ?_ ?_ <;> (rw [cell_new, cell_new]; exact ⟨rfl, rfl⟩)
end Go.Proofs.Qxb6603781a
