import Derived.Test.Qxb6604439aRows
import Derived.Test.Qxb6604439aOrder
import Derived.WalkKit
import Derived.WalkSpells
import Derived.WalkLawsBesides
import Derived.Below
namespace Go.Proofs.Qxb6604439a
open Go.RowKit
set_option linter.unusedVariables false

/-- Block g holds a metric rule with the band [a, b]. -/
structure IsRule (g a b : Nat) (w : World) : Prop where
  lo : w.cell? ⟨g, 5, none⟩ = some (.float .f64 a)
  hi : w.cell? ⟨g, 6, none⟩ = some (.float .f64 b)

set_option maxRecDepth 100000 in
set_option maxHeartbeats 1000000 in
theorem newRule_any (a b : Nat) (w : World) : Calls Try.prog 20 #[.float .f64 a, .float .f64 b] w fun e w' =>
    e = .returned (.pointer (some ⟨w.heap.size, 0, none⟩)) ∧ IsRule w.heap.size a b w' ∧ Below w.heap.size w w' ∧ w'.heap.size = w.heap.size + 1 := by
  go_enter Try.func20, Try.ntmps20
  go_wp2
  go_ret
  refine ⟨rfl, ⟨?_, ?_⟩, (Below.refl _ _).alloc (Nat.le_refl _) _, by simp⟩
  · rw [World.cell?_alloc_new]; rfl
  · rw [World.cell?_alloc_new]; rfl

theorem leB_fold (a b : Nat) : (FloatKind.f64.format.order a b == some .lt || FloatKind.f64.format.order a b == some .eq) = leB FloatKind.f64.format a b := rfl

set_option maxRecDepth 100000 in
set_option maxHeartbeats 1000000 in
theorem holds_any (g a b r : Nat) (w : World) (h : IsRule g a b w) : Calls Try.prog 21 #[.pointer (some ⟨g, 0, none⟩), .float .f64 r] w fun e w' =>
    e = .returned (.bool (leB FloatKind.f64.format a r && leB FloatKind.f64.format r b)) ∧ w' = w := by
  obtain ⟨h1, h2⟩ := h
  have fold := leB_fold
  cases c : leB FloatKind.f64.format a r with
  | false =>
    go_enter Try.func21, Try.ntmps21
    go_wp2
    go_ret
    exact ⟨rfl, rfl⟩
  | true =>
    go_enter Try.func21, Try.ntmps21
    go_wp2
    go_ret
    exact ⟨rfl, rfl⟩
end Go.Proofs.Qxb6604439a
