import Derived.Test.Qxb6604439aOrder
import Derived.Test.Qxb6604439aRows
import Derived.WalkKit
import Derived.WalkSpells
import Derived.WalkLawsBesides
import Derived.Below
namespace Go.Proofs.Qxb6604439a
open Go.RowKit
set_option linter.unusedVariables false

/-- A float is stored as every one-cell value is (the guide's Entries.lean has it for integers, bools, pointers, slices, strings). -/
theorem run_store_float {P : Program} (w : World) (a : Addr) (m : Mode) (k : FloatKind) (n : Nat) : (store a (.float k n) m).run P w = stored P w a (.float k n) m := run_store P w a _ m rfl
attribute [local go_sem] run_store_float

set_option maxRecDepth 100000 in
set_option maxHeartbeats 1000000 in
theorem same_any (x : Nat) (w : World) : Calls Try.prog 28 #[.float .f64 x, .float .f64 x] w fun e w' => e = .returned (.bool true) ∧ w' = w := by
  cases nx : nanB FloatKind.f64.format x with
  | true =>
    have o : FloatKind.f64.format.order x x = none := none_of (Or.inl nx)
    clear nx
    go_enter Try.func28, Try.ntmps28
    go_wp2
    go_ret
    exact ⟨rfl, rfl⟩
  | false =>
    have o : FloatKind.f64.format.order x x = some .eq := self_eq nx
    clear nx
    go_enter Try.func28, Try.ntmps28
    go_wp2
    go_ret
    exact ⟨rfl, rfl⟩

/-- Block g holds a Holt-Winters model. -/
structure IsModel (g al be ga : Nat) (se ss tr sl : Int) (w : World) : Prop where
  m0 : w.cell? ⟨g, 0, none⟩ = some (.float .f64 al)
  m1 : w.cell? ⟨g, 1, none⟩ = some (.float .f64 be)
  m2 : w.cell? ⟨g, 2, none⟩ = some (.float .f64 ga)
  m3 : w.cell? ⟨g, 3, none⟩ = some (.int .i64 se)
  m4 : w.cell? ⟨g, 4, none⟩ = some (.int .i64 ss)
  m5 : w.cell? ⟨g, 5, none⟩ = some (.int .i64 tr)
  m6 : w.cell? ⟨g, 6, none⟩ = some (.int .i64 sl)

set_option maxRecDepth 100000 in
set_option maxHeartbeats 1000000 in
theorem modelIs_any (g al be ga : Nat) (se ss tr sl : Int) (w : World) (h : IsModel g al be ga se ss tr sl w) :
    Calls Try.prog 19 #[.pointer (some ⟨g, 0, none⟩), .float .f64 al, .float .f64 be, .float .f64 ga, .int .i64 se, .int .i64 ss, .int .i64 tr, .int .i64 sl] w fun e w' => e = .returned (.bool true) ∧ w' = w := by
  obtain ⟨m0, m1, m2, m3, m4, m5, m6⟩ := h
  go_enter Try.func19, Try.ntmps19
  go_wp2_with (go_at_call 28; refine (same_any _ _).mono ?_; rintro e w' ⟨rfl, rfl⟩)
  go_ret
  exact ⟨rfl, rfl⟩

set_option maxRecDepth 100000 in
set_option maxHeartbeats 1000000 in
theorem default_any (w : World) : Calls Try.prog 35 #[] w fun e w' => e = .returned (.agg #[.float .f64 4606281698874543309, .float .f64 4606281698874543309, .float .f64 4606281698874543309, .int .i64 6, .int .i64 4, .int .i64 0, .int .i64 0]) ∧ ∃ c, w' = w.alloc (.cells c 46) := by
  go_enter Try.func35, Try.ntmps35
  go_wp2
  exact bodyPost_ret (v := .agg #[.float .f64 4606281698874543309, .float .f64 4606281698874543309, .float .f64 4606281698874543309, .int .i64 6, .int .i64 4, .int .i64 0, .int .i64 0]) (by simp [results, Try.results35, go_sem]) rfl ⟨rfl, _, rfl⟩

set_option maxRecDepth 100000 in
set_option maxHeartbeats 1000000 in
theorem model_nil (gc : Nat) (w : World) (hc : w.cell? ⟨gc, 14, none⟩ = some (.pointer none)) (hgc : gc < w.heap.size) :
    Calls Try.prog 33 #[.pointer (some ⟨gc, 0, none⟩)] w fun e w' => e = .returned (.agg #[.float .f64 4606281698874543309, .float .f64 4606281698874543309, .float .f64 4606281698874543309, .int .i64 6, .int .i64 4, .int .i64 0, .int .i64 0]) ∧ Below w.heap.size w w' := by
  go_enter Try.func33, Try.ntmps33
  go_wp2_with (go_at_call 35; refine (default_any _).mono ?_; rintro e w' ⟨rfl, c, rfl⟩)
  refine bodyPost_ret (v := .agg #[.float .f64 4606281698874543309, .float .f64 4606281698874543309, .float .f64 4606281698874543309, .int .i64 6, .int .i64 4, .int .i64 0, .int .i64 0]) (by simp [results, Try.results33, go_sem]) rfl ⟨rfl, ?_⟩
  exact ((Below.refl _ _).alloc (Nat.le_refl _) _).alloc (by simp) _

set_option maxRecDepth 100000 in
set_option maxHeartbeats 1000000 in
theorem model_some (gc g al be ga : Nat) (se ss tr sl : Int) (w : World) (hc : w.cell? ⟨gc, 14, none⟩ = some (.pointer (some ⟨g, 0, none⟩))) (h : IsModel g al be ga se ss tr sl w) (hg : g < w.heap.size) (hgc : gc < w.heap.size) :
    Calls Try.prog 33 #[.pointer (some ⟨gc, 0, none⟩)] w fun e w' => e = .returned (.agg #[.float .f64 al, .float .f64 be, .float .f64 ga, .int .i64 se, .int .i64 ss, .int .i64 tr, .int .i64 sl]) ∧ Below w.heap.size w w' := by
  obtain ⟨m0, m1, m2, m3, m4, m5, m6⟩ := h
  go_enter Try.func33, Try.ntmps33
  go_wp2
  refine bodyPost_ret (v := .agg #[.float .f64 al, .float .f64 be, .float .f64 ga, .int .i64 se, .int .i64 ss, .int .i64 tr, .int .i64 sl]) (by simp [results, Try.results33, go_sem]) rfl ⟨rfl, ?_⟩
  exact (Below.refl _ _).alloc (Nat.le_refl _) _
end Go.Proofs.Qxb6604439a
