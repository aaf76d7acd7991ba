import Derived.Test.Qxb6604439aBand
import Derived.Deep.RegionWith
namespace Go.Proofs.Qxb6604439a
open Go.RowKit
set_option linter.unusedVariables false

set_option maxRecDepth 100000 in
set_option maxHeartbeats 2000000 in
/-- The long road of the law: all that the two rules answer is decided ahead: 'nr': what the narrow rule answers at the ratio. -/
theorem wider_main (a b wb wa r : Nat) (w : World) (p0 : leB FloatKind.f64.format wb a = true) (p1 : leB FloatKind.f64.format a 4607182418800017408 = true) (p2 : leB FloatKind.f64.format 4607182418800017408 b = true) (p3 : leB FloatKind.f64.format b wa = true) :
    Calls Try.prog 7 #[.float .f64 a, .float .f64 b, .float .f64 wb, .float .f64 wa, .float .f64 r] w fun e w' => e = .returned (.bool true) ∧ Below w.heap.size w w' := by
  have fold := leB_fold
  have nwb := (le_nan p0).1
  have na := (le_nan p0).2
  have nb := (le_nan p3).1
  have nwa := (le_nan p3).2
  have f1 : leB FloatKind.f64.format wb 4607182418800017408 = true := le_trans p0 p1
  have f2 : leB FloatKind.f64.format 4607182418800017408 wa = true := le_trans p2 p3
  have f3 : leB FloatKind.f64.format wb wb = true := le_refl nwb
  have f4 : leB FloatKind.f64.format wa wa = true := le_refl nwa
  have f5 : leB FloatKind.f64.format wb wa = true := le_trans f1 f2
  have f6 : leB FloatKind.f64.format wb b = true := le_trans f1 p2
  have f7 : leB FloatKind.f64.format a wa = true := le_trans p1 f2
  have lo : (FloatKind.f64.format.order wb a = some .eq ∧ leB FloatKind.f64.format a wb = true) ∨ (FloatKind.f64.format.order wb a = some .lt ∧ leB FloatKind.f64.format a wb = false) := by
    rcases three nwb na with ⟨o1, o2⟩ | ⟨o1, o2⟩ | ⟨o1, o2⟩
    · exact Or.inr ⟨o1, le_false o2⟩
    · exact Or.inl ⟨o1, le_of_order (Or.inr o2)⟩
    · have q := le_false o1
      simp only [le] at q
      rw [p0] at q; cases q
  have hi : (FloatKind.f64.format.order wa b = some .eq ∧ leB FloatKind.f64.format wa b = true) ∨ (FloatKind.f64.format.order wa b = some .gt ∧ leB FloatKind.f64.format wa b = false) := by
    rcases three nb nwa with ⟨o1, o2⟩ | ⟨o1, o2⟩ | ⟨o1, o2⟩
    · exact Or.inr ⟨o2, le_false o2⟩
    · exact Or.inl ⟨o2, le_of_order (Or.inr o2)⟩
    · have q := le_false o1
      simp only [le] at q
      rw [p3] at q; cases q
  have nr : (leB FloatKind.f64.format a r = true ∧ leB FloatKind.f64.format r b = true ∧ leB FloatKind.f64.format wb r = true ∧ leB FloatKind.f64.format r wa = true) ∨ (leB FloatKind.f64.format a r = false) ∨ (leB FloatKind.f64.format a r = true ∧ leB FloatKind.f64.format r b = false) := by
    cases q1 : leB FloatKind.f64.format a r with
    | false => exact Or.inr (Or.inl rfl)
    | true =>
      cases q2 : leB FloatKind.f64.format r b with
      | false => exact Or.inr (Or.inr ⟨rfl, rfl⟩)
      | true => exact Or.inl ⟨rfl, rfl, le_trans p0 q1, le_trans q2 p3⟩
  clear nwb na nb nwa
  rcases lo with ⟨l1, l2⟩ | ⟨l1, l2⟩ <;> rcases hi with ⟨h1, h2⟩ | ⟨h1, h2⟩ <;> rcases nr with ⟨n1, n2, n3, n4⟩ | n1 | ⟨n1, n2⟩
  all_goals
    go_enter Try.func7, Try.ntmps7
    go_wp2_with fail
    refine (newRule_any a b _).mono ?_
    rintro e w1 ⟨rfl, R1, B1, S1⟩
    go_wp2_with fail
    refine (newRule_any wb wa _).mono ?_
    rintro e w2 ⟨rfl, R2, B2, S2⟩
    have HR1 : Hid (IsRule w.heap.size a b w2) := ⟨(B2.cell (p := ⟨w.heap.size, 5, none⟩) (by show w.heap.size < w1.heap.size; omega)).trans R1.lo, (B2.cell (p := ⟨w.heap.size, 6, none⟩) (by show w.heap.size < w1.heap.size; omega)).trans R1.hi⟩
    have HR2 : Hid (IsRule w1.heap.size wb wa w2) := R2
    have HB : Hid (Below w.heap.size w w2) := B1.trans (B2.mono (by omega))
    clear R1 B1 R2 B2 S2 S1
    generalize w1.heap.size = g2 at HR2 ⊢
    go_wp2_with (first | (go_at_call_of 21 (Value.pointer (some ⟨w.heap.size, 0, none⟩)); refine (holds_any w.heap.size a b _ _ HR1.out).mono ?_; rintro e w' ⟨rfl, rfl⟩) | (go_at_call_of 21 (Value.pointer (some ⟨g2, 0, none⟩)); refine (holds_any g2 wb wa _ _ HR2.out).mono ?_; rintro e w' ⟨rfl, rfl⟩))
    go_ret
    exact ⟨rfl, HB.out⟩

set_option maxRecDepth 100000 in
set_option maxHeartbeats 1000000 in
theorem wider_walk (a b wb wa r : Nat) (w : World) : Calls Try.prog 7 #[.float .f64 a, .float .f64 b, .float .f64 wb, .float .f64 wa, .float .f64 r] w fun e w' => e = .returned (.bool true) ∧ Below w.heap.size w w' := by
  have fold := leB_fold
  cases p0 : leB FloatKind.f64.format wb a with
  | false =>
    go_enter Try.func7, Try.ntmps7
    go_wp2_with fail
    go_ret
    exact ⟨rfl, Below.refl _ _⟩
  | true =>
  cases p1 : leB FloatKind.f64.format a 4607182418800017408 with
  | false =>
    go_enter Try.func7, Try.ntmps7
    go_wp2_with fail
    go_ret
    exact ⟨rfl, Below.refl _ _⟩
  | true =>
  cases p2 : leB FloatKind.f64.format 4607182418800017408 b with
  | false =>
    go_enter Try.func7, Try.ntmps7
    go_wp2_with fail
    go_ret
    exact ⟨rfl, Below.refl _ _⟩
  | true =>
  cases p3 : leB FloatKind.f64.format b wa with
  | false =>
    go_enter Try.func7, Try.ntmps7
    go_wp2_with fail
    go_ret
    exact ⟨rfl, Below.refl _ _⟩
  | true =>
  exact wider_main a b wb wa r w p0 p1 p2 p3
end Go.Proofs.Qxb6604439a
