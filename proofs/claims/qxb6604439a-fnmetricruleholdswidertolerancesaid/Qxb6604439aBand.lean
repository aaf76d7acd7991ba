import Derived.Test.Qxb6604439aRule
namespace Go.Proofs.Qxb6604439a
open Go.RowKit
set_option linter.unusedVariables false

abbrev ord := FloatKind.f64.format.order
abbrev le := leB FloatKind.f64.format
abbrev isNan := nanB FloatKind.f64.format

theorem le_of_order {x y : Nat} (h : ord x y = some .lt ∨ ord x y = some .eq) : le x y = true := by
  rcases h with h | h <;> simp [le, leB, h]
theorem order_of_le {x y : Nat} (h : le x y = true) : ord x y = some .lt ∨ ord x y = some .eq := by
  simp [le, leB] at h
  exact h
theorem le_false {x y : Nat} (h : ord x y = some .gt) : le x y = false := by simp [le, leB, h]
theorem le_nanR {x y : Nat} (h : isNan y = true) : le x y = false := by simp [le, leB, none_of (Or.inr h)]
theorem gt_false {x y : Nat} (h : le x y = true) : (ord x y == some .gt) = false := by
  rcases order_of_le h with e | e <;> simp [e]

set_option maxRecDepth 100000 in
set_option maxHeartbeats 2000000 in
theorem band_walk (a b r : Nat) (w : World) : Calls Try.prog 6 #[.float .f64 a, .float .f64 b, .float .f64 r] w fun e w' => e = .returned (.bool true) ∧ Below w.heap.size w w' := by
  have fold := leB_fold
  cases p1 : leB FloatKind.f64.format a 4607182418800017408 with
  | false =>
    go_enter Try.func6, Try.ntmps6
    go_wp2_with fail
    go_ret
    exact ⟨rfl, Below.refl _ _⟩
  | true =>
  cases p2 : leB FloatKind.f64.format 4607182418800017408 b with
  | false =>
    go_enter Try.func6, Try.ntmps6
    go_wp2_with fail
    go_ret
    exact ⟨rfl, Below.refl _ _⟩
  | true =>
  have ab : leB FloatKind.f64.format a b = true := le_trans p1 p2
  have na := (le_nan p1).1
  have nb := (le_nan p2).2
  have aa : leB FloatKind.f64.format a a = true := le_refl na
  have bb : leB FloatKind.f64.format b b = true := le_refl nb
  have gab : (FloatKind.f64.format.order a b == some .gt) = false := gt_false ab
  cases nr : nanB FloatKind.f64.format r with
  | true =>
    have o1 : FloatKind.f64.format.order r a = none := none_of (Or.inl nr)
    have o2 : FloatKind.f64.format.order r b = none := none_of (Or.inl nr)
    have o3 : FloatKind.f64.format.order r r = none := none_of (Or.inl nr)
    have o4 : leB FloatKind.f64.format a r = false := le_nanR nr
    clear na nb nr
    go_enter Try.func6, Try.ntmps6
    go_wp2_with fail
    refine (newRule_any a b _).mono ?_
    rintro e w1 ⟨rfl, R1, B1, S1⟩
    have HR : Hid (IsRule w.heap.size a b w1) := R1
    have HB : Hid (Below w.heap.size w w1) := B1
    clear R1 B1 S1
    go_wp2_with (go_at_call 21; refine (holds_any _ a b _ _ HR.out).mono ?_; rintro e w' ⟨rfl, rfl⟩)
    go_ret
    exact ⟨rfl, HB.out⟩
  | false =>
    have orr : FloatKind.f64.format.order r r = some .eq := self_eq nr
    rcases three nr na with ⟨o1, o2⟩ | ⟨o1, o2⟩ | ⟨o1, o2⟩
    · have o3 : leB FloatKind.f64.format a r = false := le_false o2
      clear na nb nr
      go_enter Try.func6, Try.ntmps6
      go_wp2_with fail
      refine (newRule_any a b _).mono ?_
      rintro e w1 ⟨rfl, R1, B1, S1⟩
      have HR : Hid (IsRule w.heap.size a b w1) := R1
      have HB : Hid (Below w.heap.size w w1) := B1
      clear R1 B1 S1
      go_wp2_with (go_at_call 21; refine (holds_any _ a b _ _ HR.out).mono ?_; rintro e w' ⟨rfl, rfl⟩)
      go_ret
      exact ⟨rfl, HB.out⟩
    · have o3 : leB FloatKind.f64.format a r = true := le_of_order (Or.inr o2)
      rcases three nr nb with ⟨u1, u2⟩ | ⟨u1, u2⟩ | ⟨u1, u2⟩
      · have u3 : leB FloatKind.f64.format r b = true := le_of_order (Or.inl u1)
        clear na nb nr
        go_enter Try.func6, Try.ntmps6
        go_wp2_with fail
        refine (newRule_any a b _).mono ?_
        rintro e w1 ⟨rfl, R1, B1, S1⟩
        have HR : Hid (IsRule w.heap.size a b w1) := R1
        have HB : Hid (Below w.heap.size w w1) := B1
        clear R1 B1 S1
        go_wp2_with (go_at_call 21; refine (holds_any _ a b _ _ HR.out).mono ?_; rintro e w' ⟨rfl, rfl⟩)
        go_ret
        exact ⟨rfl, HB.out⟩
      · have u3 : leB FloatKind.f64.format r b = true := le_of_order (Or.inr u1)
        clear na nb nr
        go_enter Try.func6, Try.ntmps6
        go_wp2_with fail
        refine (newRule_any a b _).mono ?_
        rintro e w1 ⟨rfl, R1, B1, S1⟩
        have HR : Hid (IsRule w.heap.size a b w1) := R1
        have HB : Hid (Below w.heap.size w w1) := B1
        clear R1 B1 S1
        go_wp2_with (go_at_call 21; refine (holds_any _ a b _ _ HR.out).mono ?_; rintro e w' ⟨rfl, rfl⟩)
        go_ret
        exact ⟨rfl, HB.out⟩
      · have u3 : leB FloatKind.f64.format r b = false := le_false u1
        clear na nb nr
        go_enter Try.func6, Try.ntmps6
        go_wp2_with fail
        refine (newRule_any a b _).mono ?_
        rintro e w1 ⟨rfl, R1, B1, S1⟩
        have HR : Hid (IsRule w.heap.size a b w1) := R1
        have HB : Hid (Below w.heap.size w w1) := B1
        clear R1 B1 S1
        go_wp2_with (go_at_call 21; refine (holds_any _ a b _ _ HR.out).mono ?_; rintro e w' ⟨rfl, rfl⟩)
        go_ret
        exact ⟨rfl, HB.out⟩
    · have o3 : leB FloatKind.f64.format a r = true := le_of_order (Or.inl o2)
      rcases three nr nb with ⟨u1, u2⟩ | ⟨u1, u2⟩ | ⟨u1, u2⟩
      · have u3 : leB FloatKind.f64.format r b = true := le_of_order (Or.inl u1)
        clear na nb nr
        go_enter Try.func6, Try.ntmps6
        go_wp2_with fail
        refine (newRule_any a b _).mono ?_
        rintro e w1 ⟨rfl, R1, B1, S1⟩
        have HR : Hid (IsRule w.heap.size a b w1) := R1
        have HB : Hid (Below w.heap.size w w1) := B1
        clear R1 B1 S1
        go_wp2_with (go_at_call 21; refine (holds_any _ a b _ _ HR.out).mono ?_; rintro e w' ⟨rfl, rfl⟩)
        go_ret
        exact ⟨rfl, HB.out⟩
      · have u3 : leB FloatKind.f64.format r b = true := le_of_order (Or.inr u1)
        clear na nb nr
        go_enter Try.func6, Try.ntmps6
        go_wp2_with fail
        refine (newRule_any a b _).mono ?_
        rintro e w1 ⟨rfl, R1, B1, S1⟩
        have HR : Hid (IsRule w.heap.size a b w1) := R1
        have HB : Hid (Below w.heap.size w w1) := B1
        clear R1 B1 S1
        go_wp2_with (go_at_call 21; refine (holds_any _ a b _ _ HR.out).mono ?_; rintro e w' ⟨rfl, rfl⟩)
        go_ret
        exact ⟨rfl, HB.out⟩
      · have u3 : leB FloatKind.f64.format r b = false := le_false u1
        clear na nb nr
        go_enter Try.func6, Try.ntmps6
        go_wp2_with fail
        refine (newRule_any a b _).mono ?_
        rintro e w1 ⟨rfl, R1, B1, S1⟩
        have HR : Hid (IsRule w.heap.size a b w1) := R1
        have HB : Hid (Below w.heap.size w w1) := B1
        clear R1 B1 S1
        go_wp2_with (go_at_call 21; refine (holds_any _ a b _ _ HR.out).mono ?_; rintro e w' ⟨rfl, rfl⟩)
        go_ret
        exact ⟨rfl, HB.out⟩
end Go.Proofs.Qxb6604439a
