import Derived.Test.Qxb6603781aAdd
namespace Go.Proofs.Qxb6603781a
open Go.RowKit

/-- sim.ZZAdd: the same, behind one more copy of the second struct. -/
theorem zzadd_any (b o : Nat) (d0 d1 d2 d3 d4 d5 d6 d7 d8 d9 d10 d11 d12 d13 d14 : Int) (f : Nat → Int) (w : World) (hb : b < w.heap.size)
    (hc : Nums b o f w) (hf : ∀ j, j < 15 → w.frozen? ⟨b, o + j, none⟩ = false) :
    Calls Try.prog 6 #[.pointer (some ⟨b, o, none⟩), .agg #[.int .i64 d0, .int .i64 d1, .int .i64 d2, .int .i64 d3, .int .i64 d4, .int .i64 d5, .int .i64 d6, .int .i64 d7, .int .i64 d8, .int .i64 d9, .int .i64 d10, .int .i64 d11, .int .i64 d12, .int .i64 d13, .int .i64 d14]] w fun e w' =>
      e = .returned (.tuple #[]) ∧ Nums b o (fun j => wrap64 (f j + [d0, d1, d2, d3, d4, d5, d6, d7, d8, d9, d10, d11, d12, d13, d14].getD j 0)) w' ∧ Below b w w' := by
  go_enter Try.func6, Try.ntmps6
  go_wp2_with fail
  refine (add_any _ _ _ _ _ _ _ _ _ _ _ _ _ _ _ _ _ f _ ?_ ?_ ?_).mono ?_
  · simp; omega
  · intro j hj
    rw [World.cell?_alloc_lt _ _ _ hb]; exact hc j hj
  · intro j hj
    rw [frozen?_alloc_cells]; exact hf j hj
  rintro e w1 ⟨rfl, c1, b1⟩
  go_wp2
  go_end0
  exact ⟨rfl, c1, ((Below.refl _ _).alloc (Nat.le_of_lt hb) _).trans b1⟩
end Go.Proofs.Qxb6603781a
