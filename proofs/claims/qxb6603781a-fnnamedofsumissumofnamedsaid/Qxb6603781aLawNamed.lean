import Derived.Test.Qxb6603781aZZAdd
import Derived.Test.Qxb6603781aNamed
import Derived.Test.Qxb6603781aOpen
import Derived.Deep.QuietTactic
import Derived.BigQuiet
namespace Go.Proofs.Qxb6603781a.lawNamed
open Go.ChangeShapes Go.WideShapes Go.ChangeAt Go.RowKit

theorem Nums.below {b o B : Nat} {f : Nat → Int} {w w' : World} (h : Nums b o f w) (hb : Below B w w') (hB : b < B) : Nums b o f w' := fun j hj => by
  rw [hb.cell (p := ⟨b, o + j, none⟩) hB]; exact h j hj
theorem Pairs.below {b k B : Nat} {f : Nat → Int} {w w' : World} (h : Pairs b f k w) (hb : Below B w w') (hB : b < B) : Pairs b f k w' := fun j hj => by
  rw [hb.cell (p := ⟨b, j * 2, none⟩) hB, hb.cell (p := ⟨b, j * 2 + 1, none⟩) hB]; exact h j hj
theorem Nums.of_alloc {N t : Nat} {w : World} {c : Array Value} {f : Nat → Int} (hN : N = w.heap.size) (h : ∀ j, j < 15 → c[j]? = some (.int .i64 (f j))) : Nums N 0 f (w.alloc (.cells c t)) := fun j hj => by
  rw [Nat.zero_add, World.cell?_alloc_at _ _ _ _ hN]; exact h j hj
theorem Nums.alloc {b o : Nat} {w : World} {f : Nat → Int} (h : Nums b o f w) (hb : b < w.heap.size) (ob : Obj) : Nums b o f (w.alloc ob) := fun j hj => by
  rw [World.cell?_alloc_lt _ _ _ hb]; exact h j hj
theorem Pairs.drawn {b k n : Nat} {f : Nat → Int} {w : World} (h : Pairs b f k w) : Pairs b f k (w.drewN n) := h

/-- What the law has behind its three calls of Named and the one of add. -/
structure Three (g1 g2 g3 : Nat) (f g : Nat → Int) (w wr : World) : Prop where
  p1 : Pairs g1 f 15 wr
  p2 : Pairs g2 g 15 wr
  p3 : Pairs g3 (fun j => wrap64 (f j + g j)) 15 wr
  bel : Below w.heap.size w wr

set_option maxRecDepth 100000 in
set_option maxHeartbeats 4000000 in
theorem walk (x0 x1 x2 x3 x4 x5 x6 x7 x8 x9 x10 x11 x12 x13 x14 y0 y1 y2 y3 y4 y5 y6 y7 y8 y9 y10 y11 y12 y13 y14 : Int) (w : World) :
    Calls Try.prog 3 #[.agg #[.int .i64 x0, .int .i64 x1, .int .i64 x2, .int .i64 x3, .int .i64 x4, .int .i64 x5, .int .i64 x6, .int .i64 x7, .int .i64 x8, .int .i64 x9, .int .i64 x10, .int .i64 x11, .int .i64 x12, .int .i64 x13, .int .i64 x14], .agg #[.int .i64 y0, .int .i64 y1, .int .i64 y2, .int .i64 y3, .int .i64 y4, .int .i64 y5, .int .i64 y6, .int .i64 y7, .int .i64 y8, .int .i64 y9, .int .i64 y10, .int .i64 y11, .int .i64 y12, .int .i64 y13, .int .i64 y14]] w fun e w' => e = .returned (.bool true) ∧ Below w.heap.size w w' := by
  go_enter Try.func3, Try.ntmps3
  go_wp2_with fail
  have fa := arr15 x0 x1 x2 x3 x4 x5 x6 x7 x8 x9 x10 x11 x12 x13 x14
  have fb := arr15 y0 y1 y2 y3 y4 y5 y6 y7 y8 y9 y10 y11 y12 y13 y14
  refine (named_any _ _ (fun j => [x0, x1, x2, x3, x4, x5, x6, x7, x8, x9, x10, x11, x12, x13, x14].getD j 0) _ (by simp <;> omega) (Nums.alloc (Nums.of_alloc (by simp) fa) (by simp) _)).mono ?_
  rintro e w1 ⟨rfl, P1, B1, S1⟩
  have a1 : Nums w.heap.size 0 (fun j => [x0, x1, x2, x3, x4, x5, x6, x7, x8, x9, x10, x11, x12, x13, x14].getD j 0) w1 := Nums.below (Nums.alloc (Nums.alloc (Nums.alloc (Nums.of_alloc rfl fa) (by simp) _) (by simp <;> omega) _) (by simp <;> omega) _) B1 (by simp <;> omega)
  have b1 : Nums (w.heap.size + 1) 0 (fun j => [y0, y1, y2, y3, y4, y5, y6, y7, y8, y9, y10, y11, y12, y13, y14].getD j 0) w1 := Nums.below (Nums.alloc (Nums.alloc (Nums.of_alloc (by simp) fb) (by simp) _) (by simp <;> omega) _) B1 (by simp <;> omega)
  have d1 : Nums (w.heap.size + 1 + 1 + 1) 0 (fun j => [y0, y1, y2, y3, y4, y5, y6, y7, y8, y9, y10, y11, y12, y13, y14].getD j 0) w1 := Nums.below (Nums.of_alloc (by simp) fb) B1 (by simp)
  have bel1 : Below w.heap.size w w1 := (((((Below.refl _ _).alloc (Nat.le_refl _) _).alloc (by simp) _).alloc (by simp <;> omega) _).alloc (by simp <;> omega) _).trans (B1.mono (by simp <;> omega))
  simp only [World.size_alloc] at P1 S1
  clear B1
  go_wp2_with fail
  refine (named_any _ _ (fun j => [y0, y1, y2, y3, y4, y5, y6, y7, y8, y9, y10, y11, y12, y13, y14].getD j 0) _ (by omega) d1).mono ?_
  rintro e w2 ⟨rfl, P2, B2, S2⟩
  have a2 := Nums.below a1 B2 (by omega)
  have b2 := Nums.below b1 B2 (by omega)
  have bel2 := bel1.trans (B2.mono (by omega))
  have P1' := Pairs.below P1 B2 (by omega)
  clear P1 a1 b1 d1 bel1 B2
  unfold Nums at a2 b2
  simp only [Nat.zero_add] at a2 b2
  have A0 := a2 0 (by omega)
  have B0 := b2 0 (by omega)
  have A1 := a2 1 (by omega)
  have B1 := b2 1 (by omega)
  have A2 := a2 2 (by omega)
  have B2 := b2 2 (by omega)
  have A3 := a2 3 (by omega)
  have B3 := b2 3 (by omega)
  have A4 := a2 4 (by omega)
  have B4 := b2 4 (by omega)
  have A5 := a2 5 (by omega)
  have B5 := b2 5 (by omega)
  have A6 := a2 6 (by omega)
  have B6 := b2 6 (by omega)
  have A7 := a2 7 (by omega)
  have B7 := b2 7 (by omega)
  have A8 := a2 8 (by omega)
  have B8 := b2 8 (by omega)
  have A9 := a2 9 (by omega)
  have B9 := b2 9 (by omega)
  have A10 := a2 10 (by omega)
  have B10 := b2 10 (by omega)
  have A11 := a2 11 (by omega)
  have B11 := b2 11 (by omega)
  have A12 := a2 12 (by omega)
  have B12 := b2 12 (by omega)
  have A13 := a2 13 (by omega)
  have B13 := b2 13 (by omega)
  have A14 := a2 14 (by omega)
  have B14 := b2 14 (by omega)
  simp only [List.getD_cons_zero, List.getD_cons_succ] at A0 B0 A1 B1 A2 B2 A3 B3 A4 B4 A5 B5 A6 B6 A7 B7 A8 B8 A9 B9 A10 B10 A11 B11 A12 B12 A13 B13 A14 B14
  clear a2 b2
  have z0 : w.heap.size < w2.heap.size := by omega
  have z1 : w.heap.size + 1 < w2.heap.size := by omega
  go_wp2_with fail
  clear A0 B0 A1 B1 A2 B2 A3 B3 A4 B4 A5 B5 A6 B6 A7 B7 A8 B8 A9 B9 A10 B10 A11 B11 A12 B12 A13 B13 A14 B14
  refine (zzadd_any _ _ _ _ _ _ _ _ _ _ _ _ _ _ _ _ _ (fun j => [x0, x1, x2, x3, x4, x5, x6, x7, x8, x9, x10, x11, x12, x13, x14].getD j 0) _ (by simp) (Nums.of_alloc rfl fa) (fun j hj => by rw [World.frozen?_alloc_at _ _ _ _ rfl])).mono ?_
  rintro e w3 ⟨rfl, C3, B3⟩
  have S3 := B3.size
  simp only [World.size_alloc] at S3
  have bel3 := (bel2.alloc (by omega) _).trans (B3.mono (by omega))
  have B3' : Below w2.heap.size w2 w3 := ((Below.refl _ _).alloc (Nat.le_refl _) _).trans B3
  have Q1 := Pairs.below P1' B3' (by omega)
  have Q2 := Pairs.below P2 B3' (by omega)
  clear B3 B3' P1' P2 bel2 fa fb
  go_wp2_with fail
  refine (named_any _ _ _ _ (by omega) C3).mono ?_
  rintro e w4 ⟨rfl, P4, B4, S4⟩
  have T : Three (w.heap.size + 1 + 1 + 1 + 1 + 1) (w1.heap.size + 1) (w3.heap.size + 1) (fun j => [x0, x1, x2, x3, x4, x5, x6, x7, x8, x9, x10, x11, x12, x13, x14].getD j 0) (fun j => [y0, y1, y2, y3, y4, y5, y6, y7, y8, y9, y10, y11, y12, y13, y14].getD j 0) w w4 :=
    ⟨Pairs.below Q1 B4 (by omega), Pairs.below Q2 B4 (by omega), P4, bel3.trans (B4.mono (by omega))⟩
  clear P4 Q1 Q2 B4 C3 bel3
  generalize (fun j => [x0, x1, x2, x3, x4, x5, x6, x7, x8, x9, x10, x11, x12, x13, x14].getD j 0) = f at T
  generalize (fun j => [y0, y1, y2, y3, y4, y5, y6, y7, y8, y9, y10, y11, y12, y13, y14].getD j 0) = g at T
  go_wp2_with fail
  go_loopw [11] (fun i wr => ∃ k : Nat, k ≤ 15 ∧ i = .int .i64 k ∧ Three (w.heap.size + 1 + 1 + 1 + 1 + 1) (w1.heap.size + 1) (w3.heap.size + 1) f g w wr) (fun i _ => 15 - (intOf i).toNat)
  case atStart => exact ⟨0, by omega, rfl, T⟩
  case round =>
    obtain ⟨k, hk, rfl, J⟩ := hrel
    by_cases hlt : k < 15
    · obtain ⟨e1, e2⟩ := J.p1 k hlt
      obtain ⟨e3, e4⟩ := J.p2 k hlt
      obtain ⟨e5, e6⟩ := J.p3 k hlt
      simp only [hlt, if_true] at e1 e2 e3 e4 e5 e6
      have hi : (k : Int) < 15 := by omega
      go_wp2
      go_quiet (fail)
      go_wp2
      go_quiet (fail)
      go_wp2
      go_roundw
      case rel => exact ⟨k + 1, by omega, by go_num, J.p1, J.p2, J.p3, ⟨J.bel.os, J.bel.tape, J.bel.output, J.bel.size, J.bel.block⟩⟩
      case measure => simp [intOf]; omega
    · obtain rfl : k = 15 := by omega
      go_wp2
      go_ret
      exact ⟨rfl, J.bel⟩
end Go.Proofs.Qxb6603781a.lawNamed
