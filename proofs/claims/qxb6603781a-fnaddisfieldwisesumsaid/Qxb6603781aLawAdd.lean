import Derived.Test.Qxb6603781aZZAdd
import Derived.Test.Qxb6603781aOpen
namespace Go.Proofs.Qxb6603781a.lawAdd
open Go.ChangeShapes Go.WideShapes Go.ChangeAt Go.RowKit

set_option maxRecDepth 100000 in
set_option maxHeartbeats 2000000 in
theorem walk (x0 x1 x2 x3 x4 x5 x6 x7 x8 x9 x10 x11 x12 x13 x14 y0 y1 y2 y3 y4 y5 y6 y7 y8 y9 y10 y11 y12 y13 y14 : Int) (w : World) :
    Calls Try.prog 4 #[.agg #[.int .i64 x0, .int .i64 x1, .int .i64 x2, .int .i64 x3, .int .i64 x4, .int .i64 x5, .int .i64 x6, .int .i64 x7, .int .i64 x8, .int .i64 x9, .int .i64 x10, .int .i64 x11, .int .i64 x12, .int .i64 x13, .int .i64 x14], .agg #[.int .i64 y0, .int .i64 y1, .int .i64 y2, .int .i64 y3, .int .i64 y4, .int .i64 y5, .int .i64 y6, .int .i64 y7, .int .i64 y8, .int .i64 y9, .int .i64 y10, .int .i64 y11, .int .i64 y12, .int .i64 y13, .int .i64 y14]] w fun e w' => e = .returned (.bool true) ∧ Below w.heap.size w w' := by
  go_enter Try.func4, Try.ntmps4
  go_wp2_with fail
  refine (zzadd_any _ _ _ _ _ _ _ _ _ _ _ _ _ _ _ _ _ (fun j => [x0, x1, x2, x3, x4, x5, x6, x7, x8, x9, x10, x11, x12, x13, x14].getD j 0) _ ?_ ?_ ?_).mono ?_
  · simp
  · intro j hj
    rw [Nat.zero_add, cell3c]; exact arr15 _ _ _ _ _ _ _ _ _ _ _ _ _ _ _ j hj
  · intro j hj
    exact froz3c _ _ _ _ _ _ _ _
  rintro e w1 ⟨rfl, hc, hb⟩
  have z := hb.size
  have hs : w.heap.size + 1 + 1 < w1.heap.size := by simp at z; omega
  have bel : Below w.heap.size w w1 := ((((Below.refl _ _).alloc (Nat.le_refl _) _).alloc (by simp) _).alloc (by simp; omega) _).trans (hb.mono (by omega))
  have hA : ∀ j, j < 15 → w1.cell? ⟨w.heap.size, j, none⟩ = some (.int .i64 ([x0, x1, x2, x3, x4, x5, x6, x7, x8, x9, x10, x11, x12, x13, x14].getD j 0)) := by
    intro j hj
    rw [hb.cell (p := ⟨w.heap.size, j, none⟩) (by show w.heap.size < w.heap.size + 1 + 1; omega), cell3a]; exact arr15 _ _ _ _ _ _ _ _ _ _ _ _ _ _ _ j hj
  have hB : ∀ j, j < 15 → w1.cell? ⟨w.heap.size + 1, j, none⟩ = some (.int .i64 ([y0, y1, y2, y3, y4, y5, y6, y7, y8, y9, y10, y11, y12, y13, y14].getD j 0)) := by
    intro j hj
    rw [hb.cell (p := ⟨w.heap.size + 1, j, none⟩) (by show w.heap.size + 1 < w.heap.size + 1 + 1; omega), cell3b]; exact arr15 _ _ _ _ _ _ _ _ _ _ _ _ _ _ _ j hj
  unfold Nums at hc
  simp only [Nat.zero_add] at hc
  clear hb z
  have A0 := hA 0 (by omega)
  have B0 := hB 0 (by omega)
  have C0 := hc 0 (by omega)
  have A1 := hA 1 (by omega)
  have B1 := hB 1 (by omega)
  have C1 := hc 1 (by omega)
  have A2 := hA 2 (by omega)
  have B2 := hB 2 (by omega)
  have C2 := hc 2 (by omega)
  have A3 := hA 3 (by omega)
  have B3 := hB 3 (by omega)
  have C3 := hc 3 (by omega)
  have A4 := hA 4 (by omega)
  have B4 := hB 4 (by omega)
  have C4 := hc 4 (by omega)
  have A5 := hA 5 (by omega)
  have B5 := hB 5 (by omega)
  have C5 := hc 5 (by omega)
  have A6 := hA 6 (by omega)
  have B6 := hB 6 (by omega)
  have C6 := hc 6 (by omega)
  have A7 := hA 7 (by omega)
  have B7 := hB 7 (by omega)
  have C7 := hc 7 (by omega)
  have A8 := hA 8 (by omega)
  have B8 := hB 8 (by omega)
  have C8 := hc 8 (by omega)
  have A9 := hA 9 (by omega)
  have B9 := hB 9 (by omega)
  have C9 := hc 9 (by omega)
  have A10 := hA 10 (by omega)
  have B10 := hB 10 (by omega)
  have C10 := hc 10 (by omega)
  have A11 := hA 11 (by omega)
  have B11 := hB 11 (by omega)
  have C11 := hc 11 (by omega)
  have A12 := hA 12 (by omega)
  have B12 := hB 12 (by omega)
  have C12 := hc 12 (by omega)
  have A13 := hA 13 (by omega)
  have B13 := hB 13 (by omega)
  have C13 := hc 13 (by omega)
  have A14 := hA 14 (by omega)
  have B14 := hB 14 (by omega)
  have C14 := hc 14 (by omega)
  clear hA hB hc
  simp only [List.getD_cons_zero, List.getD_cons_succ] at A0 B0 C0 A1 B1 C1 A2 B2 C2 A3 B3 C3 A4 B4 C4 A5 B5 C5 A6 B6 C6 A7 B7 C7 A8 B8 C8 A9 B9 C9 A10 B10 C10 A11 B11 C11 A12 B12 C12 A13 B13 C13 A14 B14 C14
  go_wp2
  go_ret
  exact ⟨rfl, bel.alloc (by omega) _⟩
end Go.Proofs.Qxb6603781a.lawAdd
