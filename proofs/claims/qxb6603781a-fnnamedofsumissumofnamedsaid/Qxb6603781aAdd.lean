import Derived.Test.Qxb6603781aFields
import Derived.RegionTactic
import Derived.LoopTactic
namespace Go.Proofs.Qxb6603781a
open Go.RowKit

/-- The fifteen cells from (b, o) on hold the numbers xs. -/
def Nums (b o : Nat) (f : Nat → Int) (w : World) : Prop := ∀ j, j < 15 → w.cell? ⟨b, o + j, none⟩ = some (.int .i64 (f j))

/-- What holds at the head of round k of add's loop: N: the heap's size as the call began. -/
structure AddInv (b o N : Nat) (f d : Nat → Int) (w : World) (k : Nat) (wr : World) : Prop where
  c : Nums b o (fun j => if j < k then wrap64 (f j + d j) else f j) wr
  d : Nums N 0 d wr
  f1 : Fld N 0 (N + 1) wr
  f2 : Fld b o (N + 1 + 1) wr
  fz : ∀ j, j < 15 → wr.frozen? ⟨b, o + j, none⟩ = false
  bel : Below b w wr
  size : N + 1 + 1 + 1 ≤ wr.heap.size

theorem cell_new0 (w : World) (c : Array Value) (t : TypeId) (i : Nat) : (w.alloc (.cells c t)).cell? ⟨w.heap.size, i, none⟩ = c[i]? := cell_new w c t i

theorem AddInv.start {b o : Nat} {f d : Nat → Int} {w w0 w1 w2 : World} {c : Array Value} (h0 : w0 = w.alloc (.cells c 24)) (hb : b < w.heap.size) (hc : Nums b o f w)
    (hf : ∀ j, j < 15 → w.frozen? ⟨b, o + j, none⟩ = false) (hd : ∀ j, j < 15 → c[j]? = some (.int .i64 (d j)))
    (F1 : Fld w.heap.size 0 w0.heap.size w1) (B1 : Below w0.heap.size w0 w1) (S1 : w1.heap.size = w0.heap.size + 1)
    (F2 : Fld b o w1.heap.size w2) (B2 : Below w1.heap.size w1 w2) (S2 : w2.heap.size = w1.heap.size + 1) :
    AddInv b o w.heap.size f d w 0 w2 := by
  have s0 : w0.heap.size = w.heap.size + 1 := by rw [h0]; simp
  have b0 : Below w.heap.size w w0 := by rw [h0]; exact (Below.refl _ _).alloc (Nat.le_refl _) _
  have b2 : Below w.heap.size w w2 := (b0.trans (B1.mono (by omega))).trans (B2.mono (by omega))
  rw [s0] at F1
  rw [S1, s0] at F2
  refine ⟨fun j hj => ?_, fun j hj => ?_, fun j hj => ?_, F2, fun j hj => ?_, b2.mono (by omega), by omega⟩
  · simp only [Nat.not_lt_zero, if_false]
    rw [b2.cell (p := ⟨b, o + j, none⟩) hb]; exact hc j hj
  · rw [B2.cell (p := ⟨w.heap.size, 0 + j, none⟩) (by simp; omega), B1.cell (p := ⟨w.heap.size, 0 + j, none⟩) (by simp; omega), h0, Nat.zero_add, cell_new0]
    exact hd j hj
  · rw [B2.cell (p := ⟨w.heap.size + 1, j * 2, none⟩) (by simp; omega), B2.cell (p := ⟨w.heap.size + 1, j * 2 + 1, none⟩) (by simp; omega)]
    exact F1 j hj
  · rw [b2.frozen (p := ⟨b, o + j, none⟩) hb]; exact hf j hj

theorem AddInv.step {b o N : Nat} {f d : Nat → Int} {w wr : World} {k : Nat} (J : AddInv b o N f d w k wr) (hb : b < N) (hk : k < 15) (c : Array Value) :
    AddInv b o N f d w (k + 1) ((wr.setCell ⟨b, o + k, none⟩ (.int .i64 (wrap64 (f k + d k)))).alloc (.cells c 36)).drew := by
  have z := J.size
  have zs : (wr.setCell ⟨b, o + k, none⟩ (.int .i64 (wrap64 (f k + d k)))).heap.size = wr.heap.size := by simp [World.setCell]
  have old : ∀ (g i : Nat), g ≠ b → g < wr.heap.size → ((wr.setCell ⟨b, o + k, none⟩ (.int .i64 (wrap64 (f k + d k)))).alloc (.cells c 36)).drew.cell? ⟨g, i, none⟩ = wr.cell? ⟨g, i, none⟩ := by
    intro g i hg hs
    show ((wr.setCell ⟨b, o + k, none⟩ (.int .i64 (wrap64 (f k + d k)))).alloc (.cells c 36)).cell? ⟨g, i, none⟩ = _
    rw [World.cell?_alloc_lt _ _ _ (by rw [zs]; exact hs), World.cell?_setCell_other _ _ _ _ (by intro e; injection e with e1; exact hg e1.symm)]
  refine ⟨fun j hj => ?_, fun j hj => ?_, fun j hj => ?_, fun j hj => ?_, fun j hj => ?_, ?_, ?_⟩
  · show ((wr.setCell ⟨b, o + k, none⟩ (.int .i64 (wrap64 (f k + d k)))).alloc (.cells c 36)).cell? ⟨b, o + j, none⟩ = _
    rw [World.cell?_alloc_lt _ _ _ (by rw [zs]; show b < _; omega)]
    by_cases hjk : j = k
    · subst hjk
      rw [World.cell?_setCell_same _ _ _ (J.c j hj)]
      simp
    · rw [World.cell?_setCell_other _ _ _ _ (by intro e; injection e with _ e2; omega), J.c j hj]
      by_cases h1 : j < k
      · simp [h1, Nat.lt_succ_of_lt h1]
      · simp [h1, show ¬ j < k + 1 by omega]
  · rw [old _ _ (by omega) (by omega)]; exact J.d j hj
  · rw [old _ _ (by omega) (by omega), old _ _ (by omega) (by omega)]; exact J.f1 j hj
  · rw [old _ _ (by omega) (by omega), old _ _ (by omega) (by omega)]; exact J.f2 j hj
  · show ((wr.setCell ⟨b, o + k, none⟩ (.int .i64 (wrap64 (f k + d k)))).alloc (.cells c 36)).frozen? ⟨b, o + j, none⟩ = _
    rw [frozen?_alloc_cells, World.frozen?_setCell]; exact J.fz j hj
  · exact ((J.bel.setCell (Nat.le_refl _) _).alloc (by rw [zs]; omega) _).drew
  · show N + 1 + 1 + 1 ≤ ((wr.setCell ⟨b, o + k, none⟩ (.int .i64 (wrap64 (f k + d k)))).alloc (.cells c 36)).heap.size
    simp [World.setCell]; omega

set_option maxRecDepth 100000 in
set_option maxHeartbeats 1000000 in
theorem add_any (b o : Nat) (d0 d1 d2 d3 d4 d5 d6 d7 d8 d9 d10 d11 d12 d13 d14 : Int) (f : Nat → Int) (w : World) (hb : b < w.heap.size)
    (hc : Nums b o f w) (hf : ∀ j, j < 15 → w.frozen? ⟨b, o + j, none⟩ = false) :
    Calls Try.prog 8 #[.pointer (some ⟨b, o, none⟩), .agg #[.int .i64 d0, .int .i64 d1, .int .i64 d2, .int .i64 d3, .int .i64 d4, .int .i64 d5, .int .i64 d6, .int .i64 d7, .int .i64 d8, .int .i64 d9, .int .i64 d10, .int .i64 d11, .int .i64 d12, .int .i64 d13, .int .i64 d14]] w fun e w' =>
      e = .returned (.tuple #[]) ∧ Nums b o (fun j => wrap64 (f j + [d0, d1, d2, d3, d4, d5, d6, d7, d8, d9, d10, d11, d12, d13, d14].getD j 0)) w' ∧ Below b w w' := by
  go_enter Try.func8, Try.ntmps8
  go_wp2_with fail
  refine (fields_any _ _ _).mono ?_
  rintro e w1 ⟨rfl, F1, B1, S1⟩
  go_wp2_with fail
  refine (fields_any _ _ _).mono ?_
  rintro e w2 ⟨rfl, F2, B2, S2⟩
  go_wp2_with fail
  have I := AddInv.start (d := fun j => [d0, d1, d2, d3, d4, d5, d6, d7, d8, d9, d10, d11, d12, d13, d14].getD j 0) rfl hb hc hf
    (by refine upto15 ?_ ?_ ?_ ?_ ?_ ?_ ?_ ?_ ?_ ?_ ?_ ?_ ?_ ?_ ?_ <;> rfl) F1 B1 S1 F2 B2 S2
  clear F1 B1 S1 F2 B2 S2 hc hf
  generalize hd : (fun j => [d0, d1, d2, d3, d4, d5, d6, d7, d8, d9, d10, d11, d12, d13, d14].getD j 0) = d at I
  have HD : Hid ((fun j => [d0, d1, d2, d3, d4, d5, d6, d7, d8, d9, d10, d11, d12, d13, d14].getD j 0) = d) := hd
  clear hd
  go_loopw [11] (fun i wr => ∃ k : Nat, k ≤ 15 ∧ i = .int .i64 k ∧ AddInv b o w.heap.size f d w k wr) (fun i _ => 15 - (intOf i).toNat)
  case atStart => exact ⟨0, by omega, rfl, I⟩
  case round =>
    obtain ⟨k, hk, rfl, J⟩ := hrel
    by_cases hlt : k < 15
    · obtain ⟨e1, e2⟩ := J.f2 k hlt
      obtain ⟨e3, e4⟩ := J.f1 k hlt
      have e5 := J.c k hlt
      have e6 := J.d k hlt
      have e7 := J.fz k hlt
      have z1 := J.size
      have y0 : w.heap.size < wr.heap.size := by omega
      have y1 : w.heap.size + 1 < wr.heap.size := by omega
      have y2 : w.heap.size + 1 + 1 < wr.heap.size := by omega
      have y3 : b < wr.heap.size := by omega
      simp only [Nat.lt_irrefl, if_false, Nat.zero_add] at e4 e5 e6
      go_wp2
      go_region
      go_wp2
      go_roundw
      case rel => exact ⟨k + 1, by omega, by go_num, J.step hb hlt _⟩
      case measure => simp [intOf]; omega
    · obtain rfl : k = 15 := by omega
      go_wp2
      go_end0
      refine ⟨rfl, fun j hj => ?_, J.bel⟩
      have q := J.c j hj
      have hd := HD.out
      subst hd
      simp only [hj, if_true] at q
      exact q
end Go.Proofs.Qxb6603781a
