import Derived.Test.Qxb6603781aAdd
namespace Go.Proofs.Qxb6603781a
open Go.RowKit

/-- The fifteen new, empty pairs. -/
def madeN : Array Value := madeCells (Value.agg #[.string ByteArray.empty, .int .i64 0]).cells 30

theorem Try.info30 : (Try.prog.info? 30).map (fun i => (i.zero, i.size, i.bytes)) = some (some (.agg #[.string ByteArray.empty, .int .i64 0]), 2, 24) := by kernel_rfl

theorem make_any (w : World) : (Instr.makeSlice 25 (.int .i64 15) (.int .i64 15)).run Try.prog w = .ok (.slice (some ⟨w.heap.size, 0, none⟩) 15 15) (w.alloc (.cells madeN 30)) := by
  have h := Try.info30
  cases hi : Try.prog.info? 30 with
  | none => rw [hi] at h; cases h
  | some i =>
    rw [hi] at h
    simp only [Option.map_some, Option.some.injEq, Prod.mk.injEq] at h
    obtain ⟨hz, hs, hb⟩ := h
    have r := run_make (P := Try.prog) w 25 30 i _ Try.underlying25 hi hz .i64 .i64 15 15 (by decide) (by decide) (by rw [hb]; decide) (by decide)
    rw [hs] at r
    exact r

theorem madeN_at : ∀ j, j < 15 → madeN[j * 2]? = some (.string ByteArray.empty) ∧ madeN[j * 2 + 1]? = some (.int .i64 0) := by
  refine upto15 ?_ ?_ ?_ ?_ ?_ ?_ ?_ ?_ ?_ ?_ ?_ ?_ ?_ ?_ ?_ <;> (constructor <;> kernel_rfl)

/-- Block g holds the fifteen pairs (name, number), the first k of them filled. -/
def Pairs (g : Nat) (f : Nat → Int) (k : Nat) (w : World) : Prop :=
  ∀ j, j < 15 → w.cell? ⟨g, j * 2, none⟩ = some (.string (if j < k then nm j else ByteArray.empty)) ∧ w.cell? ⟨g, j * 2 + 1, none⟩ = some (.int .i64 (if j < k then f j else 0))

structure NamedInv (b o N : Nat) (f : Nat → Int) (w : World) (k : Nat) (wr : World) : Prop where
  c : Nums b o f wr
  f1 : Fld b o N wr
  n : Pairs (N + 1) f k wr
  fz : ∀ j, wr.frozen? ⟨N + 1, j, none⟩ = false
  bel : Below N w wr
  size : N + 1 + 1 ≤ wr.heap.size

theorem NamedInv.start {b o : Nat} {f : Nat → Int} {w w1 : World} (hb : b < w.heap.size) (hc : Nums b o f w)
    (F1 : Fld b o w.heap.size w1) (B1 : Below w.heap.size w w1) (S1 : w1.heap.size = w.heap.size + 1) :
    NamedInv b o w.heap.size f w 0 (w1.alloc (.cells madeN 30)) := by
  have old : ∀ (g i : Nat), g < w1.heap.size → (w1.alloc (.cells madeN 30)).cell? ⟨g, i, none⟩ = w1.cell? ⟨g, i, none⟩ := fun g i h => World.cell?_alloc_lt _ _ _ h
  refine ⟨fun j hj => ?_, fun j hj => ?_, fun j hj => ?_, fun j => ?_, B1.alloc (by omega) _, by simp [S1]⟩
  · rw [old _ _ (by omega), B1.cell (p := ⟨b, o + j, none⟩) hb]; exact hc j hj
  · rw [old _ _ (by omega), old _ _ (by omega)]; exact F1 j hj
  · rw [← S1, World.cell?_alloc_new, World.cell?_alloc_new]
    simpa using madeN_at j hj
  · rw [← S1, World.frozen?_alloc_at _ _ _ _ rfl]

theorem NamedInv.step {b o N : Nat} {f : Nat → Int} {w wr : World} {k : Nat} (J : NamedInv b o N f w k wr) (hb : b < N) (hk : k < 15) (c : Array Value) :
    NamedInv b o N f w (k + 1) (((wr.setCell ⟨N + 1, k * 2, none⟩ (.string (nm k))).setCell ⟨N + 1, k * 2 + 1, none⟩ (.int .i64 (f k))).alloc (.cells c 36)).drew := by
  have z := J.size
  have zs : ((wr.setCell ⟨N + 1, k * 2, none⟩ (.string (nm k))).setCell ⟨N + 1, k * 2 + 1, none⟩ (.int .i64 (f k))).heap.size = wr.heap.size := by simp [World.setCell]
  have new : ∀ (g i : Nat), g < wr.heap.size → (((wr.setCell ⟨N + 1, k * 2, none⟩ (.string (nm k))).setCell ⟨N + 1, k * 2 + 1, none⟩ (.int .i64 (f k))).alloc (.cells c 36)).drew.cell? ⟨g, i, none⟩
      = ((wr.setCell ⟨N + 1, k * 2, none⟩ (.string (nm k))).setCell ⟨N + 1, k * 2 + 1, none⟩ (.int .i64 (f k))).cell? ⟨g, i, none⟩ := by
    intro g i hs
    show (((wr.setCell ⟨N + 1, k * 2, none⟩ (.string (nm k))).setCell ⟨N + 1, k * 2 + 1, none⟩ (.int .i64 (f k))).alloc (.cells c 36)).cell? ⟨g, i, none⟩ = _
    rw [World.cell?_alloc_lt _ _ _ (by rw [zs]; exact hs)]
  have old : ∀ (g i : Nat), g < N + 1 → (((wr.setCell ⟨N + 1, k * 2, none⟩ (.string (nm k))).setCell ⟨N + 1, k * 2 + 1, none⟩ (.int .i64 (f k))).alloc (.cells c 36)).drew.cell? ⟨g, i, none⟩ = wr.cell? ⟨g, i, none⟩ := by
    intro g i hg
    rw [new _ _ (by omega), World.cell?_setCell_other _ _ _ _ (by intro e; injection e; omega), World.cell?_setCell_other _ _ _ _ (by intro e; injection e; omega)]
  refine ⟨fun j hj => ?_, fun j hj => ?_, fun j hj => ?_, fun j => ?_, ?_, ?_⟩
  · rw [old _ _ (by omega)]; exact J.c j hj
  · rw [old _ _ (by omega), old _ _ (by omega)]; exact J.f1 j hj
  · obtain ⟨n1, n2⟩ := J.n j hj
    rw [new _ _ (by omega), new _ _ (by omega)]
    by_cases hjk : j = k
    · subst hjk
      rw [World.cell?_setCell_other _ _ _ _ (by intro e; injection e; omega), World.cell?_setCell_same _ _ _ n1,
        World.cell?_setCell_same _ _ _ ((World.cell?_setCell_other _ _ _ _ (by intro e; injection e; omega)).trans n2)]
      simp
    · rw [World.cell?_setCell_other _ _ _ _ (by intro e; injection e; omega), World.cell?_setCell_other _ _ _ _ (by intro e; injection e; omega),
        World.cell?_setCell_other _ _ _ _ (by intro e; injection e; omega), World.cell?_setCell_other _ _ _ _ (by intro e; injection e; omega), n1, n2]
      by_cases h1 : j < k
      · simp [h1, Nat.lt_succ_of_lt h1]
      · simp [h1, show ¬ j < k + 1 by omega]
  · show (((wr.setCell ⟨N + 1, k * 2, none⟩ (.string (nm k))).setCell ⟨N + 1, k * 2 + 1, none⟩ (.int .i64 (f k))).alloc (.cells c 36)).frozen? ⟨N + 1, j, none⟩ = _
    rw [frozen?_alloc_cells, World.frozen?_setCell, World.frozen?_setCell]; exact J.fz j
  · exact (((J.bel.setCell (by simp) _).setCell (by simp) _).alloc (by rw [zs]; omega) _).drew
  · show N + 1 + 1 ≤ (((wr.setCell ⟨N + 1, k * 2, none⟩ (.string (nm k))).setCell ⟨N + 1, k * 2 + 1, none⟩ (.int .i64 (f k))).alloc (.cells c 36)).heap.size
    simp [World.setCell]; omega

set_option maxRecDepth 100000 in
set_option maxHeartbeats 1000000 in
theorem named_any (b o : Nat) (f : Nat → Int) (w : World) (hb : b < w.heap.size) (hc : Nums b o f w) :
    Calls Try.prog 5 #[.pointer (some ⟨b, o, none⟩)] w fun e w' =>
      e = .returned (.slice (some ⟨w.heap.size + 1, 0, none⟩) 15 15) ∧ Pairs (w.heap.size + 1) f 15 w' ∧ Below w.heap.size w w' ∧ w.heap.size + 1 < w'.heap.size := by
  have mk := make_any
  go_enter Try.func5, Try.ntmps5
  go_wp2_with fail
  refine (fields_any _ _ _).mono ?_
  rintro e w1 ⟨rfl, F1, B1, S1⟩
  have I := NamedInv.start hb hc F1 B1 S1
  clear F1 B1 hc
  go_wp2_with fail
  clear mk
  go_loopw [14] (fun i wr => ∃ k : Nat, k ≤ 15 ∧ i = .int .i64 k ∧ NamedInv b o w.heap.size f w k wr) (fun i _ => 15 - (intOf i).toNat)
  case atStart => exact ⟨0, by omega, rfl, I⟩
  case round =>
    obtain ⟨k, hk, rfl, J⟩ := hrel
    by_cases hlt : k < 15
    · obtain ⟨e1, e2⟩ := J.f1 k hlt
      obtain ⟨e3, e4⟩ := J.n k hlt
      have e5 := J.c k hlt
      have e6 := J.fz (k * 2)
      have e7 := J.fz (k * 2 + 1)
      have z1 := J.size
      have y1 : w.heap.size + 1 < wr.heap.size := by omega
      have y0 : w.heap.size < wr.heap.size := by omega
      have y3 : b < wr.heap.size := by omega
      simp only [Nat.lt_irrefl, if_false] at e3 e4
      go_wp2
      go_region
      go_wp2
      go_roundw
      case rel => exact ⟨k + 1, by omega, by go_num, J.step hb hlt _⟩
      case measure => simp [intOf]; omega
    · obtain rfl : k = 15 := by omega
      go_wp2
      go_ret
      exact ⟨rfl, J.n, J.bel, by have := J.size; omega⟩
end Go.Proofs.Qxb6603781a
