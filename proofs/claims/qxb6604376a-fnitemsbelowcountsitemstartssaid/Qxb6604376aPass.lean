import Derived.Test.Qxb6604376aParts
namespace Go.Proofs.Qxb6604376a
open Go.RowKit
set_option linter.unusedVariables false

/-- The pass in the making: block gp; its three rows gi, gf, gs of n cells each; ni items are in, k1 firsts, k2 starts. -/
structure PassInv (gp gi gf gs n : Nat) (tk : Nat → Nat) (s : Nat → Int) (ni : Nat) (lpv : Int) (k1 k2 : Nat) (x4 x5 : Int) (w wr : World) : Prop where
  c0 : wr.cell? ⟨gp, 0, none⟩ = some (.slice (some ⟨gi, 0, none⟩) ni n)
  c1 : wr.cell? ⟨gp, 1, none⟩ = some (.slice (some ⟨gf, 0, none⟩) k1 n)
  c2 : wr.cell? ⟨gp, 2, none⟩ = some (.slice (some ⟨gs, 0, none⟩) k2 n)
  c3 : wr.cell? ⟨gp, 3, none⟩ = some (.int .i64 lpv)
  c4 : wr.cell? ⟨gp, 4, none⟩ = some (.int .i64 x4)
  c5 : wr.cell? ⟨gp, 5, none⟩ = some (.int .i64 x5)
  it : ∀ j, j < ni → wr.cell? ⟨gi, j, none⟩ = some (.pointer (some ⟨tk j, 0, none⟩))
  fi : ∀ j, j < k1 → wr.cell? ⟨gf, j, none⟩ = some (.int .i64 (psum s j))
  si : ∀ j, j < n → (wr.cell? ⟨gi, j, none⟩).isSome = true
  sf : ∀ j, j < n → (wr.cell? ⟨gf, j, none⟩).isSome = true
  ss : ∀ j, j < n → (wr.cell? ⟨gs, j, none⟩).isSome = true
  fz : ∀ g, (g = gp ∨ g = gi ∨ g = gf ∨ g = gs) → ∀ j, wr.frozen? ⟨g, j, none⟩ = false
  ap : gp ≠ gi ∧ gp ≠ gf ∧ gp ≠ gs ∧ gi ≠ gf ∧ gi ≠ gs ∧ gf ≠ gs
  lo : w.heap.size ≤ gp ∧ w.heap.size ≤ gi ∧ w.heap.size ≤ gf ∧ w.heap.size ≤ gs
  hi : gp < wr.heap.size ∧ gi < wr.heap.size ∧ gf < wr.heap.size ∧ gs < wr.heap.size
  bel : Below w.heap.size w wr

section
variable {gp gi gf gs n : Nat} {tk : Nat → Nat} {s : Nat → Int} {ni : Nat} {lpv : Int} {k1 k2 : Nat} {x4 x5 : Int} {w wr : World}

/-- A world in which every block that was there is as it was. -/
theorem PassInv.keep (J : PassInv gp gi gf gs n tk s ni lpv k1 k2 x4 x5 w wr) {w' : World} (h : Below wr.heap.size wr w') : PassInv gp gi gf gs n tk s ni lpv k1 k2 x4 x5 w w' := by
  obtain ⟨h1, h2, h3, h4⟩ := J.hi
  have hs := h.size
  have hw := J.bel.size
  have cl : ∀ g o, g < wr.heap.size → w'.cell? ⟨g, o, none⟩ = wr.cell? ⟨g, o, none⟩ := fun g o hg => h.cell (p := ⟨g, o, none⟩) hg
  refine ⟨?_, ?_, ?_, ?_, ?_, ?_, fun j hj => ?_, fun j hj => ?_, fun j hj => ?_, fun j hj => ?_, fun j hj => ?_, fun g hg j => ?_, J.ap, J.lo, by omega, J.bel.trans (h.mono (by omega))⟩
  · rw [cl _ _ h1]; exact J.c0
  · rw [cl _ _ h1]; exact J.c1
  · rw [cl _ _ h1]; exact J.c2
  · rw [cl _ _ h1]; exact J.c3
  · rw [cl _ _ h1]; exact J.c4
  · rw [cl _ _ h1]; exact J.c5
  · rw [cl _ _ h2]; exact J.it j hj
  · rw [cl _ _ h3]; exact J.fi j hj
  · rw [cl _ _ h2]; exact J.si j hj
  · rw [cl _ _ h3]; exact J.sf j hj
  · rw [cl _ _ h4]; exact J.ss j hj
  · rw [h.frozen (p := ⟨g, j, none⟩) (by rcases hg with rfl | rfl | rfl | rfl <;> assumption)]; exact J.fz g hg j

theorem PassInv.alloc (J : PassInv gp gi gf gs n tk s ni lpv k1 k2 x4 x5 w wr) (o : Obj) : PassInv gp gi gf gs n tk s ni lpv k1 k2 x4 x5 w (wr.alloc o) :=
  J.keep ((Below.refl _ _).alloc (Nat.le_refl _) _)
theorem PassInv.drew (J : PassInv gp gi gf gs n tk s ni lpv k1 k2 x4 x5 w wr) : PassInv gp gi gf gs n tk s ni lpv k1 k2 x4 x5 w wr.drew :=
  J.keep ((Below.refl _ _).drew)

theorem some_setCell {w : World} {a b : Addr} {v : Value} (h : (w.cell? b).isSome = true) : ((w.setCell a v).cell? b).isSome = true := by
  by_cases e : a = b
  · subst e
    obtain ⟨u, hu⟩ := Option.isSome_iff_exists.1 h
    rw [World.cell?_setCell_same _ _ _ hu]; rfl
  · rw [World.cell?_setCell_other _ _ _ _ e]; exact h

/-- p.loop = v -/
theorem PassInv.loopSet (J : PassInv gp gi gf gs n tk s ni lpv k1 k2 x4 x5 w wr) (v : Int) : PassInv gp gi gf gs n tk s ni v k1 k2 x4 x5 w (wr.setCell ⟨gp, 3, none⟩ (.int .i64 v)) := by
  obtain ⟨a1, a2, a3, a4, a5, a6⟩ := J.ap
  have ot : ∀ g o, (g ≠ gp ∨ o ≠ 3) → (wr.setCell ⟨gp, 3, none⟩ (.int .i64 v)).cell? ⟨g, o, none⟩ = wr.cell? ⟨g, o, none⟩ := fun g o h => World.cell?_setCell_other _ _ _ _ (by intro e; injection e; omega)
  refine ⟨?_, ?_, ?_, World.cell?_setCell_same _ _ _ J.c3, ?_, ?_, fun j hj => ?_, fun j hj => ?_, fun j hj => some_setCell (J.si j hj), fun j hj => some_setCell (J.sf j hj), fun j hj => some_setCell (J.ss j hj), fun g hg j => ?_, J.ap, J.lo, by simpa using J.hi, J.bel.setCell J.lo.1 _⟩
  · rw [ot _ _ (by omega)]; exact J.c0
  · rw [ot _ _ (by omega)]; exact J.c1
  · rw [ot _ _ (by omega)]; exact J.c2
  · rw [ot _ _ (by omega)]; exact J.c4
  · rw [ot _ _ (by omega)]; exact J.c5
  · rw [ot _ _ (by omega)]; exact J.it j hj
  · rw [ot _ _ (by omega)]; exact J.fi j hj
  · rw [World.frozen?_setCell]; exact J.fz g hg j
/-- p.segments = v -/
theorem PassInv.segSet (J : PassInv gp gi gf gs n tk s ni lpv k1 k2 x4 x5 w wr) (v : Int) : PassInv gp gi gf gs n tk s ni lpv k1 k2 v x5 w (wr.setCell ⟨gp, 4, none⟩ (.int .i64 v)) := by
  obtain ⟨a1, a2, a3, a4, a5, a6⟩ := J.ap
  have ot : ∀ g o, (g ≠ gp ∨ o ≠ 4) → (wr.setCell ⟨gp, 4, none⟩ (.int .i64 v)).cell? ⟨g, o, none⟩ = wr.cell? ⟨g, o, none⟩ := fun g o h => World.cell?_setCell_other _ _ _ _ (by intro e; injection e; omega)
  refine ⟨?_, ?_, ?_, ?_, World.cell?_setCell_same _ _ _ J.c4, ?_, fun j hj => ?_, fun j hj => ?_, fun j hj => some_setCell (J.si j hj), fun j hj => some_setCell (J.sf j hj), fun j hj => some_setCell (J.ss j hj), fun g hg j => ?_, J.ap, J.lo, by simpa using J.hi, J.bel.setCell J.lo.1 _⟩
  · rw [ot _ _ (by omega)]; exact J.c0
  · rw [ot _ _ (by omega)]; exact J.c1
  · rw [ot _ _ (by omega)]; exact J.c2
  · rw [ot _ _ (by omega)]; exact J.c3
  · rw [ot _ _ (by omega)]; exact J.c5
  · rw [ot _ _ (by omega)]; exact J.it j hj
  · rw [ot _ _ (by omega)]; exact J.fi j hj
  · rw [World.frozen?_setCell]; exact J.fz g hg j
/-- p.length = v -/
theorem PassInv.lenSet (J : PassInv gp gi gf gs n tk s ni lpv k1 k2 x4 x5 w wr) (v : Int) : PassInv gp gi gf gs n tk s ni lpv k1 k2 x4 v w (wr.setCell ⟨gp, 5, none⟩ (.int .i64 v)) := by
  obtain ⟨a1, a2, a3, a4, a5, a6⟩ := J.ap
  have ot : ∀ g o, (g ≠ gp ∨ o ≠ 5) → (wr.setCell ⟨gp, 5, none⟩ (.int .i64 v)).cell? ⟨g, o, none⟩ = wr.cell? ⟨g, o, none⟩ := fun g o h => World.cell?_setCell_other _ _ _ _ (by intro e; injection e; omega)
  refine ⟨?_, ?_, ?_, ?_, ?_, World.cell?_setCell_same _ _ _ J.c5, fun j hj => ?_, fun j hj => ?_, fun j hj => some_setCell (J.si j hj), fun j hj => some_setCell (J.sf j hj), fun j hj => some_setCell (J.ss j hj), fun g hg j => ?_, J.ap, J.lo, by simpa using J.hi, J.bel.setCell J.lo.1 _⟩
  · rw [ot _ _ (by omega)]; exact J.c0
  · rw [ot _ _ (by omega)]; exact J.c1
  · rw [ot _ _ (by omega)]; exact J.c2
  · rw [ot _ _ (by omega)]; exact J.c3
  · rw [ot _ _ (by omega)]; exact J.c4
  · rw [ot _ _ (by omega)]; exact J.it j hj
  · rw [ot _ _ (by omega)]; exact J.fi j hj
  · rw [World.frozen?_setCell]; exact J.fz g hg j

/-- p.firsts = append(p.firsts, psum s k1) -/
theorem PassInv.firstAdd (J : PassInv gp gi gf gs n tk s ni lpv k1 k2 x4 x5 w wr) (hk : k1 < n) :
    PassInv gp gi gf gs n tk s ni lpv (k1 + 1) k2 x4 x5 w ((wr.setCell ⟨gf, k1, none⟩ (.int .i64 (psum s k1))).setCell ⟨gp, 1, none⟩ (.slice (some ⟨gf, 0, none⟩) (k1 + 1) n)) := by
  obtain ⟨a1, a2, a3, a4, a5, a6⟩ := J.ap
  have ot : ∀ g o, (g ≠ gp ∨ o ≠ 1) → (g ≠ gf ∨ o ≠ k1) → ((wr.setCell ⟨gf, k1, none⟩ (.int .i64 (psum s k1))).setCell ⟨gp, 1, none⟩ (.slice (some ⟨gf, 0, none⟩) (k1 + 1) n)).cell? ⟨g, o, none⟩ = wr.cell? ⟨g, o, none⟩ := fun g o h h' => by
    rw [World.cell?_setCell_other _ _ _ _ (by intro e; injection e; omega), World.cell?_setCell_other _ _ _ _ (by intro e; injection e; omega)]
  refine ⟨?_, ?_, ?_, ?_, ?_, ?_, fun j hj => ?_, fun j hj => ?_, fun j hj => some_setCell (some_setCell (J.si j hj)), fun j hj => some_setCell (some_setCell (J.sf j hj)), fun j hj => some_setCell (some_setCell (J.ss j hj)), fun g hg j => ?_, J.ap, J.lo, by simpa using J.hi, (J.bel.setCell J.lo.2.2.1 _).setCell J.lo.1 _⟩
  · rw [ot _ _ (by omega) (by omega)]; exact J.c0
  · exact World.cell?_setCell_same _ _ _ ((World.cell?_setCell_other _ _ _ _ (by intro e; injection e; omega)).trans J.c1)
  · rw [ot _ _ (by omega) (by omega)]; exact J.c2
  · rw [ot _ _ (by omega) (by omega)]; exact J.c3
  · rw [ot _ _ (by omega) (by omega)]; exact J.c4
  · rw [ot _ _ (by omega) (by omega)]; exact J.c5
  · rw [ot _ _ (by omega) (by omega)]; exact J.it j hj
  · by_cases e : j = k1
    · subst e
      obtain ⟨u, hu⟩ := Option.isSome_iff_exists.1 (J.sf j hk)
      rw [World.cell?_setCell_other _ _ _ _ (by intro e; injection e; omega), World.cell?_setCell_same _ _ _ hu]
    · rw [ot _ _ (by omega) (by omega)]; exact J.fi j (by omega)
  · rw [World.frozen?_setCell, World.frozen?_setCell]; exact J.fz g hg j
/-- p.starts = append(p.starts, v) -/
theorem PassInv.startAdd (J : PassInv gp gi gf gs n tk s ni lpv k1 k2 x4 x5 w wr) (v : Int) :
    PassInv gp gi gf gs n tk s ni lpv k1 (k2 + 1) x4 x5 w ((wr.setCell ⟨gs, k2, none⟩ (.int .i64 v)).setCell ⟨gp, 2, none⟩ (.slice (some ⟨gs, 0, none⟩) (k2 + 1) n)) := by
  obtain ⟨a1, a2, a3, a4, a5, a6⟩ := J.ap
  have ot : ∀ g o, (g ≠ gp ∨ o ≠ 2) → (g ≠ gs ∨ o ≠ k2) → ((wr.setCell ⟨gs, k2, none⟩ (.int .i64 v)).setCell ⟨gp, 2, none⟩ (.slice (some ⟨gs, 0, none⟩) (k2 + 1) n)).cell? ⟨g, o, none⟩ = wr.cell? ⟨g, o, none⟩ := fun g o h h' => by
    rw [World.cell?_setCell_other _ _ _ _ (by intro e; injection e; omega), World.cell?_setCell_other _ _ _ _ (by intro e; injection e; omega)]
  refine ⟨?_, ?_, ?_, ?_, ?_, ?_, fun j hj => ?_, fun j hj => ?_, fun j hj => some_setCell (some_setCell (J.si j hj)), fun j hj => some_setCell (some_setCell (J.sf j hj)), fun j hj => some_setCell (some_setCell (J.ss j hj)), fun g hg j => ?_, J.ap, J.lo, by simpa using J.hi, (J.bel.setCell J.lo.2.2.2 _).setCell J.lo.1 _⟩
  · rw [ot _ _ (by omega) (by omega)]; exact J.c0
  · rw [ot _ _ (by omega) (by omega)]; exact J.c1
  · exact World.cell?_setCell_same _ _ _ ((World.cell?_setCell_other _ _ _ _ (by intro e; injection e; omega)).trans J.c2)
  · rw [ot _ _ (by omega) (by omega)]; exact J.c3
  · rw [ot _ _ (by omega) (by omega)]; exact J.c4
  · rw [ot _ _ (by omega) (by omega)]; exact J.c5
  · rw [ot _ _ (by omega) (by omega)]; exact J.it j hj
  · rw [ot _ _ (by omega) (by omega)]; exact J.fi j hj
  · rw [World.frozen?_setCell, World.frozen?_setCell]; exact J.fz g hg j
end
end Go.Proofs.Qxb6604376a
