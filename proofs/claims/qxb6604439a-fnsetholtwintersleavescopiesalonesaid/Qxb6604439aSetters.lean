import Derived.Test.Qxb6604439aSet
namespace Go.Proofs.Qxb6604439a
open Go.RowKit
set_option linter.unusedVariables false
attribute [local go_sem] run_store_float

/-- The configuration in block gc has no model (then the default one is meant) or one of its own. -/
def Cfg (gc al be ga : Nat) (se ss tr sl : Int) (w : World) : Prop :=
  (w.cell? ⟨gc, 14, none⟩ = some (.pointer none) ∧ al = 4606281698874543309 ∧ be = 4606281698874543309 ∧ ga = 4606281698874543309 ∧ se = 6 ∧ ss = 4 ∧ tr = 0 ∧ sl = 0) ∨
  ∃ g, w.cell? ⟨gc, 14, none⟩ = some (.pointer (some ⟨g, 0, none⟩)) ∧ IsModel g al be ga se ss tr sl w ∧ g < w.heap.size

theorem holt_any (gc al be ga : Nat) (se ss tr sl : Int) (w : World) (h : Cfg gc al be ga se ss tr sl w) (hgc : gc < w.heap.size) :
    Calls Try.prog 33 #[.pointer (some ⟨gc, 0, none⟩)] w fun e w' => e = .returned (.agg #[.float .f64 al, .float .f64 be, .float .f64 ga, .int .i64 se, .int .i64 ss, .int .i64 tr, .int .i64 sl]) ∧ Below w.heap.size w w' := by
  rcases h with ⟨h, rfl, rfl, rfl, rfl, rfl, rfl, rfl⟩ | ⟨g, h, hm, hg⟩
  · exact model_nil gc w h hgc
  · exact model_some gc g al be ga se ss tr sl w h hm hg hgc

theorem Cfg.some {gc al be ga : Nat} {se ss tr sl : Int} {w : World} (h : Cfg gc al be ga se ss tr sl w) : ∃ v, w.cell? ⟨gc, 14, none⟩ = some v := by
  rcases h with ⟨h, _⟩ | ⟨g, h, _⟩
  · exact ⟨_, h⟩
  · exact ⟨_, h⟩

/-- Block b is a model's own, no byte of it shared with a string. -/
def Apart (b : Nat) (w : World) : Prop := ∃ c, w.heap[b]? = some (.cells c 46 (0, 0))
theorem Apart.new (w : World) (c : Array Value) : Apart w.heap.size (w.alloc (.cells c 46)) := ⟨c, by show (w.heap.push _)[w.heap.size]? = _; simp⟩
theorem Apart.alloc {b : Nat} {w : World} (h : Apart b w) (o : Obj) : Apart b (w.alloc o) := by
  obtain ⟨c, hc⟩ := h
  have hb : b < w.heap.size := by
    rcases Nat.lt_or_ge b w.heap.size with h | h
    · exact h
    · rw [Array.getElem?_eq_none h] at hc; cases hc
  exact ⟨c, (Below.heap_alloc w o b hb).trans hc⟩

/-- What a set leaves: a model of its own in the new block g; all else that was there as it was. -/
structure Done (gc g : Nat) (w w' : World) : Prop where
  cell : w'.cell? ⟨gc, 14, none⟩ = some (.pointer (some ⟨g, 0, none⟩))
  lo : w.heap.size ≤ g
  hi : g < w'.heap.size
  other : ∀ b o, b < w.heap.size → (b ≠ gc ∨ o ≠ 14) → w'.cell? ⟨b, o, none⟩ = w.cell? ⟨b, o, none⟩
  froz : ∀ b o, b < w.heap.size → w'.frozen? ⟨b, o, none⟩ = w.frozen? ⟨b, o, none⟩
  bel : Below gc w w'
  own : Apart g w'
  rest : ∀ b, b < w.heap.size → b ≠ gc → w'.heap[b]? = w.heap[b]?

theorem cell_box {w w1 : World} {x : Value} {t : TypeId} (h : Below (w.alloc (.cells #[x] t)).heap.size (w.alloc (.cells #[x] t)) w1) : w1.cell? ⟨w.heap.size, 0, none⟩ = some x := by
  rw [h.cell (p := ⟨w.heap.size, 0, none⟩) (by simp), World.cell?_alloc_new]; rfl
theorem cell_old {w w1 : World} {c : Array Value} {t : TypeId} {g : Nat} (h : Below (w.alloc (.cells c t)).heap.size (w.alloc (.cells c t)) w1) (hg : g < w.heap.size) (i : Nat) : w1.cell? ⟨g, i, none⟩ = w.cell? ⟨g, i, none⟩ := by
  rw [h.cell (p := ⟨g, i, none⟩) (by simp; omega), World.cell?_alloc_lt _ _ _ hg]
theorem froz_old {w w1 : World} {c : Array Value} {t : TypeId} {g : Nat} (h : Below (w.alloc (.cells c t)).heap.size (w.alloc (.cells c t)) w1) (hg : g < w.heap.size) (i : Nat) : w1.frozen? ⟨g, i, none⟩ = w.frozen? ⟨g, i, none⟩ := by
  rw [h.frozen (p := ⟨g, i, none⟩) (by simp; omega), frozen?_alloc_cells]
theorem size_box {w w1 : World} {o : Obj} {B : Nat} (h : Below B (w.alloc o) w1) : w.heap.size + 1 ≤ w1.heap.size := by have := h.size; simpa using this
/-- Kept from the walk: below the box all is as it was. -/
theorem hideB {w w1 : World} {o : Obj} (h : Below (w.alloc o).heap.size (w.alloc o) w1) : Hid (Below w.heap.size w w1) :=
  ((Below.refl _ _).alloc (Nat.le_refl _) _).trans (h.mono (by simp))
theorem Cfg.alloc {gc al be ga : Nat} {se ss tr sl : Int} {w : World} (h : Cfg gc al be ga se ss tr sl w) (hgc : gc < w.heap.size) (o : Obj) : Cfg gc al be ga se ss tr sl (w.alloc o) := by
  have cl : ∀ b i, b < w.heap.size → (w.alloc o).cell? ⟨b, i, none⟩ = w.cell? ⟨b, i, none⟩ := fun b i hb => World.cell?_alloc_lt _ _ _ hb
  rcases h with ⟨h, r⟩ | ⟨g, h, hm, hg⟩
  · exact Or.inl ⟨by rw [cl _ _ hgc]; exact h, r⟩
  · refine Or.inr ⟨g, by rw [cl _ _ hgc]; exact h, ⟨?_, ?_, ?_, ?_, ?_, ?_, ?_⟩, by simp; omega⟩
    · rw [cl _ _ hg]; exact hm.m0
    · rw [cl _ _ hg]; exact hm.m1
    · rw [cl _ _ hg]; exact hm.m2
    · rw [cl _ _ hg]; exact hm.m3
    · rw [cl _ _ hg]; exact hm.m4
    · rw [cl _ _ hg]; exact hm.m5
    · rw [cl _ _ hg]; exact hm.m6

theorem done_of {w w1 : World} {gc : Nat} {v0 : Value} {c : Array Value} (hB : Below w.heap.size w w1) (hgc : gc < w.heap.size) (k1 : w1.cell? ⟨gc, 14, none⟩ = some v0) :
    Done gc w1.heap.size w ((w1.setCell ⟨gc, 14, none⟩ (.pointer (some ⟨w1.heap.size, 0, none⟩))).alloc (.cells c 46)) := by
  have hs := hB.size
  have lt : ∀ b, b < w.heap.size → b < (w1.setCell ⟨gc, 14, none⟩ (.pointer (some ⟨w1.heap.size, 0, none⟩))).heap.size := fun b hb => by simp; omega
  refine ⟨?_, hs, by simp, fun b o hb h => ?_, fun b o hb => ?_, ((hB.mono (Nat.le_of_lt hgc)).setCell (Nat.le_refl _) _).alloc (by simp; omega) _, ?_, fun b hb hn => ?_⟩
  · rw [World.cell?_alloc_lt _ _ _ (lt gc hgc), World.cell?_setCell_same _ _ _ k1]
  · rw [World.cell?_alloc_lt _ _ _ (lt b hb), World.cell?_setCell_other _ _ _ _ (by intro e; injection e; omega), hB.cell (p := ⟨b, o, none⟩) hb]
  · rw [frozen?_alloc_cells, World.frozen?_setCell, hB.frozen (p := ⟨b, o, none⟩) hb]
  · have := Apart.new (w1.setCell ⟨gc, 14, none⟩ (.pointer (some ⟨w1.heap.size, 0, none⟩))) c
    simpa using this
  · rw [Below.heap_alloc _ _ _ (lt b hb), Below.heap_setCell _ _ _ _ hn, hB.block b hb]
theorem model_of {w1 : World} {a : Addr} {v : Value} {al be ga : Nat} {se ss tr sl : Int} :
    IsModel w1.heap.size al be ga se ss tr sl ((w1.setCell a v).alloc (.cells #[.float .f64 al, .float .f64 be, .float .f64 ga, .int .i64 se, .int .i64 ss, .int .i64 tr, .int .i64 sl] 46)) := by
  refine ⟨?_, ?_, ?_, ?_, ?_, ?_, ?_⟩ <;> (rw [World.cell?_alloc_at _ _ _ _ (by simp)]; rfl)

set_option maxRecDepth 100000 in
set_option maxHeartbeats 1000000 in
theorem setAlpha_any (gc x al be ga : Nat) (se ss tr sl : Int) (w : World) (h : Cfg gc al be ga se ss tr sl w) (hgc : gc < w.heap.size) (hf : w.frozen? ⟨gc, 14, none⟩ = false) :
    Calls Try.prog 17 #[.pointer (some ⟨gc, 0, none⟩), .float .f64 x] w fun e w' => e = .returned (.tuple #[]) ∧ ∃ g, Done gc g w w' ∧ IsModel g x be ga se ss tr sl w' := by
  have HC : Hid (Cfg gc al be ga se ss tr sl w) := h
  obtain ⟨v0, hv0⟩ := h.some
  have HV : Hid (w.cell? ⟨gc, 14, none⟩ = some v0) := hv0
  have HF : Hid (w.frozen? ⟨gc, 14, none⟩ = false) := hf
  clear h hv0 hf
  go_enter Try.func17, Try.ntmps17
  go_wp2_with (first | (go_at_call 33; refine (holt_any gc al be ga se ss tr sl _ (HC.out.alloc hgc _) (by simp; omega)).mono ?_; rintro e w1 ⟨rfl, B1⟩; have k0 := cell_box B1; have k1 := (cell_old B1 hgc 14).trans HV.out; have k2 := (froz_old B1 hgc 14).trans HF.out; have z1 : w.heap.size < w1.heap.size := size_box B1; have z2 : gc < w1.heap.size := Nat.lt_trans hgc z1; have HB1 := hideB B1; clear B1) | go_in)
  go_end0
  go_wp2_with go_in
  go_end0
  go_wp2
  go_end0
  exact ⟨rfl, _, done_of HB1.out hgc k1, model_of⟩

set_option maxRecDepth 100000 in
set_option maxHeartbeats 1000000 in
theorem setSeason_any (gc al be ga : Nat) (x se ss tr sl : Int) (w : World) (h : Cfg gc al be ga se ss tr sl w) (hgc : gc < w.heap.size) (hf : w.frozen? ⟨gc, 14, none⟩ = false) :
    Calls Try.prog 18 #[.pointer (some ⟨gc, 0, none⟩), .int .i64 x] w fun e w' => e = .returned (.tuple #[]) ∧ ∃ g, Done gc g w w' ∧ IsModel g al be ga x ss tr sl w' := by
  have HC : Hid (Cfg gc al be ga se ss tr sl w) := h
  obtain ⟨v0, hv0⟩ := h.some
  have HV : Hid (w.cell? ⟨gc, 14, none⟩ = some v0) := hv0
  have HF : Hid (w.frozen? ⟨gc, 14, none⟩ = false) := hf
  clear h hv0 hf
  go_enter Try.func18, Try.ntmps18
  go_wp2_with (first | (go_at_call 33; refine (holt_any gc al be ga se ss tr sl _ (HC.out.alloc hgc _) (by simp; omega)).mono ?_; rintro e w1 ⟨rfl, B1⟩; have k0 := cell_box B1; have k1 := (cell_old B1 hgc 14).trans HV.out; have k2 := (froz_old B1 hgc 14).trans HF.out; have z1 : w.heap.size < w1.heap.size := size_box B1; have z2 : gc < w1.heap.size := Nat.lt_trans hgc z1; have HB1 := hideB B1; clear B1) | go_in)
  go_end0
  go_wp2_with go_in
  go_end0
  go_wp2
  go_end0
  exact ⟨rfl, _, done_of HB1.out hgc k1, model_of⟩
end Go.Proofs.Qxb6604439a
