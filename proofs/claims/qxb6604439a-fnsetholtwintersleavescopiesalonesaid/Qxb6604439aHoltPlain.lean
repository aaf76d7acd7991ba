import Derived.Test.Qxb6604439aSetters
namespace Go.Proofs.Qxb6604439a
open Go.RowKit
set_option linter.unusedVariables false
attribute [local go_sem] run_store_float

/-- An empty configuration but for its model. -/
def cfg (p : Option Addr) : Array Value := #[.int .i64 0, .int .i64 0, .int .i64 0, .int .i64 0, .slice none 0 0, .pointer none, .pointer none, .int .i64 0, .int .i64 0, .int .i64 0, .pointer none, .pointer none, .pointer none, .bool false, .pointer p]
theorem cfg_old (p q : Option Addr) {j : Nat} (h : j < 14) : (cfg p)[j]? = (cfg q)[j]? := by
  match j, h with
  | 0, _ => rfl
  | 1, _ => rfl
  | 2, _ => rfl
  | 3, _ => rfl
  | 4, _ => rfl
  | 5, _ => rfl
  | 6, _ => rfl
  | 7, _ => rfl
  | 8, _ => rfl
  | 9, _ => rfl
  | 10, _ => rfl
  | 11, _ => rfl
  | 12, _ => rfl
  | 13, _ => rfl

/-- Block g holds an empty configuration with the model p. -/
def IsCfg (g : Nat) (p : Option Addr) (w : World) : Prop := ∀ j, j < 15 → w.cell? ⟨g, j, none⟩ = (cfg p)[j]?

theorem IsModel.old {g al be ga : Nat} {se ss tr sl : Int} {w w' : World} (h : IsModel g al be ga se ss tr sl w) (cl : ∀ o, w'.cell? ⟨g, o, none⟩ = w.cell? ⟨g, o, none⟩) : IsModel g al be ga se ss tr sl w' :=
  ⟨(cl 0).trans h.m0, (cl 1).trans h.m1, (cl 2).trans h.m2, (cl 3).trans h.m3, (cl 4).trans h.m4, (cl 5).trans h.m5, (cl 6).trans h.m6⟩
theorem IsCfg.set {g gm : Nat} {p : Option Addr} {w w' : World} (h : IsCfg g p w) (hg : g < w.heap.size) (D : Done g gm w w') : IsCfg g (some ⟨gm, 0, none⟩) w' := fun j hj => by
  by_cases e : j = 14
  · subst e; rw [D.cell]; rfl
  · rw [D.other g j hg (Or.inr e), h j hj, cfg_old _ _ (by omega)]
theorem IsCfg.old {g : Nat} {p : Option Addr} {w w' : World} (h : IsCfg g p w) (cl : ∀ o, w'.cell? ⟨g, o, none⟩ = w.cell? ⟨g, o, none⟩) : IsCfg g p w' := fun j hj => (cl j).trans (h j hj)

/-- What the law has ahead of its first set: the configuration c in block N, its copy 'before' in block gb; the model of both, or none. -/
structure Start (N gb al be ga : Nat) (se ss tr sl : Int) (p : Option Addr) (w W : World) : Prop where
  c : IsCfg N p W
  b : W.cell? ⟨gb, 14, none⟩ = some (.pointer p)
  m : Cfg N al be ga se ss tr sl W
  pm : ∀ g, p = some g → g.spot = none ∧ g.off = 0 ∧ IsModel g.block al be ga se ss tr sl W ∧ g.block < W.heap.size ∧ g.block ≠ N ∧ Apart g.block W
  lt : N < W.heap.size ∧ gb < W.heap.size ∧ gb ≠ N
  f : W.frozen? ⟨N, 14, none⟩ = false
  bel : Below N w W

theorem start_true (al be ga : Nat) (se ss tr sl : Int) (w : World) : Start w.heap.size (w.heap.size + 1 + 1) al be ga se ss tr sl (some ⟨w.heap.size + 1, 0, none⟩) w
    (((w.alloc (.cells #[.int .i64 0, .int .i64 0, .int .i64 0, .int .i64 0, .slice none 0 0, .pointer none, .pointer none, .int .i64 0, .int .i64 0, .int .i64 0, .pointer none, .pointer none, .pointer none, .bool false, .pointer (some ⟨w.heap.size + 1, 0, none⟩)] 43)).alloc (.cells #[.float .f64 al, .float .f64 be, .float .f64 ga, .int .i64 se, .int .i64 ss, .int .i64 tr, .int .i64 sl] 46)).alloc (.cells #[.int .i64 0, .int .i64 0, .int .i64 0, .int .i64 0, .slice none 0 0, .pointer none, .pointer none, .int .i64 0, .int .i64 0, .int .i64 0, .pointer none, .pointer none, .pointer none, .bool false, .pointer (some ⟨w.heap.size + 1, 0, none⟩)] 43)) := by
  have c0 : ∀ o, (((w.alloc (.cells #[.int .i64 0, .int .i64 0, .int .i64 0, .int .i64 0, .slice none 0 0, .pointer none, .pointer none, .int .i64 0, .int .i64 0, .int .i64 0, .pointer none, .pointer none, .pointer none, .bool false, .pointer (some ⟨w.heap.size + 1, 0, none⟩)] 43)).alloc (.cells #[.float .f64 al, .float .f64 be, .float .f64 ga, .int .i64 se, .int .i64 ss, .int .i64 tr, .int .i64 sl] 46)).alloc (.cells #[.int .i64 0, .int .i64 0, .int .i64 0, .int .i64 0, .slice none 0 0, .pointer none, .pointer none, .int .i64 0, .int .i64 0, .int .i64 0, .pointer none, .pointer none, .pointer none, .bool false, .pointer (some ⟨w.heap.size + 1, 0, none⟩)] 43)).cell? ⟨w.heap.size, o, none⟩ = (cfg (some ⟨w.heap.size + 1, 0, none⟩))[o]? := fun o => by
    rw [World.cell?_alloc_lt _ _ _ (by simp; omega), World.cell?_alloc_lt _ _ _ (by simp), World.cell?_alloc_new]; rfl
  have c1 : ∀ o, (((w.alloc (.cells #[.int .i64 0, .int .i64 0, .int .i64 0, .int .i64 0, .slice none 0 0, .pointer none, .pointer none, .int .i64 0, .int .i64 0, .int .i64 0, .pointer none, .pointer none, .pointer none, .bool false, .pointer (some ⟨w.heap.size + 1, 0, none⟩)] 43)).alloc (.cells #[.float .f64 al, .float .f64 be, .float .f64 ga, .int .i64 se, .int .i64 ss, .int .i64 tr, .int .i64 sl] 46)).alloc (.cells #[.int .i64 0, .int .i64 0, .int .i64 0, .int .i64 0, .slice none 0 0, .pointer none, .pointer none, .int .i64 0, .int .i64 0, .int .i64 0, .pointer none, .pointer none, .pointer none, .bool false, .pointer (some ⟨w.heap.size + 1, 0, none⟩)] 43)).cell? ⟨w.heap.size + 1, o, none⟩ = (#[.float .f64 al, .float .f64 be, .float .f64 ga, .int .i64 se, .int .i64 ss, .int .i64 tr, .int .i64 sl] : Array Value)[o]? := fun o => by
    rw [World.cell?_alloc_lt _ _ _ (by simp), World.cell?_alloc_at _ _ _ _ (by simp)]
  have hm : IsModel (w.heap.size + 1) al be ga se ss tr sl (((w.alloc (.cells #[.int .i64 0, .int .i64 0, .int .i64 0, .int .i64 0, .slice none 0 0, .pointer none, .pointer none, .int .i64 0, .int .i64 0, .int .i64 0, .pointer none, .pointer none, .pointer none, .bool false, .pointer (some ⟨w.heap.size + 1, 0, none⟩)] 43)).alloc (.cells #[.float .f64 al, .float .f64 be, .float .f64 ga, .int .i64 se, .int .i64 ss, .int .i64 tr, .int .i64 sl] 46)).alloc (.cells #[.int .i64 0, .int .i64 0, .int .i64 0, .int .i64 0, .slice none 0 0, .pointer none, .pointer none, .int .i64 0, .int .i64 0, .int .i64 0, .pointer none, .pointer none, .pointer none, .bool false, .pointer (some ⟨w.heap.size + 1, 0, none⟩)] 43)) :=
    ⟨c1 0, c1 1, c1 2, c1 3, c1 4, c1 5, c1 6⟩
  refine ⟨fun j _ => c0 j, ?_, Or.inr ⟨w.heap.size + 1, c0 14, hm, by simp⟩, fun g hg => ?_, ⟨by simp; omega, by simp, by omega⟩, ?_, ((((Below.refl _ _).alloc (Nat.le_refl _) _).alloc (by simp) _).alloc (by simp; omega) _)⟩
  · rw [World.cell?_alloc_at _ _ _ _ (by simp)]; rfl
  · cases hg
    exact ⟨rfl, rfl, hm, by simp, by simp, by have := Apart.new (w.alloc (.cells (cfg (some ⟨w.heap.size + 1, 0, none⟩)) 43)) #[.float .f64 al, .float .f64 be, .float .f64 ga, .int .i64 se, .int .i64 ss, .int .i64 tr, .int .i64 sl]; rw [World.size_alloc] at this; exact this.alloc _⟩
  · rw [frozen?_alloc_cells, frozen?_alloc_cells, World.frozen?_alloc_at _ _ _ _ rfl]

theorem start_false (w : World) : Start w.heap.size (w.heap.size + 1) 4606281698874543309 4606281698874543309 4606281698874543309 6 4 0 0 none w
    ((w.alloc (.cells #[.int .i64 0, .int .i64 0, .int .i64 0, .int .i64 0, .slice none 0 0, .pointer none, .pointer none, .int .i64 0, .int .i64 0, .int .i64 0, .pointer none, .pointer none, .pointer none, .bool false, .pointer none] 43)).alloc (.cells #[.int .i64 0, .int .i64 0, .int .i64 0, .int .i64 0, .slice none 0 0, .pointer none, .pointer none, .int .i64 0, .int .i64 0, .int .i64 0, .pointer none, .pointer none, .pointer none, .bool false, .pointer none] 43)) := by
  have c0 : ∀ o, ((w.alloc (.cells #[.int .i64 0, .int .i64 0, .int .i64 0, .int .i64 0, .slice none 0 0, .pointer none, .pointer none, .int .i64 0, .int .i64 0, .int .i64 0, .pointer none, .pointer none, .pointer none, .bool false, .pointer none] 43)).alloc (.cells #[.int .i64 0, .int .i64 0, .int .i64 0, .int .i64 0, .slice none 0 0, .pointer none, .pointer none, .int .i64 0, .int .i64 0, .int .i64 0, .pointer none, .pointer none, .pointer none, .bool false, .pointer none] 43)).cell? ⟨w.heap.size, o, none⟩ = (cfg none)[o]? := fun o => by
    rw [World.cell?_alloc_lt _ _ _ (by simp), World.cell?_alloc_new]; rfl
  refine ⟨fun j _ => c0 j, ?_, Or.inl ⟨c0 14, rfl, rfl, rfl, rfl, rfl, rfl, rfl⟩, fun g hg => ?_, ⟨by simp; omega, by simp, by omega⟩, ?_, (((Below.refl _ _).alloc (Nat.le_refl _) _).alloc (by simp) _)⟩
  · rw [World.cell?_alloc_at _ _ _ _ (by simp)]; rfl
  · cases hg
  · rw [frozen?_alloc_cells, World.frozen?_alloc_at _ _ _ _ rfl]

/-- What the law has behind both sets. -/
structure Final (N gb M g1 g3 al be ga na : Nat) (se ss tr sl ns : Int) (p : Option Addr) (w w3 : World) : Prop where
  b : w3.cell? ⟨gb, 14, none⟩ = some (.pointer p)
  mid : w3.cell? ⟨M, 14, none⟩ = some (.pointer (some ⟨g1, 0, none⟩))
  c : w3.cell? ⟨N, 14, none⟩ = some (.pointer (some ⟨g3, 0, none⟩))
  m1 : IsModel g1 na be ga se ss tr sl w3
  m3 : IsModel g3 na be ga ns ss tr sl w3
  pm : ∀ g, p = some g → IsModel g.block al be ga se ss tr sl w3 ∧ g.block ≠ g1 ∧ Apart g.block w3
  ne : g3 ≠ g1
  a1 : Apart g1 w3
  a3 : Apart g3 w3
  bel : Below N w w3

theorem final_of {N gb g1 g3 al be ga na : Nat} {se ss tr sl ns : Int} {p : Option Addr} {w W w1 w3 : World} (S : Start N gb al be ga se ss tr sl p w W) (D1 : Done N g1 W w1) (m1 : IsModel g1 na be ga se ss tr sl w1)
    (D3 : Done N g3 (w1.alloc (.cells #[.int .i64 0, .int .i64 0, .int .i64 0, .int .i64 0, .slice none 0 0, .pointer none, .pointer none, .int .i64 0, .int .i64 0, .int .i64 0, .pointer none, .pointer none, .pointer none, .bool false, .pointer (some ⟨g1, 0, none⟩)] 43)) w3) (m3 : IsModel g3 na be ga ns ss tr sl w3) : Final N gb w1.heap.size g1 g3 al be ga na se ss tr sl ns p w w3 := by
  obtain ⟨l1, l2, l3⟩ := S.lt
  have s1 := D1.hi
  have s1' := D1.lo
  have s3 := D3.lo
  have sz : W.heap.size ≤ w1.heap.size := D1.bel.size
  simp only [World.size_alloc] at s3
  have old : ∀ b o, b < w1.heap.size → b ≠ N → w3.cell? ⟨b, o, none⟩ = w1.cell? ⟨b, o, none⟩ := fun b o hb hn => by
    rw [D3.other b o (by simp; omega) (Or.inl hn), World.cell?_alloc_lt _ _ _ hb]
  have old0 : ∀ b o, b < W.heap.size → b ≠ N → w3.cell? ⟨b, o, none⟩ = W.cell? ⟨b, o, none⟩ := fun b o hb hn => by
    rw [old b o (by omega) hn, D1.other b o hb (Or.inl hn)]
  have keep : ∀ b, b < w1.heap.size → b ≠ N → Apart b w1 → Apart b w3 := fun b hb hn h => by
    obtain ⟨c, hc⟩ := h
    exact ⟨c, (D3.rest b (by simp; omega) hn).trans ((Below.heap_alloc _ _ _ hb).trans hc)⟩
  refine ⟨?_, ?_, D3.cell, m1.old (fun o => old g1 o s1 (by omega)), m3, fun g hg => ?_, by omega, ?_, D3.own, ?_⟩
  · rw [old0 gb 14 l2 l3]; exact S.b
  · rw [D3.other _ _ (by simp) (Or.inl (by omega)), World.cell?_alloc_new]; rfl
  · obtain ⟨_, _, hm, hg1, hg2, hg3⟩ := S.pm g hg
    exact ⟨hm.old (fun o => old0 g.block o hg1 hg2), by omega, keep _ (by omega) hg2 (by obtain ⟨c, hc⟩ := hg3; exact ⟨c, (D1.rest _ hg1 hg2).trans hc⟩)⟩
  · exact keep _ s1 (by omega) D1.own
  · exact S.bel.trans (D1.bel.trans (((Below.refl _ _).alloc (by omega) _).trans D3.bel))
end Go.Proofs.Qxb6604439a
