import Derived.Test.Qxb6603781aFields
import Derived.ProofKit
import Derived.OpenShut
import Derived.ChangeOld
namespace Go.Proofs.Qxb6603781a
open Go.ChangeShapes Go.WideShapes Go.ChangeAt Go.RowKit

theorem Try.own : ownKnob Try.prog.godebug = none := by kernel_rfl
theorem Try.laidOut : laidOutB Try.prog = true := by kernel_rfl
theorem Try.cells23 : Try.prog.cellsOf 23 = 15 := by kernel_rfl
theorem Try.cells2 : Try.prog.cellsOf 2 = 1 := by kernel_rfl

theorem list15 {α : Type} : ∀ (l : List α), l.length = 15 → ∃ c0 c1 c2 c3 c4 c5 c6 c7 c8 c9 c10 c11 c12 c13 c14 : α, l = [c0, c1, c2, c3, c4, c5, c6, c7, c8, c9, c10, c11, c12, c13, c14]
  | [c0, c1, c2, c3, c4, c5, c6, c7, c8, c9, c10, c11, c12, c13, c14], _ => ⟨c0, c1, c2, c3, c4, c5, c6, c7, c8, c9, c10, c11, c12, c13, c14, rfl⟩

/-- A struct of fifteen int64 fields, by value, opened. -/
theorem open15 {H : Type} {enc : TypeId × Value → H} {W : World} {base : Nat} {v : Value} {d : DataW H} {p : List MemPlace} {sp : Nat → Bool}
    (hv : Value.okWide Try.prog W .any base 23 v) (h : DataW.Trod enc Try.prog W 0 sp true 23 v d p) : ∃ x0 x1 x2 x3 x4 x5 x6 x7 x8 x9 x10 x11 x12 x13 x14 : Int, v = .agg #[.int .i64 x0, .int .i64 x1, .int .i64 x2, .int .i64 x3, .int .i64 x4, .int .i64 x5, .int .i64 x6, .int .i64 x7, .int .i64 x8, .int .i64 x9, .int .i64 x10, .int .i64 x11, .int .i64 x12, .int .i64 x13, .int .i64 x14] := by
  obtain ⟨cs, rfl, hsz⟩ := okWide_struct Try.underlying23 hv
  rw [Try.cells23] at hsz
  obtain ⟨l⟩ := cs
  obtain ⟨c0, c1, c2, c3, c4, c5, c6, c7, c8, c9, c10, c11, c12, c13, c14, rfl⟩ := list15 l (by simpa using hsz)
  obtain ⟨fuel, hf⟩ := h
  obtain ⟨xs, n, _, _, _, hlen, hx⟩ := DataW.trod_struct Try.underlying23 hf
  simp only [Value.cells] at hx
  obtain ⟨x0, k0, _, _⟩ := DataW.trod_int (x := xs[0]'(by rw [hlen]; decide)) Try.underlying2 ((hx 0 _ rfl).trans (List.getElem?_eq_getElem _))
  obtain ⟨x1, k1, _, _⟩ := DataW.trod_int (x := xs[1]'(by rw [hlen]; decide)) Try.underlying2 ((hx 1 _ rfl).trans (List.getElem?_eq_getElem _))
  obtain ⟨x2, k2, _, _⟩ := DataW.trod_int (x := xs[2]'(by rw [hlen]; decide)) Try.underlying2 ((hx 2 _ rfl).trans (List.getElem?_eq_getElem _))
  obtain ⟨x3, k3, _, _⟩ := DataW.trod_int (x := xs[3]'(by rw [hlen]; decide)) Try.underlying2 ((hx 3 _ rfl).trans (List.getElem?_eq_getElem _))
  obtain ⟨x4, k4, _, _⟩ := DataW.trod_int (x := xs[4]'(by rw [hlen]; decide)) Try.underlying2 ((hx 4 _ rfl).trans (List.getElem?_eq_getElem _))
  obtain ⟨x5, k5, _, _⟩ := DataW.trod_int (x := xs[5]'(by rw [hlen]; decide)) Try.underlying2 ((hx 5 _ rfl).trans (List.getElem?_eq_getElem _))
  obtain ⟨x6, k6, _, _⟩ := DataW.trod_int (x := xs[6]'(by rw [hlen]; decide)) Try.underlying2 ((hx 6 _ rfl).trans (List.getElem?_eq_getElem _))
  obtain ⟨x7, k7, _, _⟩ := DataW.trod_int (x := xs[7]'(by rw [hlen]; decide)) Try.underlying2 ((hx 7 _ rfl).trans (List.getElem?_eq_getElem _))
  obtain ⟨x8, k8, _, _⟩ := DataW.trod_int (x := xs[8]'(by rw [hlen]; decide)) Try.underlying2 ((hx 8 _ rfl).trans (List.getElem?_eq_getElem _))
  obtain ⟨x9, k9, _, _⟩ := DataW.trod_int (x := xs[9]'(by rw [hlen]; decide)) Try.underlying2 ((hx 9 _ rfl).trans (List.getElem?_eq_getElem _))
  obtain ⟨x10, k10, _, _⟩ := DataW.trod_int (x := xs[10]'(by rw [hlen]; decide)) Try.underlying2 ((hx 10 _ rfl).trans (List.getElem?_eq_getElem _))
  obtain ⟨x11, k11, _, _⟩ := DataW.trod_int (x := xs[11]'(by rw [hlen]; decide)) Try.underlying2 ((hx 11 _ rfl).trans (List.getElem?_eq_getElem _))
  obtain ⟨x12, k12, _, _⟩ := DataW.trod_int (x := xs[12]'(by rw [hlen]; decide)) Try.underlying2 ((hx 12 _ rfl).trans (List.getElem?_eq_getElem _))
  obtain ⟨x13, k13, _, _⟩ := DataW.trod_int (x := xs[13]'(by rw [hlen]; decide)) Try.underlying2 ((hx 13 _ rfl).trans (List.getElem?_eq_getElem _))
  obtain ⟨x14, k14, _, _⟩ := DataW.trod_int (x := xs[14]'(by rw [hlen]; decide)) Try.underlying2 ((hx 14 _ rfl).trans (List.getElem?_eq_getElem _))
  simp [Try.cells2] at k0 k1 k2 k3 k4 k5 k6 k7 k8 k9 k10 k11 k12 k13 k14
  subst k0 k1 k2 k3 k4 k5 k6 k7 k8 k9 k10 k11 k12 k13 k14
  exact ⟨x0, x1, x2, x3, x4, x5, x6, x7, x8, x9, x10, x11, x12, x13, x14, rfl⟩

theorem cell3a (w : World) (c1 c2 c3 : Array Value) (t1 t2 t3 : TypeId) (i : Nat) : (((w.alloc (.cells c1 t1)).alloc (.cells c2 t2)).alloc (.cells c3 t3)).cell? ⟨w.heap.size, i, none⟩ = c1[i]? := by
  rw [World.cell?_alloc_lt _ _ _ (by simp; omega), World.cell?_alloc_lt _ _ _ (by simp), World.cell?_alloc_new]
theorem cell3b (w : World) (c1 c2 c3 : Array Value) (t1 t2 t3 : TypeId) (i : Nat) : (((w.alloc (.cells c1 t1)).alloc (.cells c2 t2)).alloc (.cells c3 t3)).cell? ⟨w.heap.size + 1, i, none⟩ = c2[i]? := by
  rw [World.cell?_alloc_lt _ _ _ (by simp), World.cell?_alloc_at _ _ _ _ (by simp)]
theorem cell3c (w : World) (c1 c2 c3 : Array Value) (t1 t2 t3 : TypeId) (i : Nat) : (((w.alloc (.cells c1 t1)).alloc (.cells c2 t2)).alloc (.cells c3 t3)).cell? ⟨w.heap.size + 1 + 1, i, none⟩ = c3[i]? := by
  rw [World.cell?_alloc_at _ _ _ _ (by simp)]
theorem froz3c (w : World) (c1 c2 c3 : Array Value) (t1 t2 t3 : TypeId) (i : Nat) : (((w.alloc (.cells c1 t1)).alloc (.cells c2 t2)).alloc (.cells c3 t3)).frozen? ⟨w.heap.size + 1 + 1, i, none⟩ = false := by
  rw [World.frozen?_alloc_at _ _ _ _ (by simp)]
theorem arr15 (x0 x1 x2 x3 x4 x5 x6 x7 x8 x9 x10 x11 x12 x13 x14 : Int) : ∀ j, j < 15 → (#[Value.int .i64 x0, Value.int .i64 x1, Value.int .i64 x2, Value.int .i64 x3, Value.int .i64 x4, Value.int .i64 x5, Value.int .i64 x6, Value.int .i64 x7, Value.int .i64 x8, Value.int .i64 x9, Value.int .i64 x10, Value.int .i64 x11, Value.int .i64 x12, Value.int .i64 x13, Value.int .i64 x14] : Array Value)[j]? = some (.int .i64 ([x0, x1, x2, x3, x4, x5, x6, x7, x8, x9, x10, x11, x12, x13, x14].getD j 0)) := by
  refine upto15 ?_ ?_ ?_ ?_ ?_ ?_ ?_ ?_ ?_ ?_ ?_ ?_ ?_ ?_ ?_ <;> rfl
end Go.Proofs.Qxb6603781a
