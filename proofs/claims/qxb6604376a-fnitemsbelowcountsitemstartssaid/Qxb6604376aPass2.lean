import Derived.Test.Qxb6604376aPass
import Derived.Laws.IdiomCopy
namespace Go.Proofs.Qxb6604376a
open Go.RowKit
set_option linter.unusedVariables false

theorem size_setCells (b : Nat) : ∀ (vs : List Value) (o : Nat) (w : World), (w.setCells b o vs).heap.size = w.heap.size
  | [], _, _ => rfl
  | v :: r, o, w => by rw [World.setCells, size_setCells b r, World.size_setCell]
theorem below_setCells {B : Nat} (b : Nat) (hb : B ≤ b) {a : World} : ∀ (vs : List Value) (o : Nat) (w : World), Below B a w → Below B a (w.setCells b o vs)
  | [], _, _, h => h
  | v :: r, o, w, h => below_setCells b hb r (o + 1) _ (h.setCell hb v)
theorem some_setCells (b : Nat) {x : Addr} : ∀ (vs : List Value) (o : Nat) (w : World), (w.cell? x).isSome = true → ((w.setCells b o vs).cell? x).isSome = true
  | [], _, _, h => h
  | v :: r, o, w, h => some_setCells b r (o + 1) _ (some_setCell h)

section
variable {gp gi gf gs n : Nat} {tk : Nat → Nat} {s : Nat → Int} {ni : Nat} {lpv : Int} {k1 k2 : Nat} {x4 x5 : Int} {w wr : World}

/-- The pointers to tracks ni .. ni + m - 1. -/
def ptrs (tk : Nat → Nat) (ni m : Nat) : List Value := (List.range m).map fun j => Value.pointer (some ⟨tk (ni + j), 0, none⟩)
theorem ptrs_length (tk : Nat → Nat) (ni m : Nat) : (ptrs tk ni m).length = m := by simp [ptrs]
theorem ptrs_at {tk : Nat → Nat} {ni m j : Nat} (h : j < (ptrs tk ni m).length) : (ptrs tk ni m)[j] = Value.pointer (some ⟨tk (ni + j), 0, none⟩) := by simp [ptrs]
theorem ptrs_get {tk : Nat → Nat} {ni m j : Nat} {u : Value} (h : (ptrs tk ni m)[j]? = some u) : j < m ∧ u = Value.pointer (some ⟨tk (ni + j), 0, none⟩) := by
  have hj := (List.getElem?_eq_some_iff.1 h).1
  rw [List.getElem?_eq_getElem hj, ptrs_at hj] at h
  exact ⟨by rwa [ptrs_length] at hj, (Option.some.inj h).symm⟩
theorem ptrs_one {tk : Nat → Nat} {ni m : Nat} : ∀ u ∈ ptrs tk ni m, u.oneCell' = true := by
  intro u hu
  simp only [ptrs, List.mem_map] at hu
  obtain ⟨j, _, rfl⟩ := hu
  rfl

/-- p.items = append(p.items, tracks ni .. ni + m - 1 ...) -/
theorem PassInv.itemsAdd (J : PassInv gp gi gf gs n tk s ni lpv k1 k2 x4 x5 w wr) (m : Nat) (hm : ni + m ≤ n) :
    PassInv gp gi gf gs n tk s (ni + m) lpv k1 k2 x4 x5 w ((wr.setCells gi ni (ptrs tk ni m)).setCell ⟨gp, 0, none⟩ (.slice (some ⟨gi, 0, none⟩) (ni + m) n)) := by
  obtain ⟨a1, a2, a3, a4, a5, a6⟩ := J.ap
  have o1 : ∀ g o, g ≠ gi → (wr.setCells gi ni (ptrs tk ni m)).cell? ⟨g, o, none⟩ = wr.cell? ⟨g, o, none⟩ := fun g o h => World.cell?_setCells_out _ _ _ _ _ (fun e _ => absurd e h)
  have ot : ∀ g o, (g ≠ gp ∨ o ≠ 0) → g ≠ gi → ((wr.setCells gi ni (ptrs tk ni m)).setCell ⟨gp, 0, none⟩ (.slice (some ⟨gi, 0, none⟩) (ni + m) n)).cell? ⟨g, o, none⟩ = wr.cell? ⟨g, o, none⟩ := fun g o h h' => by
    rw [World.cell?_setCell_other _ _ _ _ (by intro e; injection e; omega), o1 _ _ h']
  refine ⟨?_, ?_, ?_, ?_, ?_, ?_, fun j hj => ?_, fun j hj => ?_, fun j hj => some_setCell (some_setCells _ _ _ _ (J.si j hj)), fun j hj => some_setCell (some_setCells _ _ _ _ (J.sf j hj)), fun j hj => some_setCell (some_setCells _ _ _ _ (J.ss j hj)), fun g hg j => ?_, J.ap, J.lo, by simpa [size_setCells] using J.hi,
    (below_setCells gi J.lo.2.1 _ _ _ J.bel).setCell J.lo.1 _⟩
  · exact World.cell?_setCell_same _ _ _ ((o1 _ _ a1).trans J.c0)
  · rw [ot _ _ (by omega) (by omega)]; exact J.c1
  · rw [ot _ _ (by omega) (by omega)]; exact J.c2
  · rw [ot _ _ (by omega) (by omega)]; exact J.c3
  · rw [ot _ _ (by omega) (by omega)]; exact J.c4
  · rw [ot _ _ (by omega) (by omega)]; exact J.c5
  · rw [World.cell?_setCell_other _ _ _ _ (by intro e; injection e; omega)]
    by_cases hjn : j < ni
    · rw [World.cell?_setCells_out _ _ _ _ _ (fun _ _ => Or.inl hjn)]; exact J.it j hjn
    · obtain ⟨d, rfl⟩ : ∃ d, j = ni + d := ⟨j - ni, by omega⟩
      have hd : d < (ptrs tk ni m).length := by rw [ptrs_length]; omega
      rw [World.cell?_setCells_in gi _ _ _ (fun i hi => J.si _ (by rw [ptrs_length] at hi; omega)) d hd, ptrs_at hd]
  · rw [ot _ _ (by omega) (by omega)]; exact J.fi j hj
  · rw [World.frozen?_setCell, World.frozen?_setCells]; exact J.fz g hg j
end

theorem heap4 (w : World) (a b c d : Obj) : ((((w.alloc a).alloc b).alloc c).alloc d).drew.heap[w.heap.size]? = some a ∧ ((((w.alloc a).alloc b).alloc c).alloc d).drew.heap[w.heap.size + 1]? = some b ∧
    ((((w.alloc a).alloc b).alloc c).alloc d).drew.heap[w.heap.size + 1 + 1]? = some c ∧ ((((w.alloc a).alloc b).alloc c).alloc d).drew.heap[w.heap.size + 1 + 1 + 1]? = some d := by
  have e : ((((w.alloc a).alloc b).alloc c).alloc d).drew.heap = (((w.heap.push a).push b).push c).push d := rfl
  rw [e]
  simp only [Array.getElem?_push, Array.size_push]
  refine ⟨?_, ?_, ?_, ?_⟩
  · rw [if_neg (by omega), if_neg (by omega), if_neg (by omega), if_pos trivial]
  · rw [if_neg (by omega), if_neg (by omega), if_pos trivial]
  · rw [if_neg (by omega), if_pos trivial]
  · rw [if_pos trivial]

theorem cell_of_heap {w : World} {g t : Nat} {c : Array Value} (h : w.heap[g]? = some (.cells c t)) (o : Nat) : w.cell? ⟨g, o, none⟩ = c[o]? := by simp [World.cell?, h]
theorem frozen_of_heap {w : World} {g t : Nat} {c : Array Value} (h : w.heap[g]? = some (.cells c t)) (o : Nat) : w.frozen? ⟨g, o, none⟩ = false := by simp [World.frozen?, h]

/-- The pass as newPass makes it: four new blocks, the three rows in whatever order. -/
theorem PassInv.start {gp gi gf gs n : Nat} {tk : Nat → Nat} {s : Nat → Int} {w wr wx : World} (hb : Below w.heap.size w wr) (hx : Below wr.heap.size wr wx) (hsz : wx.heap.size = wr.heap.size + 1 + 1 + 1 + 1)
    (oi : wx.heap[gi]? = some (.cells (made61 n) 61)) (of : wx.heap[gf]? = some (.cells (made2 n) 2)) (os : wx.heap[gs]? = some (.cells (made2 n) 77))
    (op : wx.heap[gp]? = some (.cells #[.slice (some ⟨gi, 0, none⟩) 0 n, .slice (some ⟨gf, 0, none⟩) 0 n, .slice (some ⟨gs, 0, none⟩) 0 n, .int .i64 0, .int .i64 0, .int .i64 0] 96))
    (hap : gp ≠ gi ∧ gp ≠ gf ∧ gp ≠ gs ∧ gi ≠ gf ∧ gi ≠ gs ∧ gf ≠ gs) (hlo : wr.heap.size ≤ gp ∧ wr.heap.size ≤ gi ∧ wr.heap.size ≤ gf ∧ wr.heap.size ≤ gs) : PassInv gp gi gf gs n tk s 0 0 0 0 0 0 w wx := by
  have hs := hb.size
  have lt : ∀ {g : Nat} {o : Obj}, wx.heap[g]? = some o → g < wx.heap.size := fun h => (Array.getElem?_eq_some_iff.1 h).1
  refine ⟨cell_of_heap op 0, cell_of_heap op 1, cell_of_heap op 2, cell_of_heap op 3, cell_of_heap op 4, cell_of_heap op 5, fun j hj => by omega, fun j hj => by omega, fun j hj => ?_, fun j hj => ?_, fun j hj => ?_, fun g hg j => ?_, hap, by omega, ⟨lt op, lt oi, lt of, lt os⟩, hb.trans (hx.mono hs)⟩
  · rw [cell_of_heap oi]; exact made61_some hj
  · rw [cell_of_heap of]; exact made2_some hj
  · rw [cell_of_heap os]; exact made2_some hj
  · rcases hg with rfl | rfl | rfl | rfl
    · exact frozen_of_heap op j
    · exact frozen_of_heap oi j
    · exact frozen_of_heap of j
    · exact frozen_of_heap os j
theorem below4 (w : World) (a b c d : Obj) : Below w.heap.size w ((((w.alloc a).alloc b).alloc c).alloc d).drew :=
  (((((Below.refl _ _).alloc (Nat.le_refl _) _).alloc (by simp) _).alloc (by simp; omega) _).alloc (by simp; omega) _).drew

/-- What the walk of newPass is told of the list of parts: it has m parts, the i-th is tracks st i .. st (i + 1) - 1 of the row gt, mode md i; track k lies in block tk k and has s k segments. -/
structure ListIn (gl gt m n : Nat) (st : Nat → Nat) (ci : Nat → Nat) (md : Nat → ByteArray) (tk : Nat → Nat) (sn : Nat → Nat) (w : World) : Prop where
  part : ∀ i, i < m → w.cell? ⟨gl, i * 2, none⟩ = some (.slice (some ⟨gt, st i, none⟩) (st (i + 1) - st i) (ci i)) ∧ w.cell? ⟨gl, i * 2 + 1, none⟩ = some (.string (md i))
  row : ∀ k, k < n → w.cell? ⟨gt, k, none⟩ = some (.pointer (some ⟨tk k, 0, none⟩))
  tr : ∀ k, k < n → IsTrack (tk k) (sn k) (sn k) w
  lt : gl < w.heap.size ∧ gt < w.heap.size ∧ ∀ k, k < n → tk k < w.heap.size
  z : st 0 = 0
  top : st m = n
  mono : ∀ i, i < m → st i ≤ st (i + 1)
  le : ∀ i, i ≤ m → st i ≤ n

theorem ListIn.below {gl gt m n : Nat} {st ci : Nat → Nat} {md : Nat → ByteArray} {tk sn : Nat → Nat} {w w' : World} (L : ListIn gl gt m n st ci md tk sn w) (h : Below w.heap.size w w') : ListIn gl gt m n st ci md tk sn w' := by
  obtain ⟨l1, l2, l3⟩ := L.lt
  have hs := h.size
  have cl : ∀ g o, g < w.heap.size → w'.cell? ⟨g, o, none⟩ = w.cell? ⟨g, o, none⟩ := fun g o hg => h.cell (p := ⟨g, o, none⟩) hg
  refine ⟨fun i hi => ?_, fun k hk => ?_, fun k hk => ?_, ⟨by omega, by omega, fun k hk => by have := l3 k hk; omega⟩, L.z, L.top, L.mono, L.le⟩
  · rw [cl _ _ l1, cl _ _ l1]; exact L.part i hi
  · rw [cl _ _ l2]; exact L.row k hk
  · unfold IsTrack
    rw [cl _ _ (l3 k hk), cl _ _ (l3 k hk)]; exact L.tr k hk
theorem size61 : ∃ i, Try.prog.info? 61 = some i ∧ i.size = 1 := by
  have h := Try.info61
  cases hi : Try.prog.info? 61 with
  | none => rw [hi] at h; cases h
  | some i =>
    rw [hi] at h
    simp only [Option.map_some, Option.some.injEq, Prod.mk.injEq] at h
    exact ⟨i, rfl, h.2.1⟩
/-- What the append of a part's tracks asks of the world. -/
theorem ListIn.src {gl gt m n : Nat} {st ci : Nat → Nat} {md : Nat → ByteArray} {tk sn : Nat → Nat} {w : World} (L : ListIn gl gt m n st ci md tk sn w) {i : Nat} (hi : i < m) :
    ∀ (j : Nat) (u : Value), (ptrs tk (st i) (st (i + 1) - st i))[j]? = some u → w.cell? ((⟨gt, st i, none⟩ : Addr).add j) = some u := by
  intro j u h
  obtain ⟨hj, rfl⟩ := ptrs_get h
  have g1 := L.mono i hi
  have g2 := L.le (i + 1) (by omega)
  rw [Addr.add_lit]; exact L.row (st i + j) (by omega)
theorem PassInv.room {gp gi gf gs n : Nat} {tk : Nat → Nat} {s : Nat → Int} {ni : Nat} {lpv : Int} {k1 k2 : Nat} {x4 x5 : Int} {w wr : World} (J : PassInv gp gi gf gs n tk s ni lpv k1 k2 x4 x5 w wr) (m : Nat) (hm : ni + m ≤ n) :
    ∀ j, j < (ptrs tk ni m).length → (wr.cell? ⟨gi, 0 + ni * 1 + j, none⟩).isSome = true ∧ wr.frozen? ⟨gi, 0 + ni * 1 + j, none⟩ = false := by
  intro j hj
  rw [ptrs_length] at hj
  exact ⟨J.si _ (by omega), J.fz gi (by simp) _⟩
end Go.Proofs.Qxb6604376a
