import Derived.Test.Qxb6604376aNewPass
namespace Go.Proofs.Qxb6604376a
open Go.RowKit
set_option linter.unusedVariables false

/-- The tracks in the making: the first k are in the row gt. -/
structure TrackInv (gt n : Nat) (sn : Nat → Nat) (tk : Nat → Nat) (k : Nat) (w wr : World) : Prop where
  row : ∀ j, j < k → wr.cell? ⟨gt, j, none⟩ = some (.pointer (some ⟨tk j, 0, none⟩))
  tr : ∀ j, j < k → IsTrack (tk j) (sn j) (sn j) wr
  sp : ∀ j, j < n → (wr.cell? ⟨gt, j, none⟩).isSome = true
  fz : ∀ j, wr.frozen? ⟨gt, j, none⟩ = false
  lo : w.heap.size ≤ gt
  hi : gt < wr.heap.size
  lt : ∀ j, j < k → gt < tk j ∧ tk j < wr.heap.size
  bel : Below w.heap.size w wr

theorem TrackInv.step {gt n : Nat} {sn tk : Nat → Nat} {k : Nat} {w wr w1 : World} (J : TrackInv gt n sn tk k w wr) (hk : k < n) (hB : Below wr.heap.size wr w1) (hS : w1.heap.size = wr.heap.size + 1 + 1) (hT : IsTrack (wr.heap.size + 1) (sn k) (sn k) w1) (o : Obj) :
    TrackInv gt n sn (fun j => if j = k then wr.heap.size + 1 else tk j) (k + 1) w ((w1.setCell ⟨gt, k, none⟩ (.pointer (some ⟨wr.heap.size + 1, 0, none⟩))).alloc o) := by
  have h1 := J.hi
  have h2 := J.lo
  have h3 := J.bel.size
  have zs : (w1.setCell ⟨gt, k, none⟩ (.pointer (some ⟨wr.heap.size + 1, 0, none⟩))).heap.size = wr.heap.size + 1 + 1 := by rw [World.size_setCell, hS]
  have cl : ∀ g i, g < wr.heap.size → w1.cell? ⟨g, i, none⟩ = wr.cell? ⟨g, i, none⟩ := fun g i hg => hB.cell (p := ⟨g, i, none⟩) hg
  have ot : ∀ g i, g < wr.heap.size + 1 + 1 → (g ≠ gt ∨ i ≠ k) → ((w1.setCell ⟨gt, k, none⟩ (.pointer (some ⟨wr.heap.size + 1, 0, none⟩))).alloc o).cell? ⟨g, i, none⟩ = w1.cell? ⟨g, i, none⟩ := fun g i hg h => by
    rw [World.cell?_alloc_lt _ _ _ (by rw [zs]; exact hg), World.cell?_setCell_other _ _ _ _ (by intro e; injection e; omega)]
  refine ⟨fun j hj => ?_, fun j hj => ?_, fun j hj => ?_, fun j => ?_, h2, by simp [hS]; omega, fun j hj => ?_, ?_⟩
  · by_cases e : j = k
    · subst e
      obtain ⟨u, hu⟩ := Option.isSome_iff_exists.1 (J.sp j hk)
      rw [World.cell?_alloc_lt _ _ _ (by rw [zs]; show gt < _; omega), World.cell?_setCell_same _ _ _ ((cl _ _ h1).trans hu), if_pos rfl]
    · rw [ot _ _ (by omega) (by omega), cl _ _ h1, if_neg e]; exact J.row j (by omega)
  · by_cases e : j = k
    · subst e
      rw [if_pos rfl]
      unfold IsTrack
      rw [ot _ _ (by omega) (by omega), ot _ _ (by omega) (by omega)]; exact hT
    · rw [if_neg e]
      have hj' : j < k := by omega
      obtain ⟨l1, l2⟩ := J.lt j hj'
      unfold IsTrack
      rw [ot _ _ (by omega) (by omega), ot _ _ (by omega) (by omega), cl _ _ l2, cl _ _ l2]; exact J.tr j hj'
  · rw [World.cell?_alloc_lt _ _ _ (by rw [zs]; show gt < _; omega)]
    exact some_setCell (by rw [cl _ _ h1]; exact J.sp j hj)
  · have e : ((w1.setCell ⟨gt, k, none⟩ (.pointer (some ⟨wr.heap.size + 1, 0, none⟩))).alloc o).frozen? ⟨gt, j, none⟩ = (w1.setCell ⟨gt, k, none⟩ (.pointer (some ⟨wr.heap.size + 1, 0, none⟩))).frozen? ⟨gt, j, none⟩ := World.frozen?_alloc_past _ _ _ (by rw [zs]; omega)
    rw [e, World.frozen?_setCell, hB.frozen (p := ⟨gt, j, none⟩) h1]; exact J.fz j
  · by_cases e : j = k
    · rw [if_pos e]; exact ⟨by omega, by simp [hS]⟩
    · rw [if_neg e]
      obtain ⟨l1, l2⟩ := J.lt j (by omega)
      exact ⟨l1, by simp [hS]; omega⟩
  · exact ((J.bel.trans (hB.mono h3)).setCell h2 _).alloc (by rw [zs]; omega) _

abbrev seriesB : ByteArray := ⟨#[115, 101, 114, 105, 101, 115]⟩
abbrev repeatB : ByteArray := ⟨#[115, 101, 114, 105, 101, 115, 45, 114, 101, 112, 101, 97, 116]⟩

theorem listIn_one {gt n G cc : Nat} {sn tk : Nat → Nat} {w wr W : World} (J : TrackInv gt n sn tk n w wr) (hK : Below wr.heap.size wr W) (c0 : W.cell? ⟨G, 0, none⟩ = some (.slice (some ⟨gt, 0, none⟩) n cc)) (c1 : W.cell? ⟨G, 1, none⟩ = some (.string repeatB)) (hG : G < W.heap.size) :
    ListIn G gt 1 n (fun i => if i = 0 then 0 else n) (fun _ => cc) (fun _ => repeatB) tk sn W := by
  have hs := hK.size
  have h1 := J.hi
  have cl : ∀ g o, g < wr.heap.size → W.cell? ⟨g, o, none⟩ = wr.cell? ⟨g, o, none⟩ := fun g o hg => hK.cell (p := ⟨g, o, none⟩) hg
  refine ⟨fun i hi => ?_, fun k hk => ?_, fun k hk => ?_, ⟨hG, by omega, fun k hk => by have := (J.lt k hk).2; omega⟩, rfl, by simp, fun i hi => by split <;> split <;> omega, fun i hi => by split <;> omega⟩
  · obtain rfl : i = 0 := by omega
    simpa using ⟨c0, c1⟩
  · rw [cl _ _ h1]; exact J.row k hk
  · have := (J.lt k hk).2
    unfold IsTrack
    rw [cl _ _ this, cl _ _ this]; exact J.tr k hk

theorem listIn_two {gt n lp G c1 c2 : Nat} {sn tk : Nat → Nat} {w wr W : World} (J : TrackInv gt n sn tk n w wr) (hK : Below wr.heap.size wr W) (hl : lp < n)
    (d0 : W.cell? ⟨G, 0, none⟩ = some (.slice (some ⟨gt, 0, none⟩) lp c1)) (d1 : W.cell? ⟨G, 1, none⟩ = some (.string seriesB)) (d2 : W.cell? ⟨G, 2, none⟩ = some (.slice (some ⟨gt, lp, none⟩) (n - lp) c2)) (d3 : W.cell? ⟨G, 3, none⟩ = some (.string repeatB)) (hG : G < W.heap.size) :
    ListIn G gt 2 n (fun i => if i = 0 then 0 else if i = 1 then lp else n) (fun i => if i = 0 then c1 else c2) (fun i => if i = 0 then seriesB else repeatB) tk sn W := by
  have hs := hK.size
  have h1 := J.hi
  have cl : ∀ g o, g < wr.heap.size → W.cell? ⟨g, o, none⟩ = wr.cell? ⟨g, o, none⟩ := fun g o hg => hK.cell (p := ⟨g, o, none⟩) hg
  refine ⟨fun i hi => ?_, fun k hk => ?_, fun k hk => ?_, ⟨hG, by omega, fun k hk => by have := (J.lt k hk).2; omega⟩, rfl, by simp, fun i hi => ?_, fun i hi => ?_⟩
  · match i, hi with
    | 0, _ => simpa using ⟨d0, d1⟩
    | 1, _ => simpa using ⟨d2, d3⟩
  · rw [cl _ _ h1]; exact J.row k hk
  · have := (J.lt k hk).2
    unfold IsTrack
    rw [cl _ _ this, cl _ _ this]; exact J.tr k hk
  · match i, hi with
    | 0, _ => simp
    | 1, _ => simp; omega
  · match i, hi with
    | 0, _ => simp
    | 1, _ => simp; omega
    | 2, _ => simp

theorem PassInv.toPass {gp gi gf gs n : Nat} {tk : Nat → Nat} {s : Nat → Int} {lp : Nat} {x4 x5 : Int} {w wr w' : World} (P : PassInv gp gi gf gs n tk s n (lp : Int) n n x4 x5 w wr) (h : Below wr.heap.size wr w') : IsPass gp n lp (psum s) x4 (some ⟨gi, 0, none⟩) n gf n w' := by
  have Q := P.keep h
  exact ⟨Q.c0, Q.c1, Q.c3, Q.c4, fun k hk => Q.fi k hk⟩

theorem made57_0 : (made57 2)[0]? = some (.slice none 0 0) := by kernel_rfl
theorem made57_1 : (made57 2)[1]? = some (.string ByteArray.empty) := by kernel_rfl
theorem made57_2 : (made57 2)[2]? = some (.slice none 0 0) := by kernel_rfl
theorem made57_3 : (made57 2)[3]? = some (.string ByteArray.empty) := by kernel_rfl

/-- Two cells written side by side, then a new block. -/
theorem set2 {w : World} {G a : Nat} {u0 u1 v0 v1 : Value} (hG : G < w.heap.size) (h0 : w.cell? ⟨G, a, none⟩ = some u0) (h1 : w.cell? ⟨G, a + 1, none⟩ = some u1) (o : Obj) :
    (((w.setCell ⟨G, a, none⟩ v0).setCell ⟨G, a + 1, none⟩ v1).alloc o).cell? ⟨G, a, none⟩ = some v0 ∧ (((w.setCell ⟨G, a, none⟩ v0).setCell ⟨G, a + 1, none⟩ v1).alloc o).cell? ⟨G, a + 1, none⟩ = some v1 := by
  have hs : G < ((w.setCell ⟨G, a, none⟩ v0).setCell ⟨G, a + 1, none⟩ v1).heap.size := by simpa using hG
  constructor
  · rw [World.cell?_alloc_lt _ _ _ hs, World.cell?_setCell_other _ _ _ _ (by intro e; injection e; omega), World.cell?_setCell_same _ _ _ h0]
  · rw [World.cell?_alloc_lt _ _ _ hs, World.cell?_setCell_same _ _ _ ((World.cell?_setCell_other _ _ _ _ (by intro e; injection e; omega)).trans h1)]
theorem set2_other {w : World} {G a g i : Nat} {v0 v1 : Value} (hg : g < w.heap.size) (h : g ≠ G ∨ (i ≠ a ∧ i ≠ a + 1)) (o : Obj) :
    (((w.setCell ⟨G, a, none⟩ v0).setCell ⟨G, a + 1, none⟩ v1).alloc o).cell? ⟨g, i, none⟩ = w.cell? ⟨g, i, none⟩ := by
  have hs : g < ((w.setCell ⟨G, a, none⟩ v0).setCell ⟨G, a + 1, none⟩ v1).heap.size := by simpa using hg
  rw [World.cell?_alloc_lt _ _ _ hs, World.cell?_setCell_other _ _ _ _ (by intro e; injection e; omega), World.cell?_setCell_other _ _ _ _ (by intro e; injection e; omega)]
theorem set2_below {w wr : World} {G a : Nat} {v0 v1 : Value} (h : Below wr.heap.size wr w) (hG : wr.heap.size ≤ G) (o : Obj) : Below wr.heap.size wr (((w.setCell ⟨G, a, none⟩ v0).setCell ⟨G, a + 1, none⟩ v1).alloc o) :=
  ((h.setCell hG _).setCell hG _).alloc (by have := h.size; simpa using this) _

/-- The new list of parts, as it lies behind a call that makes memory. -/
structure NewList (G : Nat) (w : World) : Prop where
  c0 : w.cell? ⟨G, 0, none⟩ = some (.slice none 0 0)
  c1 : w.cell? ⟨G, 1, none⟩ = some (.string ByteArray.empty)
  c2 : w.cell? ⟨G, 2, none⟩ = some (.slice none 0 0)
  c3 : w.cell? ⟨G, 3, none⟩ = some (.string ByteArray.empty)
  f : ∀ j, w.frozen? ⟨G, j, none⟩ = false
  lt : G < w.heap.size
/-- The list of parts with its first part in. -/
structure HalfList (G gt lp n : Nat) (wr w : World) : Prop where
  c0 : w.cell? ⟨G, 0, none⟩ = some (.slice (some ⟨gt, 0, none⟩) lp n)
  c1 : w.cell? ⟨G, 1, none⟩ = some (.string seriesB)
  c2 : w.cell? ⟨G, 2, none⟩ = some (.slice none 0 0)
  c3 : w.cell? ⟨G, 3, none⟩ = some (.string ByteArray.empty)
  f : ∀ j, w.frozen? ⟨G, j, none⟩ = false
  lt : G < w.heap.size
  bel : Below wr.heap.size wr w
theorem HalfList.start {gt lp n G : Nat} {wr w1 : World} (N : NewList G w1) (h : Below wr.heap.size wr w1) (hG : wr.heap.size ≤ G) (o : Obj) (ho : ∃ c t, o = .cells c t) :
    HalfList G gt lp n wr (((w1.setCell ⟨G, 0, none⟩ (.slice (some ⟨gt, 0, none⟩) lp n)).setCell ⟨G, 0 + 1, none⟩ (.string seriesB)).alloc o) := by
  obtain ⟨c, t, rfl⟩ := ho
  refine ⟨(set2 N.lt N.c0 N.c1 _).1, (set2 N.lt N.c0 N.c1 _).2, ?_, ?_, fun j => ?_, by have := N.lt; simp; omega, set2_below h hG _⟩
  · rw [set2_other N.lt (by omega)]; exact N.c2
  · rw [set2_other N.lt (by omega)]; exact N.c3
  · rw [frozen?_alloc_cells, World.frozen?_setCell, World.frozen?_setCell]; exact N.f j
theorem HalfList.keep {gt lp n G : Nat} {wr w w' : World} (N : HalfList G gt lp n wr w) (h : Below w.heap.size w w') : HalfList G gt lp n wr w' := by
  have hl := N.lt
  have hs := h.size
  refine ⟨?_, ?_, ?_, ?_, fun j => ?_, by omega, N.bel.trans (h.mono N.bel.size)⟩
  · rw [h.cell (p := ⟨G, 0, none⟩) hl]; exact N.c0
  · rw [h.cell (p := ⟨G, 1, none⟩) hl]; exact N.c1
  · rw [h.cell (p := ⟨G, 2, none⟩) hl]; exact N.c2
  · rw [h.cell (p := ⟨G, 3, none⟩) hl]; exact N.c3
  · rw [h.frozen (p := ⟨G, j, none⟩) hl]; exact N.f j
theorem NewList.start {wr w1 : World} (h : Below (wr.alloc (Obj.cells (made57 2) 57)).heap.size (wr.alloc (Obj.cells (made57 2) 57)) w1) : NewList wr.heap.size w1 := by
  have hs := h.size
  have hlt : wr.heap.size < (wr.alloc (Obj.cells (made57 2) 57)).heap.size := by simp
  refine ⟨?_, ?_, ?_, ?_, fun j => ?_, by omega⟩
  · rw [h.cell (p := ⟨wr.heap.size, 0, none⟩) hlt, World.cell?_alloc_new]; exact made57_0
  · rw [h.cell (p := ⟨wr.heap.size, 1, none⟩) hlt, World.cell?_alloc_new]; exact made57_1
  · rw [h.cell (p := ⟨wr.heap.size, 2, none⟩) hlt, World.cell?_alloc_new]; exact made57_2
  · rw [h.cell (p := ⟨wr.heap.size, 3, none⟩) hlt, World.cell?_alloc_new]; exact made57_3
  · rw [h.frozen (p := ⟨wr.heap.size, j, none⟩) hlt, World.frozen?_alloc_at _ _ _ _ rfl]

set_option maxRecDepth 100000 in
set_option maxHeartbeats 2000000 in
theorem build_any (b n c : Nat) (sn : Nat → Nat) (lp : Nat) (first items : Int) (w : World) (hF : Fit (fun k => (sn k : Int)) n) (hl : lp < n) (hb : b < w.heap.size) (hc : Row b 0 n (fun k => (sn k : Int)) w) :
    Calls Try.prog 18 #[.slice (some ⟨b, 0, none⟩) n c, .int .i64 lp, .int .i64 first, .int .i64 items] w fun e w' =>
      ∃ ga gp gi gf cf : Nat, e = .returned (.pointer (some ⟨ga, 0, none⟩)) ∧ IsAiring ga gp first items w' ∧ IsPass gp n lp (psum fun k => (sn k : Int)) (psum (fun k => (sn k : Int)) n) (some ⟨gi, 0, none⟩) n gf cf w' ∧ Below w.heap.size w w' := by
  have hn := hF.le
  have h1 := hF.pos
  have HF : Hid (Fit (fun k => (sn k : Int)) n) := hF
  have HC : Hid (Row b 0 n (fun k => (sn k : Int)) w) := hc
  clear hF hc
  have mk54 : ∀ w, (Instr.makeSlice 54 (.int .i64 0) (.int .i64 n)).run Try.prog w = .ok (.slice (some ⟨w.heap.size, 0, none⟩) 0 n) (w.alloc (.cells (made61 n) 61)) :=
    make_of 54 61 _ _ _ Try.underlying54 Try.info61 0 n (Nat.zero_le _) (by omega) (by omega)
  have mk43 : ∀ w, (Instr.makeSlice 43 (.int .i64 0) (.int .i64 2)).run Try.prog w = .ok (.slice (some ⟨w.heap.size, 0, none⟩) 0 2) (w.alloc (.cells (made57 2) 57)) :=
    make_of 43 57 _ _ _ Try.underlying43 Try.info57 0 2 (Nat.zero_le _) (by omega) (by omega)
  go_enter Try.func18, Try.ntmps18
  go_wp2
  clear mk54
  have I : TrackInv w.heap.size n sn (fun _ => 0) 0 w (w.alloc (.cells (made61 n) 61)) := by
    refine ⟨fun j hj => by omega, fun j hj => by omega, fun j hj => ?_, fun j => ?_, Nat.le_refl _, by simp, fun j hj => by omega, (Below.refl _ _).alloc (Nat.le_refl _) _⟩
    · rw [World.cell?_alloc_new]; exact made61_some hj
    · rw [World.frozen?_alloc_at _ _ _ _ rfl]
  go_loopw [9, 19] (fun t j wr => ∃ (k : Nat) (tk : Nat → Nat), k ≤ n ∧ j = .int .i64 k ∧ t = .slice (some ⟨w.heap.size, 0, none⟩) k n ∧ TrackInv w.heap.size n sn tk k w wr) (fun _ j _ => n - (intOf j).toNat)
  case atStart => exact ⟨0, _, by omega, rfl, rfl, I⟩
  case round =>
    obtain ⟨k, tk, hk, rfl, rfl, J⟩ := hrel
    have HJ : Hid (TrackInv w.heap.size n sn tk k w wr) := J
    clear I
    by_cases hlt : k < n
    · have e1 : wr.cell? ⟨b, k, none⟩ = some (.int .i64 (sn k : Int)) := by
        rw [J.bel.cell (p := ⟨b, k, none⟩) hb]
        have := HC.out k hlt
        rwa [Nat.zero_add] at this
      have hs := (HF.out.each k hlt)
      have hs' : sn k ≤ 65536 := by omega
      clear J hs
      go_wp2_with fail
      refine (newTrack_any (sn k) hs' _).mono ?_
      rintro e w1 ⟨rfl, T1, B1, S1⟩
      have z1 := HJ.out.hi
      obtain ⟨v1, e4⟩ := Option.isSome_iff_exists.1 (HJ.out.sp k hlt)
      have e5 : w1.cell? ⟨w.heap.size, k, none⟩ = some v1 := (B1.cell (p := ⟨w.heap.size, k, none⟩) z1).trans e4
      have e6 : w1.frozen? ⟨w.heap.size, k, none⟩ = false := (B1.frozen (p := ⟨w.heap.size, k, none⟩) z1).trans (HJ.out.fz k)
      have z2 : w.heap.size < w1.heap.size := by omega
      have HT : Hid (IsTrack (wr.heap.size + 1) (sn k) (sn k) w1) := T1
      have HB : Hid (Below wr.heap.size wr w1) := B1
      have HS : Hid (w1.heap.size = wr.heap.size + 1 + 1) := S1
      clear T1 B1 S1 e1 e4
      go_wp2
      go_roundw
      case rel => exact ⟨k + 1, _, by omega, by go_num, rfl, HJ.out.step hlt HB.out HS.out HT.out _⟩
      case measure => simp [intOf]; omega
    · obtain rfl : n = k := by omega
      clear J
      have z0 := HJ.out.hi
      have hl' : (lp : Int) < (n : Int) := by omega
      by_cases hz : lp = 0
      · subst hz
        go_wp2_with fail
        refine (newPart_any _ _ _ _ _).mono ?_
        rintro e w1 ⟨rfl, B1, S1⟩
        have NL := NewList.start B1
        have n0 := NL.c0
        have n1 := NL.c1
        have f0 := NL.f 0
        have f1 := NL.f 1
        have zl := NL.lt
        have bel1 : Below wr.heap.size wr w1 := ((Below.refl _ _).alloc (Nat.le_refl _) _).trans (B1.mono (by simp))
        have HB1 : Hid (Below wr.heap.size wr w1) := bel1
        clear NL B1 S1 bel1
        go_wp2_with fail
        refine (zzNewPass_any wr.heap.size 2 w.heap.size 1 n (fun i => if i = 0 then 0 else n) (fun _ => n) (fun _ => repeatB) tk sn _ ?hL (by omega) (by omega) hn HF.out ?hr ?hs).mono ?_
        case hL => exact listIn_one HJ.out (set2_below HB1.out (Nat.le_refl _) _) (set2 zl n0 n1 _).1 (set2 zl n0 n1 _).2 (by simp; omega)
        case hr => intro i hi; decide +kernel
        case hs => intro i hi; obtain rfl : i = 0 := by omega
                   decide +kernel
        rintro e w3 ⟨gp, gi, gf, gs, rfl, P3⟩
        have HP3 : Hid (PassInv gp gi gf gs n tk (fun k => (sn k : Int)) n ((0 : Nat) : Int) n n (psum (fun k => (sn k : Int)) n) (psum (fun k => (sn k : Int)) n) _ w3) := P3
        have HB3 : Hid (Below w.heap.size w w3) := (HJ.out.bel.trans ((set2_below HB1.out (Nat.le_refl _) _).mono (by omega))).trans (P3.bel.mono (by simp; omega))
        clear P3 n0 n1 f0 f1
        go_wp2_with fail
        refine (newAiring_any gp first items _).mono ?_
        rintro e w4 ⟨rfl, A4, B4, S4⟩
        have HA : Hid (IsAiring w3.heap.size gp first items w4) := A4
        have HB4 : Hid (Below w3.heap.size w3 w4) := B4
        clear A4 B4 S4
        go_wp2
        go_ret
        exact ⟨_, gp, gi, gf, n, rfl, HA.out, HP3.out.toPass HB4.out, HB3.out.trans (HB4.out.mono HB3.out.size)⟩
      · have hp : (0 : Int) < (lp : Int) := by omega
        go_wp2_with fail
        refine (newPart_any _ _ _ _ _).mono ?_
        rintro e w1 ⟨rfl, B1, S1⟩
        have NL := NewList.start B1
        have HNL : Hid (NewList wr.heap.size w1) := NL
        have n0 := NL.c0
        have n1 := NL.c1
        have f0 := NL.f 0
        have f1 := NL.f 1
        have zl := NL.lt
        have bel1 : Below wr.heap.size wr w1 := ((Below.refl _ _).alloc (Nat.le_refl _) _).trans (B1.mono (by simp))
        have HB1 : Hid (Below wr.heap.size wr w1) := bel1
        clear NL B1 S1 bel1
        have hsub : ¬ n - lp = 0 := by omega
        go_wp2_with fail
        have H2 := HalfList.start (gt := w.heap.size) (lp := lp) (n := n) HNL.out HB1.out (Nat.le_refl _) (Obj.cells #[Value.slice (some ⟨w.heap.size, 0, none⟩) lp n, Value.string ⟨#[115, 101, 114, 105, 101, 115]⟩] 57) ⟨_, _, rfl⟩
        refine (newPart_any _ _ _ _ _).mono ?_
        rintro e w2 ⟨rfl, B2, S2⟩
        have H3 := H2.keep B2
        have HH : Hid (HalfList wr.heap.size w.heap.size lp n wr w2) := H3
        have m2 := H3.c2
        have m3 := H3.c3
        have g2 := H3.f 2
        have g3 := H3.f 3
        have zl2 := H3.lt
        clear H2 H3 B2 S2 n0 n1 f0 f1 zl HB1 HNL
        go_wp2_with fail
        refine (zzNewPass_any wr.heap.size 2 w.heap.size 2 n (fun i => if i = 0 then 0 else if i = 1 then lp else n) (fun i => if i = 0 then n else n - lp) (fun i => if i = 0 then seriesB else repeatB) tk sn _ ?hL (by omega) (by omega) hn HF.out ?hr ?hs).mono ?_
        case hL =>
          refine listIn_two HJ.out (set2_below HH.out.bel (Nat.le_refl _) _) hl ?_ ?_ (set2 (a := 2) zl2 m2 m3 _).1 (set2 (a := 2) zl2 m2 m3 _).2 (by simp; omega)
          · rw [set2_other zl2 (by omega)]; exact HH.out.c0
          · rw [set2_other zl2 (by omega)]; exact HH.out.c1
        case hr =>
          intro i hi
          match i, hi with
          | 0, _ => decide +kernel
          | 1, _ => decide +kernel
        case hs =>
          intro i hi
          match i, hi with
          | 0, _ => decide +kernel
          | 1, _ => decide +kernel
        rintro e w3 ⟨gp, gi, gf, gs, rfl, P3⟩
        have HP3 : Hid (PassInv gp gi gf gs n tk (fun k => (sn k : Int)) n ((lp : Nat) : Int) n n (psum (fun k => (sn k : Int)) n) (psum (fun k => (sn k : Int)) n) _ w3) := P3
        have HB3 : Hid (Below w.heap.size w w3) := (HJ.out.bel.trans ((set2_below HH.out.bel (Nat.le_refl _) _).mono (by omega))).trans (P3.bel.mono (by simp; omega))
        clear P3 m2 m3 g2 g3
        go_wp2_with fail
        refine (newAiring_any gp first items _).mono ?_
        rintro e w4 ⟨rfl, A4, B4, S4⟩
        have HA : Hid (IsAiring w3.heap.size gp first items w4) := A4
        have HB4 : Hid (Below w3.heap.size w3 w4) := B4
        clear A4 B4 S4
        go_wp2
        go_ret
        exact ⟨_, gp, gi, gf, n, rfl, HA.out, HP3.out.toPass HB4.out, HB3.out.trans (HB4.out.mono HB3.out.size)⟩
end Go.Proofs.Qxb6604376a
