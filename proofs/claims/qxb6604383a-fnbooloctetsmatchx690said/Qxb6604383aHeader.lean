import Derived.Test.Qxb6604383aBase
import Derived.RegionTactic
import Derived.Deep.RegionLawGrows
import Derived.Deep.RegionHeldLaw
namespace Go.Proofs.Qxb6604383a
open Go.RowKit
set_option linter.unusedVariables false

theorem one_at {w : World} {g : Nat} {x : Value} (h : w.cell? ⟨g, 0, none⟩ = some x) : ∀ (j : Nat) (u : Value), [x][j]? = some u → w.cell? ((⟨g, 0, none⟩ : Addr).add j) = some u := by
  intro j u hj
  match j, hj with
  | 0, hj => simp at hj; subst hj; simpa [Addr.add] using h
theorem one_cell {k : IntKind} {n : Int} : ∀ u ∈ [Value.int k n], u.oneCell' = true := by
  intro u hu; simp at hu; subst hu; rfl
theorem Own.first {base : Nat} {v : Value} {x : Value} {w W w1 : World} (h1 : w1.ownsRow base 5 1 v (0 + 1) ([] ++ [x])) (h2 : W.grownBy w1 (Value.slice none 0 0).ownBlock) (hb : Below base w W) (hB : base ≤ W.heap.size) : Own base v [x] w w1 :=
  ⟨h1, hb.grown h2 hB (fun k hk => by cases hk)⟩

theorem ownsRow_base {w : World} {b b' : Nat} {v : Value} {n : Nat} {xs : List Value} (h : w.ownsRow b 5 1 v n xs) (hb : b' ≤ b) : w.ownsRow b' 5 1 v n xs := by
  obtain ⟨a, c⟩ := h
  refine ⟨a, ?_⟩
  rcases c with c | ⟨g, cap, cur, e1, e2, e3⟩
  · exact Or.inl c
  · exact Or.inr ⟨g, cap, cur, e1, by omega, e3⟩
theorem grown_first {C N : Int} {v : Value} {x : Value} {w w1 : World} {cs : Array Value} (h1 : w1.ownsRow ((w.alloc (Obj.cells #[.int .u8 C, .int .u32 N] 25)).alloc (Obj.cells cs 5)).drew.heap.size 5 1 v (0 + 1) ([] ++ [x]))
    (h2 : ((w.alloc (Obj.cells #[.int .u8 C, .int .u32 N] 25)).alloc (Obj.cells cs 5)).drew.grownBy w1 none) : Own (w.heap.size + 1) v [x] (w.alloc (Obj.cells #[.int .u8 C, .int .u32 N] 25)) w1 :=
  ⟨ownsRow_base h1 (by simp), ((((Below.refl _ _).alloc (by simp) _)).drew).grown h2 (by simp) (fun k hk => by cases hk)⟩
theorem Own.unbox {v : Value} {xs : List Value} {w w1 : World} {o : Obj} (h : Own (w.heap.size + 1) v xs (w.alloc o) w1) : Own w.heap.size v xs w w1 :=
  ⟨ownsRow_base h.own (by omega), ((Below.refl _ _).alloc (Nat.le_refl _) _).trans (h.bel.mono (by omega))⟩
theorem Own.then_ {base : Nat} {v v' : Value} {xs ys : List Value} {w w1 w2 : World} (h : Own base v xs w w1) (h' : Own base v' ys w1 w2) : Own base v' ys w w2 := ⟨h'.own, h.bel.trans h'.bel⟩
theorem Own.grow0 {base : Nat} {v v' : Value} {xs : List Value} {x : Value} {w wr w1 : World} (J : Own base v xs w wr) (h1 : w1.ownsRow base 5 1 v' (xs.length + 1) (xs ++ [x])) (h2 : wr.grownBy w1 v.ownBlock) (hb : base ≤ wr.heap.size) : Own base v' (xs ++ [x]) w w1 :=
  ⟨by simpa using h1, J.bel.grown h2 hb (fun k hk => (J.own.lt k hk).1)⟩
theorem grown_cell {C N : Int} {w w1 : World} {cs : Array Value} (h2 : ((w.alloc (Obj.cells #[.int .u8 C, .int .u32 N] 25)).alloc (Obj.cells cs 5)).drew.grownBy w1 none) : w1.cell? ⟨w.heap.size, 1, none⟩ = some (.int .u32 N) := by
  have e : w1.cell? ⟨w.heap.size, 1, none⟩ = ((w.alloc (Obj.cells #[.int .u8 C, .int .u32 N] 25)).alloc (Obj.cells cs 5)).cell? ⟨w.heap.size, 1, none⟩ := World.cell?_of_block (h2.block w.heap.size (by simp; omega) (by simp))
  rw [e, World.cell?_alloc_lt _ _ _ (by simp), World.cell?_alloc_new]; rfl

set_option maxRecDepth 100000 in
set_option maxHeartbeats 1000000 in
theorem header_small (C N : Int) (w : World) (h0 : 0 ≤ C) (h1 : C ≤ 3) (h2 : 0 ≤ N) (h3 : N < 31) :
    Calls Try.prog 9 #[.agg #[.int .u8 C, .int .u32 N], .bool false, .int .i64 1] w fun e w' => ∃ v, e = .returned v ∧ Own w.heap.size v [.int .u8 (bits .or .u8 (C * 64) N), .int .u8 1] w w' := by
  obtain ⟨i0, hi, hz0, hz1, hz2⟩ := info_parts Try.info5
  have HI : Hid (Try.prog.info? 5 = some i0 ∧ i0.zero = some (.int .u8 0) ∧ i0.size = 1 ∧ i0.bytes = 1) := ⟨hi, hz0, hz1, hz2⟩
  clear hi hz0 hz1 hz2
  go_enter Try.func9, Try.ntmps9
  go_wp2_with (first | (at_builtin; refine wpList_append_own _ rfl (.tmp 21) (.tmp 27) 26 rfl w.heap.size 5 i0 (.int .u8 0) 1 1 Try.underlying26 HI.out.1 HI.out.2.1 HI.out.2.2.1 HI.out.2.2.2 rfl (by decide) (.slice none 0 0) 0 [] rfl (World.ownsRow_nil _ _ _ _) ⟨w.heap.size + 1, 0, none⟩ 1 1 [.int .u8 (bits .or .u8 (C * 64) N)] rfl rfl (one_at (by simp)) one_cell (by decide) (by decide) (by simp; omega) ?_; intro v1 w1 hown1 hgrow1 hx1; have O1 := Own.first hown1 hgrow1 (((Below.refl _ _).alloc (Nat.le_refl _) _).alloc (by simp) _) (by simp; omega); have b1 := O1.bel.size; clear hown1 hgrow1 hx1) | (at_builtin; refine wpList_append_own _ rfl (.tmp 40) (.tmp 43) 26 rfl w.heap.size 5 i0 (.int .u8 0) 1 1 Try.underlying26 HI.out.1 HI.out.2.1 HI.out.2.2.1 HI.out.2.2.2 rfl (by decide) v1 1 [.int .u8 (bits .or .u8 (C * 64) N)] rfl (O1.own.alloc _) ⟨w1.heap.size, 0, none⟩ 1 1 [.int .u8 1] rfl rfl (one_at (by simp)) one_cell (by decide) (by decide) (by simp; omega) ?_; intro v2 w2 hown2 hgrow2 hx2; have O2 := O1.grow b1 hown2 hgrow2; clear hown2 hgrow2 hx2))
  go_ret
  exact ⟨_, rfl, O2⟩

set_option maxRecDepth 100000 in
set_option maxHeartbeats 1000000 in
theorem header_large (C N : Int) (w : World) (h0 : 0 ≤ C) (h1 : C ≤ 3) (h2 : 31 ≤ N) (h3 : N < 4294967296) :
    Calls Try.prog 9 #[.agg #[.int .u8 C, .int .u32 N], .bool false, .int .i64 1] w fun e w' => ∃ (v : Value) (D : Nat), e = .returned v ∧ 1 ≤ D ∧ D ≤ 5 ∧ (D = 1 ∨ 1 ≤ qd N (D - 1)) ∧ qd N D = 0 ∧ Own w.heap.size v ([.int .u8 (bits .or .u8 (C * 64) 31)] ++ octs N D D ++ [.int .u8 1]) w w' := by
  obtain ⟨i0, hi, hz0, hz1, hz2⟩ := info_parts Try.info5
  have HI : Hid (Try.prog.info? 5 = some i0 ∧ i0.zero = some (.int .u8 0) ∧ i0.size = 1 ∧ i0.bytes = 1) := ⟨hi, hz0, hz1, hz2⟩
  clear hi hz0 hz1 hz2
  have hwr : IntKind.i64.wrap N = N := by rw [IntKind.wrap_i64]; omega
  go_enter Try.func9, Try.ntmps9
  go_wp2_with fail
  go_region_held_law (fun w' => w'.cell? ⟨w.heap.size, 1, none⟩ = some (.int .u32 N)) (first | assumption | (simp [go_sem]; done)) (first | (refine step_append_grows rfl (.tmp 29) (.tmp 32) 26 rfl 5 i0 (.int .u8 0) 1 1 Try.underlying26 HI.out.1 HI.out.2.1 HI.out.2.2.1 HI.out.2.2.2 rfl (by decide) none 0 0 [] rfl (fun _ => ⟨rfl, rfl⟩) rfl (fun _ h => by cases h) ⟨w.heap.size + 1, 0, none⟩ 1 1 [.int .u8 (bits .or .u8 (C * 64) 31)] rfl rfl (one_at (by simp [go_sem])) one_cell (by decide) (by decide) (by decide) ?_; intro v1 w1 hown1 hgrow1; have O1 := grown_first hown1 hgrow1; have k1 := grown_cell hgrow1; clear hown1 hgrow1) | (go_at_call 10; go_must (refine (base128_any N v1 [.int .u8 (bits .or .u8 (C * 64) 31)] (w.heap.size + 1) w1 (by omega) h3 (by have q := O1.bel.size; simpa using q) (by simp) O1.own).mono ?_); rintro e w2 ⟨v2, D, rfl, d1, d2, d3, d4, O2⟩; have k2 := (O2.bel.cell (p := ⟨w.heap.size, 1, none⟩) (by show w.heap.size < w.heap.size + 1; omega)).trans k1))
  have O3 := O1.then_ O2
  have HO : Hid (Own (w.heap.size + 1) v2 ([.int .u8 (bits .or .u8 (C * 64) 31)] ++ octs N D D) (w.alloc (Obj.cells #[.int .u8 C, .int .u32 N] 25)) w2) := O3
  have hlen : ([Value.int .u8 (bits .or .u8 (C * 64) 31)] ++ octs N D D).length = 1 + D := by rw [List.length_append, octs_length]; rfl
  have HLEN : Hid (([Value.int .u8 (bits .or .u8 (C * 64) 31)] ++ octs N D D).length = 1 + D) := hlen
  have HD : Hid (1 ≤ D ∧ D ≤ 5 ∧ (D = 1 ∨ 1 ≤ qd N (D - 1)) ∧ qd N D = 0) := ⟨d1, d2, d3, d4⟩
  obtain ⟨zs, hzs⟩ : ∃ zs, zs = [Value.int .u8 (bits .or .u8 (C * 64) 31)] ++ octs N D D := ⟨_, rfl⟩
  rw [← hzs] at HO HLEN
  have HZS : Hid (zs = [Value.int .u8 (bits .or .u8 (C * 64) 31)] ++ octs N D D) := hzs
  have b2 : w.heap.size + 1 ≤ w2.heap.size := by have q := O3.bel.size; simpa using q
  clear O1 O2 O3 hlen d1 d3 d4 hzs k1 k2 hwr
  go_wp2_with (at_builtin; refine wpList_append_own _ rfl (.tmp 40) (.tmp 43) 26 rfl (w.heap.size + 1) 5 i0 (.int .u8 0) 1 1 Try.underlying26 HI.out.1 HI.out.2.1 HI.out.2.2.1 HI.out.2.2.2 rfl (by decide) v2 zs.length zs rfl (HO.out.own.alloc _) ⟨w2.heap.size, 0, none⟩ 1 1 [.int .u8 1] rfl rfl (one_at (by simp)) one_cell (by have q := HLEN.out; unfold maxLen; omega) (by have q := HLEN.out; omega) (by simp; omega) ?_; intro v3 w3 hown3 hgrow3 hx3; have O4 := HO.out.grow b2 hown3 hgrow3; clear hown3 hgrow3 hx3)
  have HO4 : Hid (Own (w.heap.size + 1) v3 (zs ++ [.int .u8 1]) (w.alloc (Obj.cells #[.int .u8 C, .int .u32 N] 25)) w3) := O4
  clear O4
  go_ret
  refine ⟨_, D, rfl, HD.out.1, HD.out.2.1, HD.out.2.2.1, HD.out.2.2.2, ?_⟩
  have q := HO4.out.unbox
  rw [HZS.out] at q
  exact q
end Go.Proofs.Qxb6604383a
