import Derived.Test.Qxb6604383aHeader
namespace Go.Proofs.Qxb6604383a
open Go.RowKit
set_option linter.unusedVariables false

/-- How many octets of 7 bits N takes. -/
def dig (N : Int) : Nat := if N < 128 then 1 else if N < 16384 then 2 else if N < 2097152 then 3 else if N < 268435456 then 4 else 5
theorem dig_of {N : Int} {D : Nat} (h0 : 0 ≤ N) (d1 : 1 ≤ D) (d2 : D ≤ 5) (d3 : D = 1 ∨ 1 ≤ qd N (D - 1)) (d4 : qd N D = 0) : D = dig N := by
  unfold dig
  match D, d1, d2 with
  | 1, _, _ => simp only [qd] at d4; rw [if_pos (by omega)]
  | 2, _, _ => simp [qd] at d3 d4; rw [if_neg (by omega), if_pos (by omega)]
  | 3, _, _ => simp [qd] at d3 d4; rw [if_neg (by omega), if_neg (by omega), if_pos (by omega)]
  | 4, _, _ => simp [qd] at d3 d4; rw [if_neg (by omega), if_neg (by omega), if_neg (by omega), if_pos (by omega)]
  | 5, _, _ => simp [qd] at d3 d4; rw [if_neg (by omega), if_neg (by omega), if_neg (by omega), if_neg (by omega)]
theorem dig_le (N : Int) : 1 ≤ dig N ∧ dig N ≤ 5 := by unfold dig; constructor <;> ((repeat' split) <;> omega)

/-- The identifier octets and the length octet 1. -/
def heads (C N : Int) : List Value :=
  if N < 31 then [.int .u8 (bits .or .u8 (C * 64) N), .int .u8 1]
  else [.int .u8 (bits .or .u8 (C * 64) 31)] ++ octs N (dig N) (dig N) ++ [.int .u8 1]
theorem heads_length (C N : Int) : (heads C N).length ≤ 7 := by
  have := dig_le N
  unfold heads
  split
  · simp
  · simp [octs_length]; omega

theorem header_any (C N : Int) (w : World) (h0 : 0 ≤ C) (h1 : C ≤ 3) (h2 : 0 ≤ N) (h3 : N < 4294967296) :
    Calls Try.prog 9 #[.agg #[.int .u8 C, .int .u32 N], .bool false, .int .i64 1] w fun e w' => ∃ v, e = .returned v ∧ Own w.heap.size v (heads C N) w w' := by
  by_cases c : N < 31
  · refine (header_small C N w h0 h1 h2 c).mono fun e w' ⟨v, he, ho⟩ => ⟨v, he, ?_⟩
    rw [heads, if_pos c]; exact ho
  · refine (header_large C N w h0 h1 (by omega) h3).mono fun e w' ⟨v, D, he, d1, d2, d3, d4, ho⟩ => ⟨v, he, ?_⟩
    rw [heads, if_neg c, ← dig_of h2 d1 d2 d3 d4]; exact ho

theorem Own.unbox2 {v : Value} {xs : List Value} {w w1 : World} {o o' : Obj} (h : Own ((w.alloc o).alloc o').heap.size v xs ((w.alloc o).alloc o') w1) : Own w.heap.size v xs w w1 :=
  ⟨ownsRow_base h.own (by simp; omega), (((Below.refl _ _).alloc (Nat.le_refl _) _).alloc (by simp) _).trans (h.bel.mono (by simp; omega))⟩

set_option maxRecDepth 100000 in
set_option maxHeartbeats 1000000 in
theorem prim_any (C N X : Int) (gc : Nat) (w : World) (h0 : 0 ≤ C) (h1 : C ≤ 3) (h2 : 0 ≤ N) (h3 : N < 4294967296) (hg : gc < w.heap.size) (hc : w.cell? ⟨gc, 0, none⟩ = some (.int .u8 X)) :
    Calls Try.prog 8 #[.agg #[.int .u8 C, .int .u32 N], .slice (some ⟨gc, 0, none⟩) 1 1] w fun e w' => ∃ v, e = .returned v ∧ Own w.heap.size v (heads C N ++ [.int .u8 X]) w w' := by
  obtain ⟨i0, hi, hz0, hz1, hz2⟩ := info_parts Try.info5
  have HI : Hid (Try.prog.info? 5 = some i0 ∧ i0.zero = some (.int .u8 0) ∧ i0.size = 1 ∧ i0.bytes = 1) := ⟨hi, hz0, hz1, hz2⟩
  clear hi hz0 hz1 hz2
  have HC : Hid (w.cell? ⟨gc, 0, none⟩ = some (.int .u8 X)) := hc
  clear hc
  go_enter Try.func8, Try.ntmps8
  go_wp2_with fail
  refine (header_any C N _ h0 h1 h2 h3).mono ?_
  rintro e w1 ⟨v1, rfl, O1⟩
  have hl := heads_length C N
  have k1 : w1.cell? ⟨gc, 0, none⟩ = some (.int .u8 X) := by
    rw [O1.bel.cell (p := ⟨gc, 0, none⟩) (by simp; omega), World.cell?_alloc_lt _ _ _ hg]; exact HC.out
  have b1 : w.heap.size + 1 ≤ w1.heap.size := by have q := O1.bel.size; simpa using q
  have hs1 : (w.alloc (Obj.cells #[Value.int .u8 C, .int .u32 N] 25)).heap.size = w.heap.size + 1 := by simp
  rw [hs1] at O1
  have HO1 : Hid (Own (w.heap.size + 1) v1 (heads C N) (w.alloc (Obj.cells #[Value.int .u8 C, .int .u32 N] 25)) w1) := O1
  have HK1 : Hid (w1.cell? ⟨gc, 0, none⟩ = some (.int .u8 X)) := k1
  clear O1 k1 hs1 HC
  obtain ⟨xs, hxs⟩ : ∃ xs, xs = heads C N := ⟨_, rfl⟩
  rw [← hxs] at HO1 hl
  have HX : Hid (xs = heads C N) := hxs
  clear hxs
  go_wp2_with (at_builtin; refine wpList_append_own _ rfl (.tmp 8) (.tmp 9) 26 rfl (w.heap.size + 1) 5 i0 (.int .u8 0) 1 1 Try.underlying26 HI.out.1 HI.out.2.1 HI.out.2.2.1 HI.out.2.2.2 rfl (by decide) v1 xs.length xs rfl HO1.out.own ⟨gc, 0, none⟩ 1 1 [.int .u8 X] rfl rfl (one_at HK1.out) one_cell (by unfold maxLen; omega) (by omega) b1 ?_; intro v3 w3 hown3 hgrow3 hx3; have O4 := HO1.out.grow0 hown3 hgrow3 b1; clear hown3 hgrow3 hx3)
  have HO4 : Hid (Own (w.heap.size + 1) v3 (xs ++ [.int .u8 X]) (w.alloc (Obj.cells #[Value.int .u8 C, .int .u32 N] 25)) w3) := O4
  clear O4
  go_ret
  exact ⟨_, rfl, by rw [← HX.out]; exact HO4.out.unbox⟩

set_option maxRecDepth 100000 in
set_option maxHeartbeats 1000000 in
theorem bool_any (C N : Int) (x : Bool) (w : World) (h0 : 0 ≤ C) (h1 : C ≤ 3) (h2 : 0 ≤ N) (h3 : N < 4294967296) :
    Calls Try.prog 5 #[.agg #[.int .u8 C, .int .u32 N], .bool x] w fun e w' => ∃ v, e = .returned v ∧ Own w.heap.size v (heads C N ++ [.int .u8 (if x then 255 else 0)]) w w' := by
  cases x with
  | true =>
    go_enter Try.func5, Try.ntmps5
    go_wp2_with fail
    refine (prim_any C N 255 _ _ h0 h1 h2 h3 (by simp) (by simp)).mono ?_
    rintro e w1 ⟨v1, rfl, O1⟩
    have HO : Hid (Own w.heap.size v1 (heads C N ++ [.int .u8 255]) w w1) := O1.unbox2
    clear O1
    go_wp2
    go_ret
    exact ⟨_, rfl, HO.out⟩
  | false =>
    go_enter Try.func5, Try.ntmps5
    go_wp2_with fail
    refine (prim_any C N 0 _ _ h0 h1 h2 h3 (by simp) (by simp)).mono ?_
    rintro e w1 ⟨v1, rfl, O1⟩
    have HO : Hid (Own w.heap.size v1 (heads C N ++ [.int .u8 0]) w w1) := O1.unbox2
    clear O1
    go_wp2
    go_ret
    exact ⟨_, rfl, HO.out⟩
end Go.Proofs.Qxb6604383a
