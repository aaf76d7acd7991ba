import Derived.Test.Qxb6604376aSearch
import Derived.Deep.QuietTactic
import Derived.BigQuiet
namespace Go.Proofs.Qxb6604376a
open Go.RowKit
set_option linter.unusedVariables false

/-- Block gp holds a pass of cnt items: the loop begins at item lp; item k's first segment is number f k; 'whole' segments in all. -/
structure IsPass (gp cnt lp : Nat) (f : Nat → Int) (whole : Int) (ai : Option Addr) (ci gf cf : Nat) (w : World) : Prop where
  items : w.cell? ⟨gp, 0, none⟩ = some (.slice ai cnt ci)
  firsts : w.cell? ⟨gp, 1, none⟩ = some (.slice (some ⟨gf, 0, none⟩) cnt cf)
  loop : w.cell? ⟨gp, 3, none⟩ = some (.int .i64 (lp : Int))
  segs : w.cell? ⟨gp, 4, none⟩ = some (.int .i64 whole)
  row : ∀ k, k < cnt → w.cell? ⟨gf, k, none⟩ = some (.int .i64 (f k))

theorem IsPass.drawn {gp cnt lp : Nat} {f : Nat → Int} {whole : Int} {ai : Option Addr} {ci gf cf : Nat} {w : World} (h : IsPass gp cnt lp f whole ai ci gf cf w) (q : Nat) : IsPass gp cnt lp f whole ai ci gf cf (w.drewN q) :=
  ⟨h.items, h.firsts, h.loop, h.segs, h.row⟩

set_option maxHeartbeats 400000 in
theorem fold_any (gp cnt lp : Nat) (f : Nat → Int) (whole : Int) (ai : Option Addr) (ci gf cf : Nat) (i : Int) (w : World) (hp : IsPass gp cnt lp f whole ai ci gf cf w)
    (hl : lp < cnt) (hn : cnt ≤ 65536) (h0 : 0 ≤ f lp) (h1 : f lp < whole) (h2 : whole ≤ 65536) (h3 : 0 ≤ i) (h4 : i ≤ 9223372036854775807) :
    Calls Try.prog 56 #[.pointer (some ⟨gp, 0, none⟩), .int .i64 i] w fun e w' => e = .returned (.tuple #[.int .i64 (placeOf i (f lp) whole), .int .i64 (lapsOf i (f lp) whole)]) ∧ ∃ q, w' = w.drewN q := by
  obtain ⟨p1, p2, p3, p4, p5⟩ := hp
  have p6 := p5 lp hl
  have hl' : (lp : Int) < (cnt : Int) := by omega
  clear p5
  go_enter Try.func56, Try.ntmps56
  go_wp2
  go_quiet ((go_at_call 63; exact Calls.quiet_of_same (unlap_any i (f lp) whole _ h0 h1 h2 h3 h4)))
  go_wp2
  go_ret2
  exact ⟨rfl, _, rfl⟩

/-- How many items start among the block's first i segments. -/
def itemsOf (f : Nat → Int) (cnt lp : Nat) (whole i : Int) : Int := lapsOf i (f lp) whole * ((cnt : Int) - lp) + (below f (placeOf i (f lp) whole) cnt : Nat)

theorem ret_int {k : IntKind} {a b : Int} (h : a = b) : Ending.returned (.int k a) = .returned (.int k b) := by rw [h]
theorem wrap64_add_wrap (a b : Int) : wrap64 (wrap64 a + b) = wrap64 (a + b) := by unfold wrap64; omega
theorem wrap64_add_wrap' (a b : Int) : wrap64 (a + wrap64 b) = wrap64 (a + b) := by unfold wrap64; omega

set_option maxHeartbeats 400000 in
theorem before_any (gp cnt lp : Nat) (f : Nat → Int) (whole : Int) (ai : Option Addr) (ci gf cf : Nat) (i : Int) (w : World) (hp : IsPass gp cnt lp f whole ai ci gf cf w)
    (hl : lp < cnt) (hn : cnt ≤ 65536) (h0 : 0 ≤ f lp) (h1 : f lp < whole) (h2 : whole ≤ 65536) (hm : ∀ i j, i ≤ j → j < cnt → f i ≤ f j) (h3 : 0 ≤ i) (h4 : i ≤ 9223372036854775807) :
    Calls Try.prog 48 #[.pointer (some ⟨gp, 0, none⟩), .int .i64 i] w fun e w' => e = .returned (.int .i64 (wrap64 (itemsOf f cnt lp whole i))) ∧ ∃ q, w' = w.drewN q := by
  have hp' := hp
  obtain ⟨p1, p2, p3, p4, p5⟩ := hp
  have HM : Hid (∀ i j, i ≤ j → j < cnt → f i ≤ f j) := hm
  have HR : Hid (∀ k, k < cnt → w.cell? ⟨gf, k, none⟩ = some (.int .i64 (f k))) := p5
  clear hm p5
  go_enter Try.func48, Try.ntmps48
  go_wp2_with fail
  refine (fold_any gp cnt lp f whole ai ci gf cf i _ hp' hl hn h0 h1 h2 h3 h4).mono ?_
  rintro e w1 ⟨rfl, q1, rfl⟩
  clear hp'
  have HE : Hid (itemsOf f cnt lp whole i = lapsOf i (f lp) whole * ((cnt : Int) - lp) + (below f (placeOf i (f lp) whole) cnt : Nat)) := rfl
  generalize placeOf i (f lp) whole = j at HE ⊢
  generalize lapsOf i (f lp) whole = l at HE ⊢
  go_wp2_with fail
  refine (bs_any gf 0 cnt cf f j _ hn HM.out (fun k hk => by rw [Nat.zero_add]; exact HR.out k hk)).mono ?_
  rintro e w2 ⟨⟨bb, rfl⟩, rfl⟩
  generalize below f j cnt = r at HE ⊢
  go_wp2
  go_quiet (fail)
  go_wp2
  go_ret
  refine ⟨ret_int ?_, _, World.drewN_drewN _ _ _⟩
  rw [HE.out, wrap64_add_wrap]

/-- Block ga holds an airing over the pass in block gp. -/
structure IsAiring (ga gp : Nat) (first items : Int) (w : World) : Prop where
  pass : w.cell? ⟨ga, 8, none⟩ = some (.pointer (some ⟨gp, 0, none⟩))
  first : w.cell? ⟨ga, 9, none⟩ = some (.int .i64 first)
  items : w.cell? ⟨ga, 10, none⟩ = some (.int .i64 items)

set_option maxHeartbeats 400000 in
theorem itemsBelow_any (ga gp cnt lp : Nat) (f : Nat → Int) (whole first items : Int) (ai : Option Addr) (ci gf cf : Nat) (n : Int) (w : World) (ha : IsAiring ga gp first items w) (hp : IsPass gp cnt lp f whole ai ci gf cf w)
    (hl : lp < cnt) (hn : cnt ≤ 65536) (h0 : 0 ≤ f lp) (h1 : f lp < whole) (h2 : whole ≤ 65536) (hm : ∀ i j, i ≤ j → j < cnt → f i ≤ f j) (h3 : 0 ≤ first) (h5 : first ≤ n) (h4 : n ≤ 9223372036854775807) :
    Calls Try.prog 39 #[.pointer (some ⟨ga, 0, none⟩), .int .i64 n] w fun e w' => e = .returned (.int .i64 (wrap64 (items + itemsOf f cnt lp whole (n - first)))) ∧ ∃ q, w' = w.drewN q := by
  obtain ⟨q1, q2, q3⟩ := ha
  have HM : Hid (∀ i j, i ≤ j → j < cnt → f i ≤ f j) := hm
  have HP : Hid (IsPass gp cnt lp f whole ai ci gf cf w) := hp
  clear hm hp
  go_enter Try.func39, Try.ntmps39
  go_wp2
  go_quiet ((go_at_call 48; exact Calls.quiet_of (before_any gp cnt lp f whole ai ci gf cf (n - first) _ (HP.out.drawn _) hl hn h0 h1 h2 HM.out (by omega) (by omega))))
  go_wp2
  go_ret
  exact ⟨ret_int (wrap64_add_wrap' _ _), _, rfl⟩

theorem zzItemsBelow_any (ga gp cnt lp : Nat) (f : Nat → Int) (whole first items : Int) (ai : Option Addr) (ci gf cf : Nat) (n : Int) (w : World) (ha : IsAiring ga gp first items w) (hp : IsPass gp cnt lp f whole ai ci gf cf w)
    (hl : lp < cnt) (hn : cnt ≤ 65536) (h0 : 0 ≤ f lp) (h1 : f lp < whole) (h2 : whole ≤ 65536) (hm : ∀ i j, i ≤ j → j < cnt → f i ≤ f j) (h3 : 0 ≤ first) (h5 : first ≤ n) (h4 : n ≤ 9223372036854775807) :
    Calls Try.prog 19 #[.pointer (some ⟨ga, 0, none⟩), .int .i64 n] w fun e w' => e = .returned (.int .i64 (wrap64 (items + itemsOf f cnt lp whole (n - first)))) ∧ ∃ q, w' = w.drewN q := by
  go_enter Try.func19, Try.ntmps19
  go_wp2_with fail
  refine (itemsBelow_any ga gp cnt lp f whole first items ai ci gf cf n _ ha hp hl hn h0 h1 h2 hm h3 h5 h4).mono ?_
  rintro e w1 ⟨rfl, q, rfl⟩
  go_wp2
  go_ret
  exact ⟨rfl, q, rfl⟩
end Go.Proofs.Qxb6604376a
