import Derived.Test.Qxb6604376aPlain
import Derived.Test.Qxb6604376aBuild
namespace Go.Proofs.Qxb6604376a
open Go.RowKit
set_option linter.unusedVariables false

theorem wrap_items_zero (a : Int) (h0 : 0 ≤ a) (h1 : a ≤ 9223372036854775807) : wrap64 (a + 0) = a := by unfold wrap64; omega

set_option maxRecDepth 100000 in
set_option maxHeartbeats 2000000 in
/-- The law on a row that holds numbers s. -/
theorem law6_row (b off n c : Nat) (s : Nat → Int) (loop first items m : Int) (w : World) (h1 : 1 ≤ n) (h2 : n ≤ 4096) (hb : b < w.heap.size) (hc : Row b off n s w)
    (hi : items ≤ 9223372036854775807) (hm : m ≤ 9223372036854775807) :
    Calls Try.prog 6 #[.slice (some ⟨b, off, none⟩) n c, .int .i64 loop, .int .i64 first, .int .i64 items, .int .i64 m] w fun e w' => e = .returned (.bool true) ∧ Below w.heap.size w w' := by
  have HC : Hid (Row b off n s w) := hc
  clear hc
  go_enter Try.func6, Try.ntmps6
  go_wp2_with fail
  refine (bytes21_any _ _ _ _ _ _ _ _ (by omega)).mono ?_
  rintro e wx ⟨rfl, hx⟩
  have hx := hx.symm
  subst hx
  go_wp2_with fail
  refine (segsFit_any b off n c s _ h1 h2 HC.out).mono ?_
  rintro e wx ⟨⟨bb, rfl, hbb⟩, hx⟩
  have hx := hx.symm
  subst hx
  cases bb with
  | false =>
    clear hbb
    go_wp2_with fail
    go_ret
    exact ⟨rfl, Below.refl _ _⟩
  | true =>
    have HF : Hid (Fit s n) := hbb rfl
    clear hbb
    by_cases c1 : loop < 0
    · go_wp2_with fail
      go_ret
      exact ⟨rfl, Below.refl _ _⟩
    by_cases c2 : (n : Int) ≤ loop
    · go_wp2_with fail
      go_ret
      exact ⟨rfl, Below.refl _ _⟩
    by_cases c3 : first < 0
    · go_wp2_with fail
      go_ret
      exact ⟨rfl, Below.refl _ _⟩
    by_cases c4 : items < 0
    · go_wp2_with fail
      go_ret
      exact ⟨rfl, Below.refl _ _⟩
    by_cases c5 : m < first
    · go_wp2_with fail
      go_ret
      exact ⟨rfl, Below.refl _ _⟩
    by_cases c6 : 9223372036854710270 < m
    · go_wp2_with fail
      go_ret
      exact ⟨rfl, Below.refl _ _⟩
    obtain ⟨lp, rfl⟩ := Int.eq_ofNat_of_zero_le (show 0 ≤ loop by omega)
    have hl : lp < n := by omega
    go_wp2_with fail
    go_loop [11, 12, 61] (fun t l j => ∃ k : Nat, k ≤ n ∧ j = .int .i64 k ∧ t = .int .i64 (psum s k) ∧ l = .int .i64 (if lp < k then psum s lp else 0)) (fun _ _ j => n - (intOf j).toNat)
    case atStart => exact ⟨0, by omega, rfl, rfl, rfl⟩
    case round =>
      obtain ⟨k, hk, rfl, rfl, rfl⟩ := hrel
      have p0 := HF.out.nonneg hk
      have p1 := HF.out.le_total hk
      by_cases hlt : k < n
      · have g := HC.out k hlt
        have s1 := (HF.out.each k hlt)
        by_cases ek : k = lp
        · subst ek
          have eb : ((k : Int) == (k : Int)) = true := by simp
          go_wp2
          go_round
          case rel => exact ⟨k + 1, by omega, by go_num, rfl, by simp⟩
          case measure => simp [intOf]; omega
        · have eb : ((k : Int) == (lp : Int)) = false := by simp; omega
          have eq : (if lp < k then psum s lp else 0) = (if lp < k + 1 then psum s lp else 0) := by
            by_cases q : lp < k
            · rw [if_pos q, if_pos (by omega)]
            · rw [if_neg q, if_neg (by omega)]
          have HQ : Hid ((if lp < k then psum s lp else 0) = (if lp < k + 1 then psum s lp else 0)) := eq
          clear eq
          generalize (if lp < k then psum s lp else 0) = x at HQ ⊢
          go_wp2
          go_round
          case rel => exact ⟨k + 1, by omega, by go_num, rfl, by rw [HQ.out]⟩
          case measure => simp [intOf]; omega
      · obtain rfl : n = k := by omega
        rw [if_pos hl]
        have hLW := HF.out.lt hl (Nat.le_refl _)
        have hL0 := HF.out.nonneg (Nat.le_of_lt hl)
        have eW : psum (fun k => (((s k).toNat : Nat) : Int)) n = psum s n := (psum_congr n HF.out.toNat).symm
        have eL : psum (fun k => (((s k).toNat : Nat) : Int)) lp = psum s lp := (psum_congr lp (fun k hk => HF.out.toNat k (by omega))).symm
        have HE : Hid (psum (fun k => (((s k).toNat : Nat) : Int)) n = psum s n ∧ psum (fun k => (((s k).toNat : Nat) : Int)) lp = psum s lp) := ⟨eW, eL⟩
        clear eW eL
        generalize psum s n = W at HE hLW p0 p1 ⊢
        generalize psum s lp = L at HE hLW hL0 ⊢
        by_cases c7 : m - first < L
        · go_wp2_with fail
          go_ret
          exact ⟨rfl, Below.refl _ _⟩
        go_wp2_with fail
        have HF' : Hid (Fit (fun k => (((s k).toNat : Nat) : Int)) n) := HF.out.nat
        have HR' : Hid (Row b off n (fun k => (((s k).toNat : Nat) : Int)) w) := Row.nat HF.out HC.out
        clear HF HC
        refine (copyInts_any b off n c (fun k => (((s k).toNat : Nat) : Int)) _ h1 h2 hb HR'.out).mono ?_
        rintro e w1 ⟨rfl, R1, B1, S1⟩
        have HR1 : Hid (Row w.heap.size 0 n (fun k => (((s k).toNat : Nat) : Int)) w1) := R1
        have HB1 : Hid (Below w.heap.size w w1) := B1
        have z1 : w.heap.size < w1.heap.size := by omega
        clear R1 B1 S1 HR'
        go_wp2_with fail
        refine (build_any w.heap.size n n (fun k => (s k).toNat) lp first items _ HF'.out hl z1 HR1.out).mono ?_
        rintro e w2 ⟨ga, gp, gi, gf, cf, rfl, A2, P2, B2⟩
        have HB2 : Hid (Below w.heap.size w w2) := HB1.out.trans (B2.mono (Nat.le_of_lt z1))
        obtain ⟨F, call, f0, fW, fL, f1⟩ : ∃ F : Int → Int, Hid (∀ (x : Int) (q : Nat), first ≤ x → x ≤ 9223372036854775807 → Calls Try.prog 19 #[.pointer (some ⟨ga, 0, none⟩), .int .i64 x] (w2.drewN q) fun e w' => e = .returned (.int .i64 (wrap64 (items + F (x - first)))) ∧ ∃ q, w' = w2.drewN q) ∧
            Hid (F 0 = 0) ∧ Hid (F W = (n : Int)) ∧ Hid (∀ i, L ≤ i → F (i + (W - L)) = F i + ((n : Int) - lp)) ∧ Hid (∀ i, 0 ≤ i → F (i + 1) = F i ∨ F (i + 1) = F i + 1) := by
          obtain ⟨eW, eL⟩ := HE.out
          subst eW
          subst eL
          refine ⟨fun i => itemsOf (psum (fun k => (((s k).toNat : Nat) : Int))) n lp (psum (fun k => (((s k).toNat : Nat) : Int)) n) i, ?_, items_zero HF'.out hl, items_whole HF'.out hl, fun i hi => items_lap HF'.out hl hi, fun i hi => items_step HF'.out hl hi⟩
          intro x q hx hx'
          refine (zzItemsBelow_any ga gp n lp (psum (fun k => (((s k).toNat : Nat) : Int))) (psum (fun k => (((s k).toNat : Nat) : Int)) n) first items (some ⟨gi, 0, none⟩) n gf cf x (w2.drewN q) ⟨A2.pass, A2.first, A2.items⟩ (P2.drawn q) hl (by omega)
            (HF'.out.nonneg (Nat.le_of_lt hl)) (HF'.out.lt hl (Nat.le_refl _)) HF'.out.total (fun i j a b => HF'.out.mono a (by omega)) (by omega) hx hx').mono ?_
          rintro e w' ⟨he, q', hw⟩
          exact ⟨he, q + q', by rw [hw, World.drewN_drewN]⟩
        clear A2 P2 B2 HR1 HB1 HF' HE
        go_wp2_with fail
        refine (call.out first 0 (by omega) (by omega)).mono ?_
        rintro e w3 ⟨rfl, q1, rfl⟩
        rw [show first - first = 0 by omega, f0.out, wrap_items_zero items (by omega) hi]
        go_wp2_with fail
        refine (call.out (first + W) q1 (by omega) (by omega)).mono ?_
        rintro e w3 ⟨rfl, q2, rfl⟩
        rw [show first + W - first = W by omega, fW.out]
        go_wp2_with fail
        refine (call.out m q2 (by omega) (by omega)).mono ?_
        rintro e w3 ⟨rfl, q3, rfl⟩
        have HL' : Hid (F (m - first + (W - L)) = F (m - first) + ((n : Int) - lp)) := fL.out _ (by omega)
        have HS' : Hid (F (m - first + 1) = F (m - first) ∨ F (m - first + 1) = F (m - first) + 1) := f1.out _ (by omega)
        clear f0 fW fL f1
        go_wp2_with fail
        refine (call.out (m + (W - L)) q3 (by omega) (by omega)).mono ?_
        rintro e w3 ⟨rfl, q4, rfl⟩
        rw [show m + (W - L) - first = m - first + (W - L) by omega, HL'.out]
        go_wp2_with fail
        refine (call.out (m + 1) q4 (by omega) (by omega)).mono ?_
        rintro e w3 ⟨rfl, q5, rfl⟩
        rw [show m + 1 - first = m - first + 1 by omega]
        have hS := HS'.out
        clear call HL' HS'
        generalize F (m - first) = X at hS ⊢
        generalize F (m - first + 1) = Z at hS ⊢
        have e1 : wrap64 (items + (X + ((n : Int) - lp))) = wrap64 (wrap64 (items + X) + ((n : Int) - lp)) := by rw [wrap64_add_wrap, Int.add_assoc]
        rw [e1]
        clear e1
        have HBE : Hid (∀ q, Below w.heap.size w (w2.drewN q)) := fun q => ⟨HB2.out.os, HB2.out.tape, HB2.out.output, HB2.out.size, HB2.out.block⟩
        rcases hS with rfl | rfl
        · generalize wrap64 (items + Z) = x
          go_wp2
          go_ret
          exact ⟨rfl, HBE.out _⟩
        · have e2 : wrap64 (items + (X + 1)) = wrap64 (wrap64 (items + X) + 1) := by rw [wrap64_add_wrap, Int.add_assoc]
          rw [e2]
          clear e2
          have hne : (wrap64 (wrap64 (items + X) + 1) == wrap64 (items + X)) = false := by
            rw [beq_eq_false_iff_ne]; unfold wrap64; omega
          generalize wrap64 (items + X) = x at hne ⊢
          go_wp2
          go_ret
          exact ⟨rfl, HBE.out _⟩
end Go.Proofs.Qxb6604376a
