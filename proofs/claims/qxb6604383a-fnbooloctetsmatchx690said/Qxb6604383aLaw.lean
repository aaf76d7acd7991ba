import Derived.Test.Qxb6604383aBool
import Derived.Deep.DeepCutAuto
import Derived.Deep.QuietTactic
import Derived.BigQuiet
import Derived.Laws.Bits64b
namespace Go.Proofs.Qxb6604383a
open Go.RowKit
set_option linter.unusedVariables false

/-- How many octets the tag number takes behind the first. -/
def kk (N : Int) : Nat := if N < 31 then 0 else dig N
/-- Octet j of the head. -/
def hdv (C N : Int) (j : Nat) : Int :=
  if N < 31 then (if j = 0 then bits .or .u8 (C * 64) N else 1)
  else if j = 0 then bits .or .u8 (C * 64) 31 else if j ≤ dig N then oc N (dig N - j) else 1
theorem kk_le (N : Int) : kk N ≤ 5 := by unfold kk; split; omega; exact (dig_le N).2
theorem heads_len (C N : Int) : (heads C N).length = kk N + 2 := by
  unfold heads kk
  split
  · rfl
  · simp [octs_length]
theorem heads_at (C N : Int) {j : Nat} (hj : j < kk N + 2) : (heads C N)[j]? = some (.int .u8 (hdv C N j)) := by
  unfold heads hdv
  unfold kk at hj
  by_cases c : N < 31
  · rw [if_pos c] at hj ⊢
    rw [if_pos c]
    match j, hj with
    | 0, _ => simp
    | 1, _ => simp
  · rw [if_neg c] at hj ⊢
    rw [if_neg c]
    by_cases c0 : j = 0
    · subst c0; simp
    · rw [if_neg c0]
      by_cases c1 : j ≤ dig N
      · rw [if_pos c1, List.getElem?_append_left (by simp [octs_length]; omega), List.getElem?_append_right (by simp; omega)]
        have : j - 1 < dig N := by omega
        simp [octs, this]
        congr 1; omega
      · rw [if_neg c1]
        obtain rfl : j = dig N + 1 := by omega
        rw [List.getElem?_append_right (by simp [octs_length])]
        have : dig N + 1 - ([Value.int .u8 (bits .or .u8 (C * 64) 31)] ++ octs N (dig N) (dig N)).length = 0 := by simp [octs_length]
        rw [this]; rfl

/-- A slice of the bytes that the head and one octet X behind it make. -/
structure Oct (g : Nat) (C N X : Int) (w : World) : Prop where
  hd : ∀ j, j < kk N + 2 → w.cell? ⟨g, j, none⟩ = some (.int .u8 (hdv C N j))
  last : w.cell? ⟨g, kk N + 2, none⟩ = some (.int .u8 X)
  lt : g < w.heap.size

theorem Own.form {base : Nat} {v : Value} {C N X : Int} {w w' : World} (h : Own base v (heads C N ++ [.int .u8 X]) w w') : ∃ g cap, v = .slice (some ⟨g, 0, none⟩) (kk N + 3) cap ∧ Oct g C N X w' := by
  obtain ⟨hl, hc⟩ := h.own
  have hlen : (heads C N ++ [Value.int .u8 X]).length = kk N + 3 := by rw [List.length_append, heads_len]; rfl
  have ho := h.own
  rw [hlen] at hc ho
  rcases hc with ⟨_, hn⟩ | ⟨g, cap, cur, rfl, _, hg, _⟩
  · omega
  · refine ⟨g, cap, rfl, fun j hj => ?_, ?_, ?_⟩
    · rw [ho.cellAt j (by omega), List.getElem?_append_left (by rw [heads_len]; exact hj)]; exact heads_at C N hj
    · rw [ho.cellAt (kk N + 2) (by omega), List.getElem?_append_right (by rw [heads_len]; omega), heads_len]; simp
    · exact (Array.getElem?_eq_some_iff.1 hg).1
theorem Oct.below {g : Nat} {C N X : Int} {w w' : World} (h : Oct g C N X w) (hb : Below w.heap.size w w') : Oct g C N X w' := by
  have hs := hb.size
  refine ⟨fun j hj => ?_, ?_, by have := h.lt; omega⟩
  · rw [hb.cell (p := ⟨g, j, none⟩) h.lt]; exact h.hd j hj
  · rw [hb.cell (p := ⟨g, kk N + 2, none⟩) h.lt]; exact h.last

theorem hdv_one (C N : Int) : hdv C N (kk N + 1) = 1 := by
  unfold hdv kk
  by_cases c : N < 31
  · simp [c]
  · simp [c]
    intro h; omega
theorem hdv_zero_small {C N : Int} (c : N < 31) : hdv C N 0 = bits .or .u8 (C * 64) N := by simp [hdv, c]
theorem hdv_zero_large {C N : Int} (c : ¬ N < 31) : hdv C N 0 = bits .or .u8 (C * 64) 31 := by simp [hdv, c]
theorem hdv_mid {C N : Int} (c : ¬ N < 31) {i : Nat} (h1 : 1 ≤ i) (h2 : i ≤ kk N) : hdv C N i = oc N (kk N - i) := by
  unfold kk at h2 ⊢
  rw [if_neg c] at h2 ⊢
  rw [hdv, if_neg c, if_neg (by omega), if_pos h2]
theorem qd_top {N : Int} (h0 : 0 ≤ N) (h3 : N < 4294967296) (c : ¬ N < 31) : qd N (kk N) = 0 ∧ (kk N = 1 ∨ 1 ≤ qd N (kk N - 1)) ∧ 1 ≤ kk N := by
  unfold kk dig
  rw [if_neg c]
  (repeat' split) <;> refine ⟨?_, ?_, ?_⟩ <;> simp [qd] <;> omega
theorem oc_bd {N : Int} (h0 : 0 ≤ N) (i : Nat) : 0 ≤ oc N i ∧ oc N i ≤ 255 ∧ (128 ≤ oc N i ↔ 0 < i) ∧ oc N i % 128 = qd N i % 128 := by
  have := qd_nonneg h0 i
  unfold oc
  split <;> omega
theorem oc_top {N : Int} (h0 : 0 ≤ N) {K : Nat} (h1 : 1 ≤ K) (h2 : qd N K = 0) (h3 : K = 1 ∨ 1 ≤ qd N (K - 1)) : oc N (K - 1) ≠ 128 := by
  obtain ⟨j, rfl⟩ : ∃ j, K = j + 1 := ⟨K - 1, by omega⟩
  have q := qd_nonneg h0 j
  simp only [Nat.add_sub_cancel, qd] at *
  unfold oc
  split <;> omega
theorem or64 {x y : Int} (h0 : 0 ≤ x) (h1 : x < 4294967296) (h2 : 0 ≤ y) (h3 : y < 128) : bits .or .u64 (x * 128) y = x * 128 + y := by
  obtain ⟨a, rfl⟩ := Int.eq_ofNat_of_zero_le h0
  obtain ⟨b, rfl⟩ := Int.eq_ofNat_of_zero_le h2
  have e := bits_or_u64_nat (a * 128) b (by omega) (by omega)
  rw [show ((a * 128 : Nat) : Int) = (a : Int) * 128 by omega] at e
  rw [e]
  have q := Nat.two_pow_add_eq_or_of_lt (i := 7) (b := b) (by omega) a
  rw [show 2 ^ 7 * a = a * 128 by omega] at q
  rw [← q]; omega

set_option maxRecDepth 100000 in
set_option maxHeartbeats 2000000 in
theorem law_walk (C N : Int) (w : World) (h0 : 0 ≤ C) (h1 : C ≤ 255) (h2 : 0 ≤ N) (h3 : N < 4294967296) :
    Calls Try.prog 3 #[.int .u8 C, .int .u32 N] w fun e w' => e = .returned (.bool true) ∧ Below w.heap.size w w' := by
  by_cases hC : 3 < C
  · go_enter Try.func3, Try.ntmps3
    go_wp2_with fail
    go_ret
    exact ⟨rfl, Below.refl _ _⟩
  go_enter Try.func3, Try.ntmps3
  go_wp2_with fail
  refine (bool_any C N true _ h0 (by omega) h2 h3).mono ?_
  rintro e w1 ⟨v1, rfl, O1⟩
  have k0 : w1.cell? ⟨w.heap.size, 0, none⟩ = some (.int .u8 C) := by rw [O1.bel.cell (p := ⟨w.heap.size, 0, none⟩) (by simp), World.cell?_alloc_new]; rfl
  have k1 : w1.cell? ⟨w.heap.size, 1, none⟩ = some (.int .u32 N) := by rw [O1.bel.cell (p := ⟨w.heap.size, 1, none⟩) (by simp), World.cell?_alloc_new]; rfl
  obtain ⟨g1, cp1, rfl, P1⟩ := O1.form
  have HB1 : Hid (Below w.heap.size w w1) := ((Below.refl _ _).alloc (Nat.le_refl _) _).trans (O1.bel.mono (by simp))
  have HP1 : Hid (Oct g1 C N (if true = true then 255 else 0) w1) := P1
  clear O1 P1
  go_wp2_with fail
  refine (bool_any C N false _ h0 (by omega) h2 h3).mono ?_
  rintro e w2 ⟨v2, rfl, O2⟩
  obtain ⟨g2, cp2, rfl, P2⟩ := O2.form
  have HB2 : Hid (Below w.heap.size w w2) := HB1.out.trans (O2.bel.mono HB1.out.size)
  have HQ1 : Hid (Oct g1 C N 255 w2) := HP1.out.below O2.bel
  have HQ2 : Hid (Oct g2 C N 0 w2) := P2
  clear O2 P2 HP1 HB1 k0 k1
  have R1 : Hid ((∀ j, j < kk N + 2 → w2.cell? ⟨g1, j, none⟩ = some (.int .u8 (hdv C N j))) ∧ w2.cell? ⟨g1, kk N + 2, none⟩ = some (.int .u8 255)) := ⟨HQ1.out.hd, HQ1.out.last⟩
  have R2 : Hid ((∀ j, j < kk N + 2 → w2.cell? ⟨g2, j, none⟩ = some (.int .u8 (hdv C N j))) ∧ w2.cell? ⟨g2, kk N + 2, none⟩ = some (.int .u8 0)) := ⟨HQ2.out.hd, HQ2.out.last⟩
  have K5 := kk_le N
  clear HQ1 HQ2
  obtain ⟨K, hK⟩ : ∃ K, K = kk N := ⟨_, rfl⟩
  rw [← hK] at R1 R2 K5 ⊢
  have HK : Hid (K = kk N) := hK
  clear hK
  go_upto_if 27 with fail
  go_cut [8] (fun kv wx => kv = .int .i64 (K : Nat) ∧ wx = w2)
  case first =>
    by_cases c1 : N < 31
    · go_wp2_with fail
      go_meet
      exact ⟨by rw [HK.out, kk, if_pos c1]; rfl, rfl⟩
    by_cases c2 : N < 128
    · go_wp2_with fail
      go_meet
      exact ⟨by rw [HK.out, kk, if_neg (by omega), dig, if_pos c2]; rfl, rfl⟩
    by_cases c3 : N < 16384
    · go_wp2_with fail
      go_meet
      exact ⟨by rw [HK.out, kk, if_neg (by omega), dig, if_neg (by omega), if_pos c3]; rfl, rfl⟩
    by_cases c4 : N < 2097152
    · go_wp2_with fail
      go_meet
      exact ⟨by rw [HK.out, kk, if_neg (by omega), dig, if_neg (by omega), if_neg (by omega), if_pos c4]; rfl, rfl⟩
    by_cases c5 : N < 268435456
    · go_wp2_with fail
      go_meet
      exact ⟨by rw [HK.out, kk, if_neg (by omega), dig, if_neg (by omega), if_neg (by omega), if_neg (by omega), if_pos c5]; rfl, rfl⟩
    · go_wp2_with fail
      go_meet
      exact ⟨by rw [HK.out, kk, if_neg (by omega), dig, if_neg (by omega), if_neg (by omega), if_neg (by omega), if_neg (by omega)]; rfl, rfl⟩
  case rest =>
    obtain ⟨rfl, hx⟩ := hcut
    have hx := hx.symm
    subst hx
    go_wp2_with fail
    go_loopw [9] (fun j wr => ∃ i q : Nat, i ≤ K + 2 ∧ j = .int .i64 i ∧ wr = w2.drewN q) (fun j _ => K + 2 - (intOf j).toNat)
    case atStart => exact ⟨0, 0, by omega, rfl, rfl⟩
    case round =>
      obtain ⟨i, q, hi, rfl, rfl⟩ := hrel
      by_cases hlt : i < K + 2
      · have e1 := R1.out.1 i hlt
        have e2 := R2.out.1 i hlt
        have hib : (i : Int) < (K : Int) + 3 := by omega
        have hib' : (i : Int) < (K : Int) + 2 := by omega
        go_wp2
        go_quiet (fail)
        go_wp2
        go_roundw
        case rel => exact ⟨i + 1, _, by omega, by go_num, rfl⟩
        case measure => simp [intOf]; omega
      · obtain rfl : i = K + 2 := by omega
        have e1 := R1.out.2
        have e2 := R2.out.2
        have e3 := R1.out.1 (K + 1) (by omega)
        have e4 := R1.out.1 0 (by omega)
        have HB3 : Hid (∀ q, Below w.heap.size w (w2.drewN q)) := fun q => ⟨HB2.out.os, HB2.out.tape, HB2.out.output, HB2.out.size, HB2.out.block⟩
        rw [show hdv C N (K + 1) = 1 by rw [HK.out]; exact hdv_one C N] at e3
        by_cases c : N < 31
        · rw [hdv_zero_small c] at e4
          go_wp2
          go_ret
          exact ⟨rfl, HB3.out _⟩
        · rw [hdv_zero_large c] at e4
          have hq := qd_top h2 h3 c
          rw [← HK.out] at hq
          have e5 := R1.out.1 1 (by omega)
          rw [hdv_mid c (Nat.le_refl 1) (by rw [← HK.out]; omega), ← HK.out] at e5
          have hne : (oc N (K - 1) == 128) = false := by
            rw [beq_eq_false_iff_ne]
            exact oc_top h2 hq.2.2 hq.1 hq.2.1
          have HQ : Hid (qd N K = 0 ∧ 1 ≤ K) := ⟨hq.1, hq.2.2⟩
          clear hq
          go_wp2
          clear e1 e2 e3 e4 e5 hne
          go_loop [10, 11, 12] (fun t j _ => ∃ i : Nat, 1 ≤ i ∧ i ≤ K + 1 ∧ j = .int .i64 i ∧ t = .int .u64 (qd N (K + 1 - i))) (fun _ j _ => K + 1 - (intOf j).toNat)
          case atStart => exact ⟨1, by omega, by omega, rfl, by rw [Nat.add_sub_cancel, HQ.out.1]⟩
          case round =>
            obtain ⟨i, hi1, hi2, rfl, rfl⟩ := hrel
            by_cases hlt : i ≤ K
            · have e1 := R1.out.1 i (by omega)
              rw [hdv_mid (show ¬ N < 31 by omega) hi1 (by rw [← HK.out]; exact hlt), ← HK.out] at e1
              have hib : (i : Int) < (K : Int) + 3 := by omega
              obtain ⟨o1, o2, o3, o4⟩ := oc_bd h2 (K - i)
              have p0 := qd_nonneg h2 (K + 1 - i)
              have p1 := qd_le h2 (K + 1 - i)
              have HX : Hid (qd N (K + 1 - (i + 1)) = qd N (K + 1 - i) * 128 + oc N (K - i) % 128) := by
                show _ = _
                rw [o4, show K + 1 - (i + 1) = K - i by omega, show K + 1 - i = (K - i) + 1 by omega, qd]
                omega
              generalize qd N (K + 1 - i) = x at p0 p1 HX ⊢
              have hand := and127 (x := oc N (K - i)) o1 (by omega)
              generalize oc N (K - i) = y at e1 o1 o2 o3 o4 HX hand ⊢
              by_cases hik : i < K
              · have o5 : 128 ≤ y := o3.2 (by omega)
                clear o3 o4
                go_wp2
                go_round
                case rel => exact ⟨i + 1, by omega, by omega, by go_num, by rw [HX.out, or64 p0 (by omega) (by omega) (by omega)]⟩
                case measure => simp [intOf]; omega
              · have o5 : y < 128 := by
                  rcases Int.lt_or_le y 128 with h | h
                  · exact h
                  · have := o3.1 h; omega
                clear o3 o4
                go_wp2
                go_round
                case rel => exact ⟨i + 1, by omega, by omega, by go_num, by rw [HX.out, or64 p0 (by omega) (by omega) (by omega)]⟩
                case measure => simp [intOf]; omega
            · obtain rfl : i = K + 1 := by omega
              rw [Nat.sub_self, show qd N 0 = N from rfl]
              go_wp2
              go_ret
              exact ⟨by simp, HB3.out _⟩
end Go.Proofs.Qxb6604383a
