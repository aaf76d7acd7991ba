import Derived.Test.Qxb6604376aSegs
namespace Go.Proofs.Qxb6604376a
open Go.RowKit
set_option linter.unusedVariables false

/-! ### The plain law: no Go in sight -/
theorem Fit.lt {s : Nat → Int} {n : Nat} (h : Fit s n) {i : Nat} : ∀ {j : Nat}, i < j → j ≤ n → psum s i < psum s j
  | j + 1, hij, hj => by
    have e := (h.each j (by omega)).1
    by_cases q : i = j
    · subst q; simp only [psum]; omega
    · have := Fit.lt h (i := i) (j := j) (by omega) (by omega)
      simp only [psum]; omega
theorem Fit.mono {s : Nat → Int} {n : Nat} (h : Fit s n) {i j : Nat} (hij : i ≤ j) (hj : j ≤ n) : psum s i ≤ psum s j := by
  by_cases q : i = j
  · subst q; omega
  · have := h.lt (i := i) (j := j) (by omega) hj; omega
theorem Fit.nonneg {s : Nat → Int} {n : Nat} (h : Fit s n) {j : Nat} (hj : j ≤ n) : 0 ≤ psum s j := by
  have := h.mono (i := 0) (j := j) (by omega) hj
  simpa [psum] using this
theorem Fit.le_total {s : Nat → Int} {n : Nat} (h : Fit s n) {j : Nat} (hj : j ≤ n) : psum s j ≤ 65536 := Int.le_trans (h.mono hj (Nat.le_refl _)) h.total

theorem below_le (f : Nat → Int) (t : Int) : ∀ n, below f t n ≤ n
  | 0 => Nat.le_refl _
  | n + 1 => by have := below_le f t n; simp only [below]; split <;> omega
theorem below_add (f : Nat → Int) (t : Int) (a : Nat) : ∀ m, below f t (a + m) = below f t a + below (fun j => f (a + j)) t m
  | 0 => rfl
  | m + 1 => by
    have := below_add f t a m
    show below f t (a + m) + (if f (a + m) < t then 1 else 0) = _
    simp only [below]; omega
theorem below_congr {f g : Nat → Int} {t u : Int} : ∀ n, (∀ k, k < n → (f k < t ↔ g k < u)) → below f t n = below g u n
  | 0, _ => rfl
  | n + 1, h => by
    have := below_congr n (fun k hk => h k (by omega))
    have q := h n (by omega)
    simp only [below, this]
    by_cases c : f n < t
    · rw [if_pos c, if_pos (q.1 c)]
    · rw [if_neg c, if_neg (fun x => c (q.2 x))]

/-- What the Go model counts. -/
def modelOf (s : Nat → Int) (n lp : Nat) (i : Int) : Int :=
  if i ≤ psum s n then (below (psum s) i n : Nat)
  else n + (i - psum s n) / (psum s n - psum s lp) * ((n : Int) - lp) + (below (fun j => psum s (lp + j) - psum s lp) ((i - psum s n) % (psum s n - psum s lp)) (n - lp) : Nat)

theorem below_all {f : Nat → Int} {t : Int} {n : Nat} (h : ∀ k, k < n → f k < t) : below f t n = n := below_eq h n (fun k a b => by omega) (Nat.le_refl _)

theorem model_eq {s : Nat → Int} {n lp : Nat} (h : Fit s n) (hl : lp < n) {i : Int} (hi : 0 ≤ i) : itemsOf (psum s) n lp (psum s n) i = modelOf s n lp i := by
  have hLW := h.lt hl (Nat.le_refl _)
  have hL0 := h.nonneg (Nat.le_of_lt hl)
  unfold itemsOf modelOf
  have hsplit : ∀ r : Int, 0 ≤ r → (below (psum s) (psum s lp + r) n : Int) = lp + (below (fun j => psum s (lp + j) - psum s lp) r (n - lp) : Nat) := by
    intro r hr
    have e1 : below (psum s) (psum s lp + r) n = below (psum s) (psum s lp + r) lp + below (fun j => psum s (lp + j)) (psum s lp + r) (n - lp) := by
      have := below_add (psum s) (psum s lp + r) lp (n - lp)
      rwa [show lp + (n - lp) = n by omega] at this
    have e2 : below (psum s) (psum s lp + r) lp = lp := below_all (fun k hk => by have := h.lt hk (Nat.le_of_lt hl); omega)
    have e3 : below (fun j => psum s (lp + j)) (psum s lp + r) (n - lp) = below (fun j => psum s (lp + j) - psum s lp) r (n - lp) := below_congr _ (fun k hk => by constructor <;> intro q <;> omega)
    rw [e1, e2, e3]; omega
  have hz : below (fun j => psum s (lp + j) - psum s lp) 0 (n - lp) = 0 := by
    refine below_eq (r := 0) (fun k hk => by omega) _ (fun k hk hk' => ?_) (by omega)
    have := h.mono (i := lp) (j := lp + k) (by omega) (by omega)
    omega
  generalize hW : psum s n = W at *
  generalize hLe : psum s lp = L at *
  by_cases c1 : i < L
  · rw [lapsOf, placeOf, if_pos c1, if_pos c1, if_pos (by omega)]; omega
  rw [lapsOf, placeOf, if_neg c1, if_neg c1]
  by_cases c2 : i < W
  · have q1 : (i - L) / (W - L) = 0 := Int.ediv_eq_zero_of_lt (by omega) (by omega)
    have q2 : (i - L) % (W - L) = i - L := Int.emod_eq_of_lt (by omega) (by omega)
    rw [q1, q2, if_pos (by omega), show L + (i - L) = i by omega]; omega
  have q1 : (i - L) / (W - L) = (i - W) / (W - L) + 1 := by
    have : i - L = (i - W) + (W - L) * 1 := by omega
    rw [this, Int.add_mul_ediv_left _ _ (by omega)]
  have q2 : (i - L) % (W - L) = (i - W) % (W - L) := by
    have : i - L = (i - W) + (W - L) * 1 := by omega
    rw [this, Int.add_mul_emod_self_left]
  rw [q1, q2, hsplit _ (Int.emod_nonneg _ (by omega))]
  by_cases c3 : i = W
  · subst c3
    have q3 : (i - i) / (i - L) = 0 := by simp
    have q4 : (i - i) % (i - L) = 0 := by simp
    rw [q3, q4, if_pos (by omega), hz]
    have q5 : below (psum s) i n = n := below_all (fun k hk => by have := h.lt hk (Nat.le_refl _); omega)
    rw [q5]; omega
  · rw [if_neg (by omega), Int.add_mul]; omega

/-! ### zzItemsModel -/
theorem int_eq {a b : Int} (h : a = b) : Value.int .i64 a = .int .i64 b := by rw [h]
theorem wrap64_4 (a b c d : Int) : wrap64 (wrap64 (wrap64 (a + b) + wrap64 c) + d) = wrap64 (a + (b + c + d)) := by unfold wrap64; omega

set_option maxRecDepth 100000 in
set_option maxHeartbeats 1000000 in
theorem model_any (b n c : Nat) (s : Nat → Int) (lp : Nat) (items i : Int) (w : World) (hF : Fit s n) (hl : lp < n) (hi0 : 0 ≤ items) (hi1 : items ≤ 9223372036854775807) (h0 : 0 ≤ i) (h1 : i ≤ 9223372036854775807) (hc : Row b 0 n s w) :
    Calls Try.prog 20 #[.slice (some ⟨b, 0, none⟩) n c, .int .i64 lp, .int .i64 items, .int .i64 i] w fun e w' => e = .returned (.int .i64 (wrap64 (items + modelOf s n lp i))) ∧ w' = w := by
  have hn := hF.le
  have HF : Hid (Fit s n) := hF
  clear hF
  go_enter Try.func20, Try.ntmps20
  go_wp2
  go_loop [10, 11, 30] (fun t l j => ∃ k : Nat, k ≤ n ∧ j = .int .i64 k ∧ t = .int .i64 (psum s k) ∧ l = .int .i64 (if lp < k then psum s lp else 0)) (fun _ _ j => n - (intOf j).toNat)
  case atStart => exact ⟨0, by omega, rfl, rfl, rfl⟩
  case round =>
    obtain ⟨k, hk, rfl, rfl, rfl⟩ := hrel
    have p0 := HF.out.nonneg hk
    have p1 := HF.out.le_total hk
    by_cases hlt : k < n
    · have g := hc k hlt
      have s1 := (HF.out.each k hlt)
      rw [Nat.zero_add] at g
      by_cases ek : k = lp
      · subst ek
        have eb : ((k : Int) == (k : Int)) = true := by simp
        go_wp2
        go_round
        case rel => exact ⟨k + 1, by omega, by go_num, rfl, by simp⟩
        case measure => simp [intOf]; omega
      · have eb : ((k : Int) == (lp : Int)) = false := by simp; omega
        have eq : (if lp < k then psum s lp else 0) = (if lp < k + 1 then psum s lp else 0) := by
          by_cases q : lp < k
          · rw [if_pos q, if_pos (by omega)]
          · rw [if_neg q, if_neg (by omega)]
        have HQ : Hid ((if lp < k then psum s lp else 0) = (if lp < k + 1 then psum s lp else 0)) := eq
        clear eq
        generalize (if lp < k then psum s lp else 0) = x at HQ ⊢
        go_wp2
        go_round
        case rel => exact ⟨k + 1, by omega, by go_num, rfl, by rw [HQ.out]⟩
        case measure => simp [intOf]; omega
    · obtain rfl : k = n := by omega
      rw [if_pos hl]
      have hLW := HF.out.lt hl (Nat.le_refl _)
      have hL0 := HF.out.nonneg (Nat.le_of_lt hl)
      by_cases ci : i ≤ psum s k
      · have HM : Hid (modelOf s k lp i = (below (psum s) i k : Nat)) := by show modelOf s k lp i = _; rw [modelOf, if_pos ci]
        go_wp2
        go_loop [14, 15, 48] (fun cc t j => ∃ m : Nat, m ≤ k ∧ j = .int .i64 m ∧ t = .int .i64 (psum s m) ∧ cc = .int .i64 (below (psum s) i m : Nat)) (fun _ _ j => k - (intOf j).toNat)
        case atStart => exact ⟨0, by omega, rfl, rfl, rfl⟩
        case round =>
          obtain ⟨m, hm, rfl, rfl, rfl⟩ := hrel
          have p2 := HF.out.nonneg hm
          have p3 := HF.out.le_total hm
          have p4 := below_le (psum s) i m
          by_cases hlt2 : m < k
          · have g := hc m hlt2
            have s1 := (HF.out.each m hlt2)
            rw [Nat.zero_add] at g
            by_cases ct : psum s m < i
            · go_wp2
              go_round
              case rel => exact ⟨m + 1, by omega, by go_num, rfl, by simp [below, ct]⟩
              case measure => simp [intOf]; omega
            · go_wp2
              go_round
              case rel => exact ⟨m + 1, by omega, by go_num, rfl, by simp only [below]; rw [if_neg (by omega), Nat.add_zero]⟩
              case measure => simp [intOf]; omega
          · obtain rfl : m = k := by omega
            go_wp2
            go_ret
            exact ⟨ret_int (by rw [HM.out]), rfl⟩
      · have HM : Hid (modelOf s k lp i = k + (i - psum s k) / (psum s k - psum s lp) * ((k : Int) - lp) + (below (fun j => psum s (lp + j) - psum s lp) ((i - psum s k) % (psum s k - psum s lp)) (k - lp) : Nat)) := by
          show modelOf s k lp i = _; rw [modelOf, if_neg ci]
        have hl' : (lp : Int) < (k : Int) := by omega
        go_wp2
        have r0 := Int.emod_nonneg (i - psum s k) (b := psum s k - psum s lp) (by omega)
        have r1 := Int.emod_lt_of_pos (i - psum s k) (b := psum s k - psum s lp) (by omega)
        generalize (i - psum s k) % (psum s k - psum s lp) = rest at HM r0 r1 ⊢
        generalize (i - psum s k) / (psum s k - psum s lp) = full at HM ⊢
        go_loop [23, 24, 25] (fun cc t j => ∃ m : Nat, lp + m ≤ k ∧ j = .int .i64 ((lp + m : Nat) : Int) ∧ t = .int .i64 (psum s (lp + m) - psum s lp) ∧ cc = .int .i64 (below (fun j => psum s (lp + j) - psum s lp) rest m : Nat)) (fun _ _ j => k - (intOf j).toNat)
        case atStart => exact ⟨0, by omega, rfl, by simp, rfl⟩
        case round =>
          obtain ⟨m, hm, rfl, rfl, rfl⟩ := hrel
          have p2 := HF.out.nonneg hm
          have p3 := HF.out.le_total hm
          have p4 := below_le (fun j => psum s (lp + j) - psum s lp) rest m
          have p5 := HF.out.mono (i := lp) (j := lp + m) (by omega) hm
          by_cases hlt2 : lp + m < k
          · have g := hc (lp + m) hlt2
            have s1 := (HF.out.each (lp + m) hlt2)
            rw [Nat.zero_add] at g
            have HS : Hid (below (fun j => psum s (lp + j) - psum s lp) rest (m + 1) = below (fun j => psum s (lp + j) - psum s lp) rest m + if psum s (lp + m) - psum s lp < rest then 1 else 0) := rfl
            generalize below (fun j => psum s (lp + j) - psum s lp) rest m = r at HS p4 ⊢
            by_cases ct : psum s (lp + m) - psum s lp < rest
            · go_wp2
              go_round
              case rel => exact ⟨m + 1, by omega, by go_num, int_eq (by rw [← Nat.add_assoc]; simp only [psum]; omega), by rw [HS.out, if_pos ct]; go_num⟩
              case measure => simp [intOf]; omega
            · go_wp2
              go_round
              case rel => exact ⟨m + 1, by omega, by go_num, int_eq (by rw [← Nat.add_assoc]; simp only [psum]; omega), by rw [HS.out, if_neg (by omega)]; rfl⟩
              case measure => simp [intOf]; omega
          · obtain rfl : k = lp + m := by omega
            rw [show lp + m - lp = m by omega] at HM
            go_wp2
            go_ret
            exact ⟨ret_int (by rw [HM.out]; exact wrap64_4 _ _ _ _), rfl⟩
end Go.Proofs.Qxb6604376a
