import Derived.Test.Qxb6604376aModel
namespace Go.Proofs.Qxb6604376a
open Go.RowKit
set_option linter.unusedVariables false

theorem psum_congr {s t : Nat → Int} : ∀ n, (∀ k, k < n → s k = t k) → psum s n = psum t n
  | 0, _ => rfl
  | n + 1, h => by simp only [psum]; rw [psum_congr n (fun k hk => h k (by omega)), h n (by omega)]

theorem Fit.toNat {s : Nat → Int} {n : Nat} (h : Fit s n) : ∀ k, k < n → s k = (((s k).toNat : Nat) : Int) := fun k hk => by have := (h.each k hk).1; omega
theorem Fit.nat {s : Nat → Int} {n : Nat} (h : Fit s n) : Fit (fun k => (((s k).toNat : Nat) : Int)) n :=
  ⟨h.pos, h.le, fun k hk => by have := h.each k hk; have := h.toNat k hk; omega, by rw [← psum_congr n h.toNat]; exact h.total⟩
theorem Row.nat {b off n : Nat} {s : Nat → Int} {w : World} (h : Fit s n) (hr : Row b off n s w) : Row b off n (fun k => (((s k).toNat : Nat) : Int)) w := fun k hk => by
  rw [hr k hk]; show _ = some (Value.int .i64 (((s k).toNat : Nat) : Int)); rw [← h.toNat k hk]

section
variable {s : Nat → Int} {n lp : Nat} (h : Fit s n) (hl : lp < n)

theorem items_zero (h : Fit s n) (hl : lp < n) : itemsOf (psum s) n lp (psum s n) 0 = 0 := by
  rw [model_eq h hl (Int.le_refl 0), modelOf, if_pos (h.nonneg (Nat.le_refl _))]
  have : below (psum s) 0 n = 0 := below_eq (r := 0) (fun k hk => by omega) n (fun k _ hk => by have := h.nonneg (j := k) (by omega); omega) (by omega)
  rw [this]; rfl

theorem items_whole (h : Fit s n) (hl : lp < n) : itemsOf (psum s) n lp (psum s n) (psum s n) = n := by
  rw [model_eq h hl (h.nonneg (Nat.le_refl _)), modelOf, if_pos (Int.le_refl _)]
  rw [below_all (fun k hk => h.lt hk (Nat.le_refl _))]

theorem items_lap (h : Fit s n) (hl : lp < n) {i : Int} (hi : psum s lp ≤ i) : itemsOf (psum s) n lp (psum s n) (i + (psum s n - psum s lp)) = itemsOf (psum s) n lp (psum s n) i + ((n : Int) - lp) := by
  have hLW := h.lt hl (Nat.le_refl _)
  unfold itemsOf lapsOf placeOf
  generalize psum s n = W at *
  generalize psum s lp = L at *
  rw [if_neg (by omega), if_neg (by omega), if_neg (by omega), if_neg (by omega)]
  have e : i + (W - L) - L = (i - L) + (W - L) * 1 := by omega
  rw [e, Int.add_mul_ediv_left _ _ (by omega), Int.add_mul_emod_self_left, Int.add_mul]
  omega

theorem below_step {f : Nat → Int} {t : Int} : ∀ n, (∀ i j, i < j → j < n → f i < f j) → below f (t + 1) n = below f t n ∨ below f (t + 1) n = below f t n + 1
  | 0, _ => Or.inl rfl
  | n + 1, hm => by
    rcases Int.lt_or_le (f n) t with c | c
    · have a1 : below f t n = n := below_all (fun k hk => by have := hm k n hk (by omega); omega)
      have a2 : below f (t + 1) n = n := below_all (fun k hk => by have := hm k n hk (by omega); omega)
      left
      simp only [below]; rw [if_pos (by omega), if_pos c, a1, a2]
    · by_cases c2 : f n = t
      · have a1 : below f t n = n := below_all (fun k hk => by have := hm k n hk (by omega); omega)
        have a2 : below f (t + 1) n = n := below_all (fun k hk => by have := hm k n hk (by omega); omega)
        right
        simp only [below]; rw [if_pos (by omega), if_neg (by omega), a1, a2]
      · have ih := below_step (f := f) (t := t) n (fun i j a b => hm i j a (by omega))
        simp only [below]; rw [if_neg (by omega), if_neg (by omega)]
        omega

theorem items_step (h : Fit s n) (hl : lp < n) {i : Int} (hi : 0 ≤ i) :
    itemsOf (psum s) n lp (psum s n) (i + 1) = itemsOf (psum s) n lp (psum s n) i ∨ itemsOf (psum s) n lp (psum s n) (i + 1) = itemsOf (psum s) n lp (psum s n) i + 1 := by
  have hLW := h.lt hl (Nat.le_refl _)
  have hL0 := h.nonneg (Nat.le_of_lt hl)
  have hst : ∀ t, below (psum s) (t + 1) n = below (psum s) t n ∨ below (psum s) (t + 1) n = below (psum s) t n + 1 := fun t => below_step n (fun a b c d => h.lt c (by omega))
  have hfull : below (psum s) (psum s n) n = n := below_all (fun k hk => h.lt hk (Nat.le_refl _))
  have hlead : below (psum s) (psum s lp) n = lp := below_eq (fun k hk => h.lt hk (Nat.le_of_lt hl)) n (fun k a b => by have := h.mono (i := lp) (j := k) a (by omega); omega) (Nat.le_of_lt hl)
  have key : itemsOf (psum s) n lp (psum s n) (i + 1) = lapsOf i (psum s lp) (psum s n) * ((n : Int) - lp) + (below (psum s) (placeOf i (psum s lp) (psum s n) + 1) n : Nat) := by
    unfold itemsOf lapsOf placeOf
    generalize psum s n = W at *
    generalize psum s lp = L at *
    by_cases c1 : i < L
    · rw [if_pos c1, if_pos c1]
      by_cases c2 : i + 1 < L
      · rw [if_pos c2, if_pos c2]
      · have e : i + 1 = L := by omega
        rw [if_neg c2, if_neg c2, e]
        have q1 : (L - L) / (W - L) = 0 := by simp
        have q2 : (L - L) % (W - L) = 0 := by simp
        rw [q1, q2, Int.add_zero]
    · rw [if_neg c1, if_neg c1, if_neg (by omega), if_neg (by omega)]
      have m0 := Int.emod_nonneg (i - L) (b := W - L) (by omega)
      have m1 := Int.emod_lt_of_pos (i - L) (b := W - L) (by omega)
      have md := Int.mul_ediv_add_emod (i - L) (W - L)
      by_cases c3 : (i - L) % (W - L) + 1 = W - L
      · have q1 : (i + 1 - L) / (W - L) = (i - L) / (W - L) + 1 := by
          have e : i + 1 - L = (W - L) * ((i - L) / (W - L) + 1) := by rw [Int.mul_add]; omega
          rw [e, Int.mul_ediv_cancel_left _ (by omega)]
        have q2 : (i + 1 - L) % (W - L) = 0 := by
          have e : i + 1 - L = (W - L) * ((i - L) / (W - L) + 1) := by rw [Int.mul_add]; omega
          rw [e, Int.mul_emod_right]
        rw [q1, q2, show L + (i - L) % (W - L) + 1 = W by omega, Int.add_zero, hlead, hfull, Int.add_mul]
        omega
      · have e : i + 1 - L = ((i - L) % (W - L) + 1) + (W - L) * ((i - L) / (W - L)) := by omega
        have q1 : (i + 1 - L) / (W - L) = (i - L) / (W - L) := by
          rw [e, Int.add_mul_ediv_left _ _ (by omega), Int.ediv_eq_zero_of_lt (by omega) (by omega), Int.zero_add]
        have q2 : (i + 1 - L) % (W - L) = (i - L) % (W - L) + 1 := by
          rw [e, Int.add_mul_emod_self_left, Int.emod_eq_of_lt (by omega) (by omega)]
        rw [q1, q2, Int.add_assoc]
  rw [key]
  rcases hst (placeOf i (psum s lp) (psum s n)) with c | c
  · left; rw [c]; rfl
  · right; rw [c]; unfold itemsOf; omega
end
end Go.Proofs.Qxb6604376a
