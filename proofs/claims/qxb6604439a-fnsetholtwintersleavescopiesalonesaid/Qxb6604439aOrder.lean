import Ieee.Arith
import GoSem.Op.Equal
namespace Go.Proofs.Qxb6604439a
open Ieee
set_option linter.unusedVariables false

/-! ### How floats stand to each other: a total preorder on what is no NaN. No Go in sight. -/

theorem signed_shift (s : Bool) (m u d : Nat) : signed s m (u + d) = signed s m u * 2 ^ d := by
  unfold signed
  have e : m <<< (u + d) = (m <<< u) * 2 ^ d := by rw [Nat.shiftLeft_add, Nat.shiftLeft_eq (m <<< u) d]
  cases s <;> simp [e, Int.neg_mul]

theorem compare_scale (x y : Int) (d : Nat) : compare (x * 2 ^ d) (y * 2 ^ d) = compare x y := by
  have hp : (0 : Int) < 2 ^ d := Int.pow_pos (by decide)
  simp only [compare, compareOfLessAndEq]
  by_cases h1 : x < y
  · rw [if_pos h1, if_pos (Int.mul_lt_mul_of_pos_right h1 hp)]
  · have h1' : ¬ x * 2 ^ d < y * 2 ^ d := fun h => h1 (Int.lt_of_mul_lt_mul_right h (Int.le_of_lt hp))
    rw [if_neg h1, if_neg h1']
    by_cases h2 : x = y
    · subst h2; simp
    · have h2' : ¬ x * 2 ^ d = y * 2 ^ d := fun h => h2 (Int.eq_of_mul_eq_mul_right (Int.ne_of_gt hp) h)
      rw [if_neg h2, if_neg h2']

/-- Two numbers compared at whatever base below both. -/
theorem order_at (s t : Bool) (m n : Nat) (i j b : Int) (hi : b ≤ i) (hj : b ≤ j) :
    Datum.order (.number s m i) (.number t n j) = some (compare (signed s m (i - b).toNat) (signed t n (j - b).toNat)) := by
  simp only [Datum.order]
  have h1 : (i - b).toNat = (i - min i j).toNat + (min i j - b).toNat := by omega
  have h2 : (j - b).toNat = (j - min i j).toNat + (min i j - b).toNat := by omega
  rw [h1, h2, signed_shift, signed_shift, compare_scale]

/-- What a datum is worth at base b: minus and plus infinity lie outside. -/
def rank (b : Int) : Datum → Int × Int
  | .infinity s => (if s then -1 else 1, 0)
  | .number s m i => (0, signed s m (i - b).toNat)
  | .nan .. => (0, 0)
def fits (b : Int) : Datum → Prop
  | .infinity _ => True
  | .number _ _ i => b ≤ i
  | .nan .. => False
def cmp2 (p q : Int × Int) : Ordering := if p.1 < q.1 then .lt else if q.1 < p.1 then .gt else if p.2 < q.2 then .lt else if p.2 = q.2 then .eq else .gt

theorem compare_int (x y : Int) : compare x y = if x < y then .lt else if x = y then .eq else .gt := rfl

theorem order_rank {b : Int} {x y : Datum} (hx : fits b x) (hy : fits b y) : Datum.order x y = some (cmp2 (rank b x) (rank b y)) := by
  match x, y, hx, hy with
  | .infinity s, .infinity t, _, _ => cases s <;> cases t <;> rfl
  | .infinity s, .number t n j, _, _ => cases s <;> rfl
  | .number s m i, .infinity t, _, _ => cases t <;> rfl
  | .number s m i, .number t n j, hx, hy =>
    rw [order_at s t m n i j b hx hy, compare_int]
    simp only [cmp2, rank, Int.lt_irrefl, if_false]
    rfl

theorem fits_mono {b c : Int} (h : c ≤ b) {x : Datum} (hx : fits b x) : fits c x := by
  cases x with
  | number s m i => exact Int.le_trans h hx
  | infinity s => trivial
  | nan s f => exact hx
theorem fits_some {x : Datum} (h : x.isNaN = false) : ∃ b, fits b x := by
  cases x with
  | number s m i => exact ⟨i, Int.le_refl _⟩
  | infinity s => exact ⟨0, trivial⟩
  | nan s f => cases h
theorem order_nan {x y : Datum} (h : x.isNaN = true ∨ y.isNaN = true) : Datum.order x y = none := by
  cases x <;> cases y <;> simp_all [Datum.order, Datum.isNaN]

theorem fits2 {x y : Datum} (hx : x.isNaN = false) (hy : y.isNaN = false) : ∃ b, fits b x ∧ fits b y := by
  obtain ⟨a, ha⟩ := fits_some hx
  obtain ⟨b, hb⟩ := fits_some hy
  exact ⟨min a b, fits_mono (by omega) ha, fits_mono (by omega) hb⟩
theorem fits3 {x y z : Datum} (hx : x.isNaN = false) (hy : y.isNaN = false) (hz : z.isNaN = false) : ∃ b, fits b x ∧ fits b y ∧ fits b z := by
  obtain ⟨a, ha, ha'⟩ := fits2 hx hy
  obtain ⟨b, hb⟩ := fits_some hz
  exact ⟨min a b, fits_mono (by omega) ha, fits_mono (by omega) ha', fits_mono (by omega) hb⟩

section
variable (f : Format)
/-- What Go's '<=', '<', '>', '==' answer on floats. -/
def leB (x y : Nat) : Bool := f.order x y == some .lt || f.order x y == some .eq
def ltB (x y : Nat) : Bool := f.order x y == some .lt
def gtB (x y : Nat) : Bool := f.order x y == some .gt
def eqB (x y : Nat) : Bool := f.order x y == some .eq
def nanB (x : Nat) : Bool := (f.read x).isNaN
variable {f}

theorem none_of {x y : Nat} (h : nanB f x = true ∨ nanB f y = true) : f.order x y = none := order_nan h

/-- The four answers on two floats, by one number each. -/
theorem answers2 {x y : Nat} (hx : nanB f x = false) (hy : nanB f y = false) : ∃ p q : Int × Int,
    f.order x y = some (cmp2 p q) ∧ f.order y x = some (cmp2 q p) ∧ f.order x x = some (cmp2 p p) ∧ f.order y y = some (cmp2 q q) := by
  obtain ⟨b, h1, h2⟩ := fits2 hx hy
  exact ⟨_, _, order_rank h1 h2, order_rank h2 h1, order_rank h1 h1, order_rank h2 h2⟩
theorem answers3 {x y z : Nat} (hx : nanB f x = false) (hy : nanB f y = false) (hz : nanB f z = false) : ∃ p q r : Int × Int,
    f.order x y = some (cmp2 p q) ∧ f.order y z = some (cmp2 q r) ∧ f.order x z = some (cmp2 p r) := by
  obtain ⟨b, h1, h2, h3⟩ := fits3 hx hy hz
  exact ⟨_, _, _, order_rank h1 h2, order_rank h2 h3, order_rank h1 h3⟩

theorem le_nan {x y : Nat} (h : leB f x y = true) : nanB f x = false ∧ nanB f y = false := by
  cases hx : nanB f x <;> cases hy : nanB f y <;> simp_all [leB, none_of]
theorem le_trans {x y z : Nat} (h1 : leB f x y = true) (h2 : leB f y z = true) : leB f x z = true := by
  obtain ⟨a, b⟩ := le_nan h1
  obtain ⟨_, c⟩ := le_nan h2
  obtain ⟨p, q, r, e1, e2, e3⟩ := answers3 a b c
  simp only [leB, e1, e2, e3, cmp2] at *
  (repeat' split at h1) <;> (repeat' split at h2) <;> (repeat' split) <;> simp_all <;> omega
theorem le_refl {x : Nat} (h : nanB f x = false) : leB f x x = true := by
  obtain ⟨p, q, e1, e2, e3, e4⟩ := answers2 h h
  simp only [leB, e3, cmp2]
  (repeat' split) <;> simp_all <;> omega
/-- Two floats that are no NaN: one of three. -/
theorem three {x y : Nat} (hx : nanB f x = false) (hy : nanB f y = false) :
    (f.order x y = some .lt ∧ f.order y x = some .gt) ∨ (f.order x y = some .eq ∧ f.order y x = some .eq) ∨ (f.order x y = some .gt ∧ f.order y x = some .lt) := by
  obtain ⟨p, q, e1, e2, e3, e4⟩ := answers2 hx hy
  rw [e1, e2]
  clear e1 e2 e3 e4 hx hy
  rcases Int.lt_trichotomy p.1 q.1 with h | h | h
  · left; constructor <;> (unfold cmp2; (repeat' split) <;> first | rfl | omega)
  · rcases Int.lt_trichotomy p.2 q.2 with g | g | g
    · left; constructor <;> (unfold cmp2; (repeat' split) <;> first | rfl | omega)
    · right; left; constructor <;> (unfold cmp2; (repeat' split) <;> first | rfl | omega)
    · right; right; constructor <;> (unfold cmp2; (repeat' split) <;> first | rfl | omega)
  · right; right; constructor <;> (unfold cmp2; (repeat' split) <;> first | rfl | omega)
theorem self_eq {x : Nat} (h : nanB f x = false) : f.order x x = some .eq := by
  rcases three h h with ⟨a, b⟩ | ⟨a, b⟩ | ⟨a, b⟩
  · rw [a] at b; cases b
  · exact a
  · rw [a] at b; cases b
end
end Go.Proofs.Qxb6604439a
