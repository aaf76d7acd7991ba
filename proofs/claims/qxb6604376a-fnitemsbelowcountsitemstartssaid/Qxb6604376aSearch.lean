import Derived.Test.Qxb6604376aRows
import Derived.WalkKit
import Derived.WalkSpells
import Derived.LoopTactic
import Derived.Below
namespace Go.Proofs.Qxb6604376a
open Go.RowKit

theorem less_any (a b : Int) (w : World) :
    Calls Try.prog 64 #[.int .i64 a, .int .i64 b] w fun e w' => e = .returned (.bool (decide (a < b))) ∧ w' = w := by
  by_cases h : a < b
  · go_enter Try.func64, Try.ntmps64
    go_wp2
    go_ret
    exact ⟨by simp [h], rfl⟩
  · go_enter Try.func64, Try.ntmps64
    go_wp2
    go_ret
    exact ⟨by simp [h], rfl⟩

/-- How many of f 0 .. f (n - 1) lie below t. -/
def below (f : Nat → Int) (t : Int) : Nat → Nat
  | 0 => 0
  | n + 1 => below f t n + if f n < t then 1 else 0

theorem below_eq {f : Nat → Int} {t : Int} {r : Nat} (h1 : ∀ k, k < r → f k < t) : ∀ n, (∀ k, r ≤ k → k < n → ¬ f k < t) → r ≤ n → below f t n = r
  | 0, _, h => by simp [below]; omega
  | n + 1, h2, h => by
    by_cases e : r = n + 1
    · subst e
      have q : below f t n = n := below_eq (r := n) (fun k hk => h1 k (by omega)) n (fun k a b => by omega) (Nat.le_refl _)
      simp [below, q, h1 n (by omega)]
    · have q := below_eq h1 n (fun k a b => h2 k a (by omega)) (by omega)
      simp [below, q, h2 n (by omega) (by omega)]

/-- What slices.BinarySearch hands back: the place r; and a Bool that nobody here looks at. -/
def BsEnd (r : Nat) (e : Ending) : Prop := ∃ bb : Bool, e = .returned (.tuple #[.int .i64 (r : Int), .bool bb])

theorem BsEnd.of {r p : Nat} (h : r = p) (bb : Bool) : BsEnd r (.returned (.tuple #[.int .i64 (p : Int), .bool bb])) := ⟨bb, by rw [h]⟩

theorem nan65 (a : Int) (w : World) : Calls Try.prog 65 #[.int .i64 a] w fun e w' => e = .returned (.bool false) ∧ w' = w := by
  go_enter Try.func65, Try.ntmps65
  go_wp2
  go_ret
  exact ⟨rfl, rfl⟩

set_option maxHeartbeats 400000 in
theorem bs_any (b off n c : Nat) (f : Nat → Int) (t : Int) (w : World) (hn : n ≤ 65536) (hmono : ∀ i j, i ≤ j → j < n → f i ≤ f j)
    (hc : ∀ k, k < n → w.cell? ⟨b, off + k, none⟩ = some (.int .i64 (f k))) :
    Calls Try.prog 57 #[.slice (some ⟨b, off, none⟩) n c, .int .i64 t] w fun e w' => BsEnd (below f t n) e ∧ w' = w := by
  go_enter Try.func57, Try.ntmps57
  go_wp2
  go_loop [7, 8] (fun i j => ∃ p q : Nat, p ≤ q ∧ q ≤ n ∧ i = .int .i64 p ∧ j = .int .i64 q ∧ (∀ k, k < p → f k < t) ∧ (∀ k, q ≤ k → k < n → ¬ f k < t)) (fun i j => (intOf j).toNat - (intOf i).toNat)
  case atStart => exact ⟨0, n, by omega, by omega, rfl, rfl, fun k h => by omega, fun k h1 h2 => by omega⟩
  case round =>
    obtain ⟨p, q, hpq, hq, rfl, rfl, hlo, hhi⟩ := hrel
    have HL : Hid (∀ k, k < p → f k < t) := hlo
    have HH : Hid (∀ k, q ≤ k → k < n → ¬ f k < t) := hhi
    have HM : Hid (∀ i j, i ≤ j → j < n → f i ≤ f j) := hmono
    clear hlo hhi hmono
    by_cases hlt : p < q
    · have g := hc ((p + q) / 2) (by omega)
      clear hc
      by_cases ht : f ((p + q) / 2) < t
      · go_wp2_with (go_at_call 64; refine (less_any _ _ _).mono ?_; rintro e w' ⟨rfl, rfl⟩)
        go_round
        case rel =>
          refine ⟨(p + q) / 2 + 1, q, by omega, by omega, by go_num, rfl, fun k hk => ?_, fun k a b => by have := HH.out k a b; omega⟩
          have := HM.out k ((p + q) / 2) (by omega) (by omega)
          omega
        case measure => simp [intOf]; omega
      · go_wp2_with (go_at_call 64; refine (less_any _ _ _).mono ?_; rintro e w' ⟨rfl, rfl⟩)
        go_round
        case rel =>
          refine ⟨p, (p + q) / 2, by omega, by omega, rfl, by go_num, HL.out, fun k hk hk' => ?_⟩
          have := HM.out ((p + q) / 2) k (by omega) (by omega)
          omega
        case measure => simp [intOf]; omega
    · obtain rfl : p = q := by omega
      have hr : below f t n = p := below_eq HL.out n HH.out hq
      have HR : Hid (below f t n = p) := hr
      clear hr
      by_cases hp : p < n
      · have g := hc p hp
        clear hc
        by_cases he : f p = t
        · go_wp2_with (go_at_call 65; refine (nan65 _ _).mono ?_; rintro e w' ⟨rfl, rfl⟩)
          go_ret2
          exact ⟨BsEnd.of HR.out _, rfl⟩
        · go_wp2_with (go_at_call 65; refine (nan65 _ _).mono ?_; rintro e w' ⟨rfl, rfl⟩)
          go_ret2
          exact ⟨BsEnd.of HR.out _, rfl⟩
      · go_wp2_with fail
        go_ret2
        exact ⟨BsEnd.of HR.out _, rfl⟩

/-! ### unlap -/
/-- How many whole laps lie ahead of i. -/
def lapsOf (i lead n : Int) : Int := if i < lead then 0 else (i - lead) / (n - lead)
/-- Where i lies in the pass. -/
def placeOf (i lead n : Int) : Int := if i < lead then i else lead + (i - lead) % (n - lead)

theorem ret2_int {a b a' b' : Int} (h : a = a') (h' : b = b') : Ending.returned (.tuple #[.int .i64 a, .int .i64 b]) = .returned (.tuple #[.int .i64 a', .int .i64 b']) := by rw [h, h']
theorem laps_eq {i lead n : Int} (hl : lead ≤ i) : (i - lead) / (n - lead) = lapsOf i lead n := by
  rw [lapsOf, if_neg (by omega)]
theorem place_eq {i lead n : Int} (hl : lead ≤ i) (h0 : 0 ≤ lead) (h1 : lead < n) (h3 : 0 ≤ i) (h4 : i ≤ 9223372036854775807) : wrap64 (i - wrap64 ((i - lead) / (n - lead) * (n - lead))) = placeOf i lead n := by
  rw [placeOf, if_neg (by omega)]
  have e : (i - lead) / (n - lead) * (n - lead) = (i - lead) - (i - lead) % (n - lead) := by
    have := Int.mul_ediv_add_emod (i - lead) (n - lead)
    rw [Int.mul_comm] at this
    omega
  rw [e]
  have g1 := Int.emod_nonneg (i - lead) (b := n - lead) (by omega)
  have g2 : (i - lead) % (n - lead) ≤ i - lead := by
    have q1 : 0 ≤ (i - lead) / (n - lead) := Int.ediv_nonneg (by omega) (by omega)
    have q2 : 0 ≤ (i - lead) / (n - lead) * (n - lead) := Int.mul_nonneg q1 (by omega)
    omega
  generalize (i - lead) % (n - lead) = r at *
  unfold wrap64
  omega

set_option maxHeartbeats 400000 in
theorem unlap_any (i lead n : Int) (w : World) (h0 : 0 ≤ lead) (h1 : lead < n) (h2 : n ≤ 65536) (h3 : 0 ≤ i) (h4 : i ≤ 9223372036854775807) :
    Calls Try.prog 63 #[.int .i64 i, .int .i64 lead, .int .i64 n] w fun e w' => e = .returned (.tuple #[.int .i64 (placeOf i lead n), .int .i64 (lapsOf i lead n)]) ∧ w' = w := by
  by_cases hl : i < lead
  · have e1 : placeOf i lead n = i := by simp [placeOf, hl]
    have e2 : lapsOf i lead n = 0 := by simp [lapsOf, hl]
    rw [e1, e2]
    clear e1 e2
    go_enter Try.func63, Try.ntmps63
    go_wp2
    go_ret2
    exact ⟨rfl, rfl⟩
  · go_enter Try.func63, Try.ntmps63
    go_wp2
    go_ret2
    exact ⟨ret2_int (place_eq hl h0 h1 h3 h4) (laps_eq hl), rfl⟩
end Go.Proofs.Qxb6604376a
