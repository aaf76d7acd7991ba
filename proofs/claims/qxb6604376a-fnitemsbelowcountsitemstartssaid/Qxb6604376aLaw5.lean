import Derived.Test.Qxb6604376aPlain
import Derived.Test.Qxb6604376aBuild
namespace Go.Proofs.Qxb6604376a
open Go.RowKit
set_option linter.unusedVariables false

set_option maxRecDepth 100000 in
set_option maxHeartbeats 1000000 in
/-- The law on a row that holds numbers s. -/
theorem law5_row (b off n c : Nat) (s : Nat → Int) (loop first items m : Int) (w : World) (h1 : 1 ≤ n) (h2 : n ≤ 4096) (hb : b < w.heap.size) (hc : Row b off n s w)
    (hi : items ≤ 9223372036854775807) (hm : m ≤ 9223372036854775807) :
    Calls Try.prog 5 #[.slice (some ⟨b, off, none⟩) n c, .int .i64 loop, .int .i64 first, .int .i64 items, .int .i64 m] w fun e w' => e = .returned (.bool true) ∧ Below w.heap.size w w' := by
  have HC : Hid (Row b off n s w) := hc
  clear hc
  go_enter Try.func5, Try.ntmps5
  go_wp2_with fail
  refine (bytes15_any _ _ _ _ _ _ _ _ (by omega)).mono ?_
  rintro e wx ⟨rfl, hx⟩
  have hx := hx.symm
  subst hx
  go_wp2_with fail
  refine (segsFit_any b off n c s _ h1 h2 HC.out).mono ?_
  rintro e wx ⟨⟨bb, rfl, hbb⟩, hx⟩
  have hx := hx.symm
  subst hx
  cases bb with
  | false =>
    clear hbb
    go_wp2_with fail
    go_ret
    exact ⟨rfl, Below.refl _ _⟩
  | true =>
    have HF : Hid (Fit s n) := hbb rfl
    clear hbb
    by_cases c1 : loop < 0
    · go_wp2_with fail
      go_ret
      exact ⟨rfl, Below.refl _ _⟩
    by_cases c2 : (n : Int) ≤ loop
    · go_wp2_with fail
      go_ret
      exact ⟨rfl, Below.refl _ _⟩
    by_cases c3 : first < 0
    · go_wp2_with fail
      go_ret
      exact ⟨rfl, Below.refl _ _⟩
    by_cases c4 : items < 0
    · go_wp2_with fail
      go_ret
      exact ⟨rfl, Below.refl _ _⟩
    by_cases c5 : m < first
    · go_wp2_with fail
      go_ret
      exact ⟨rfl, Below.refl _ _⟩
    obtain ⟨lp, rfl⟩ := Int.eq_ofNat_of_zero_le (show 0 ≤ loop by omega)
    have hl : lp < n := by omega
    go_wp2_with fail
    have hF := HF.out.nat
    have hR := Row.nat HF.out HC.out
    refine (copyInts_any b off n c (fun k => (((s k).toNat : Nat) : Int)) _ h1 h2 hb hR).mono ?_
    rintro e w1 ⟨rfl, R1, B1, S1⟩
    have HR1 : Hid (Row w.heap.size 0 n (fun k => (((s k).toNat : Nat) : Int)) w1) := R1
    have HB1 : Hid (Below w.heap.size w w1) := B1
    have z1 : w.heap.size < w1.heap.size := by omega
    have HF' : Hid (Fit (fun k => (((s k).toNat : Nat) : Int)) n) := hF
    clear R1 B1 S1 hR hF HC
    go_wp2_with fail
    refine (build_any w.heap.size n n (fun k => (s k).toNat) lp first items _ HF'.out hl z1 HR1.out).mono ?_
    rintro e w2 ⟨ga, gp, gi, gf, cf, rfl, A2, P2, B2⟩
    have HA : Hid (IsAiring ga gp first items w2) := A2
    have HP : Hid (IsPass gp n lp (psum fun k => (((s k).toNat : Nat) : Int)) (psum (fun k => (((s k).toNat : Nat) : Int)) n) (some ⟨gi, 0, none⟩) n gf cf w2) := P2
    have HB2 : Hid (Below w1.heap.size w1 w2) := B2
    clear A2 P2 B2
    go_wp2_with fail
    refine (zzItemsBelow_any ga gp n lp (psum fun k => (((s k).toNat : Nat) : Int)) (psum (fun k => (((s k).toNat : Nat) : Int)) n) first items (some ⟨gi, 0, none⟩) n gf cf m _ HA.out HP.out hl (by omega)
      (HF'.out.nonneg (Nat.le_of_lt hl)) (HF'.out.lt hl (Nat.le_refl _)) HF'.out.total (fun i j a b => HF'.out.mono a (by omega)) (by omega) (by omega) hm).mono ?_
    rintro e w3 ⟨rfl, q, rfl⟩
    rw [model_eq HF'.out hl (show 0 ≤ m - first by omega)]
    go_wp2_with fail
    refine (model_any w.heap.size n n (fun k => (((s k).toNat : Nat) : Int)) lp items (m - first) _ HF'.out hl (by omega) hi (by omega) (by omega) (fun k hk => ?_)).mono ?_
    · show w2.cell? _ = _
      rw [HB2.out.cell (p := ⟨w.heap.size, 0 + k, none⟩) z1]; exact HR1.out k hk
    rintro e w4 ⟨rfl, rfl⟩
    go_wp2
    go_ret
    refine ⟨rfl, ?_⟩
    have hb2 := HB1.out.trans (HB2.out.mono (Nat.le_of_lt z1))
    exact ⟨hb2.os, hb2.tape, hb2.output, hb2.size, hb2.block⟩
end Go.Proofs.Qxb6604376a
