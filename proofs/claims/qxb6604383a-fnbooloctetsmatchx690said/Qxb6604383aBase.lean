import Derived.Test.Qxb6604383aRows
import Derived.WalkKit
import Derived.WalkSpells
import Derived.WalkLawsBesides
import Derived.LoopTactic
import Derived.Below
import Derived.OwnWalk
namespace Go.Proofs.Qxb6604383a
open Go.RowKit
set_option linter.unusedVariables false

theorem Try.info5 : (Try.prog.info? 5).map (fun i => (i.zero, i.size, i.bytes)) = some (some (.int .u8 0), 1, 1) := by kernel_rfl

/-- N shifted right by j digits of 7 bits. -/
def qd (N : Int) : Nat → Int
  | 0 => N
  | j + 1 => qd N j / 128
theorem qd_nonneg {N : Int} (h : 0 ≤ N) : ∀ j, 0 ≤ qd N j
  | 0 => h
  | j + 1 => by have := qd_nonneg h j; simp only [qd]; omega
theorem qd_le {N : Int} (h : 0 ≤ N) : ∀ j, qd N j ≤ N
  | 0 => Int.le_refl _
  | j + 1 => by have := qd_nonneg h j; have := qd_le h j; simp only [qd]; omega
theorem qd_pow (N : Int) : ∀ j : Nat, qd N j = N / 2 ^ (7 * j)
  | 0 => by simp [qd]
  | j + 1 => by
    rw [qd, qd_pow N j, Int.ediv_ediv_of_nonneg (Int.le_of_lt (Int.pow_pos (by decide)))]
    congr 1
    rw [Nat.mul_add, Int.pow_add]
    rfl

/-- The octet for digit i: its top bit says that more follow. -/
def oc (N : Int) (i : Nat) : Int := (if 0 < i then 128 else 0) + qd N i % 128
/-- The octets of N in D digits, the high one first; the first t of them. -/
def octs (N : Int) (D t : Nat) : List Value := (List.range t).map fun u => Value.int .u8 (oc N (D - 1 - u))
theorem octs_length (N : Int) (D t : Nat) : (octs N D t).length = t := by simp [octs]
theorem octs_succ (N : Int) (D t : Nat) : octs N D (t + 1) = octs N D t ++ [Value.int .u8 (oc N (D - 1 - t))] := by simp [octs, List.range_succ]

theorem and127 {x : Int} (h0 : 0 ≤ x) (h1 : x < 256) : bits .and .u8 x 127 = x % 128 := by
  have h : ∀ y : Fin 256, bits .and .u8 ((y.val : Nat) : Int) 127 = ((y.val : Nat) : Int) % 128 := by decide +kernel
  obtain ⟨n, rfl⟩ := Int.eq_ofNat_of_zero_le h0
  exact h ⟨n, by omega⟩
theorem or128 {x : Int} (h0 : 0 ≤ x) (h1 : x < 128) : bits .or .u8 x 128 = x + 128 := by
  have h : ∀ y : Fin 128, bits .or .u8 ((y.val : Nat) : Int) 128 = ((y.val : Nat) : Int) + 128 := by decide +kernel
  obtain ⟨n, rfl⟩ := Int.eq_ofNat_of_zero_le h0
  exact h ⟨n, by omega⟩
theorem oc_hi {N : Int} {i : Nat} (h : 0 < i) (h0 : 0 ≤ N) : bits .or .u8 (bits .and .u8 (N / 2 ^ (7 * i) % 256) 127) 128 = oc N i := by
  rw [and127 (by omega) (by omega), or128 (by omega) (by omega), oc, if_pos h, qd_pow]
  generalize N / 2 ^ (7 * i) = x
  omega
theorem oc_lo {N : Int} (h0 : 0 ≤ N) : bits .and .u8 (N % 256) 127 = oc N 0 := by
  rw [and127 (by omega) (by omega), oc, if_neg (by omega), qd]
  omega
theorem oc_hi' {N : Int} {j t : Nat} (h : t < j) (h0 : 0 ≤ N) : bits .or .u8 (bits .and .u8 (N / 2 ^ (7 * (j - t)) % 256) 127) 128 = oc N (j + 1 - 1 - t) := by
  rw [oc_hi (by omega) h0]; congr 1

theorem oc_lo' {N : Int} {j : Nat} (h0 : 0 ≤ N) : bits .and .u8 (N % 256) 127 = oc N (j + 1 - 1 - j) := by
  rw [oc_lo h0]; congr 1; omega

/-- What base128 and its callers leave: a row of their own from 'base' on; nothing below 'base' has turned. -/
structure Own (base : Nat) (v : Value) (xs : List Value) (w w' : World) : Prop where
  own : w'.ownsRow base 5 1 v xs.length xs
  bel : Below base w w'

theorem Own.grow {base : Nat} {v v' : Value} {xs : List Value} {x : Value} {w wr w1 : World} (J : Own base v xs w wr) (hb : base ≤ wr.heap.size) {o : Obj} (h1 : w1.ownsRow base 5 1 v' (xs.length + 1) (xs ++ [x])) (h2 : (wr.alloc o).grownBy w1 v.ownBlock) : Own base v' (xs ++ [x]) w w1 := by
  refine ⟨by simpa using h1, (J.bel.alloc hb o).grown h2 (by simp; omega) (fun k hk => (J.own.lt k hk).1)⟩

set_option maxRecDepth 100000 in
set_option maxHeartbeats 1000000 in
theorem base128_any (N : Int) (v : Value) (xs : List Value) (base : Nat) (w : World) (h0 : 0 ≤ N) (h1 : N < 4294967296) (hb : base ≤ w.heap.size) (hn : xs.length ≤ 100) (hown : w.ownsRow base 5 1 v xs.length xs) :
    Calls Try.prog 10 #[v, .int .i64 N] w fun e w' => ∃ (v' : Value) (D : Nat), e = .returned v' ∧ 1 ≤ D ∧ D ≤ 5 ∧ (D = 1 ∨ 1 ≤ qd N (D - 1)) ∧ qd N D = 0 ∧ Own base v' (xs ++ octs N D D) w w' := by
  have q5 : qd N 5 = 0 := by simp only [qd]; omega
  have Q5 : Hid (qd N 5 = 0) := q5
  have HO : Hid (w.ownsRow base 5 1 v xs.length xs) := hown
  clear q5 hown
  go_enter Try.func10, Try.ntmps10
  go_wp2_with fail
  go_loop [5, 6] (fun sz m => ∃ j : Nat, j ≤ 4 ∧ sz = .int .i64 (j + 1 : Nat) ∧ m = .int .i64 (qd N (j + 1)) ∧ (j = 0 ∨ 1 ≤ qd N j)) (fun sz _ => 6 - (intOf sz).toNat)
  case atStart => exact ⟨0, by omega, rfl, rfl, Or.inl rfl⟩
  case round =>
    obtain ⟨j, hj, rfl, rfl, hN⟩ := hrel
    have p0 := qd_nonneg h0 (j + 1)
    have p1 := qd_le h0 (j + 1)
    have HN : Hid (j = 0 ∨ 1 ≤ qd N j) := hN
    clear hN
    by_cases hc : 0 < qd N (j + 1)
    · have hj4 : j < 4 := by
        rcases Nat.lt_or_ge j 4 with h | h
        · exact h
        · obtain rfl : j = 4 := by omega
          have : qd N (4 + 1) = 0 := Q5.out
          omega
      go_wp2_with fail
      go_round
      case rel => exact ⟨j + 1, by omega, by go_num, rfl, Or.inr (by omega)⟩
      case measure => simp [intOf]; omega
    · have HZ : Hid (qd N (j + 1) = 0) := by show _ = _; omega
      go_wp2_with fail
      go_loopw [0, 7, 8] (fun u i _ wr => ∃ t : Nat, t ≤ j + 1 ∧ i = .int .i64 ((j : Int) - t) ∧ Own base u (xs ++ octs N (j + 1) t) w wr) (fun _ i _ _ => (intOf i + 1).toNat)
      case atStart => exact ⟨0, by omega, by simp, by simpa [octs] using (⟨HO.out, Below.refl _ _⟩ : Own base v xs w w)⟩
      case round =>
        obtain ⟨t, ht, rfl, J⟩ := hrel
        have HJ : Hid (Own base u0 (xs ++ octs N (j + 1) t) w wr) := J
        have hsz := J.bel.size
        have hlen : (xs ++ octs N (j + 1) t).length = xs.length + t := by rw [List.length_append, octs_length]
        have HLEN : Hid ((xs ++ octs N (j + 1) t).length = xs.length + t) := hlen
        have hown := J.own
        clear J hlen
        obtain ⟨i0, hi, hz0, hz1, hz2⟩ := info_parts Try.info5
        have HI : Hid (Try.prog.info? 5 = some i0 ∧ i0.zero = some (.int .u8 0) ∧ i0.size = 1 ∧ i0.bytes = 1) := ⟨hi, hz0, hz1, hz2⟩
        have HW : Hid (wr.ownsRow base 5 1 u0 (xs ++ octs N (j + 1) t).length (xs ++ octs N (j + 1) t)) := hown
        clear hi hz0 hz1 hz2 hown
        have HX : Hid (octs N (j + 1) (t + 1) = octs N (j + 1) t ++ [Value.int .u8 (oc N (j + 1 - 1 - t))]) := octs_succ _ _ _
        have HZS : Hid (∀ y, Own base y (xs ++ octs N (j + 1) t) w wr → Own base y (xs ++ octs N (j + 1) t) w wr) := fun _ h => h
        obtain ⟨zs, hzs⟩ : ∃ zs, zs = xs ++ octs N (j + 1) t := ⟨_, rfl⟩
        rw [← hzs] at HJ HLEN HW
        have HZ2 : Hid (zs = xs ++ octs N (j + 1) t) := hzs
        clear hzs HZS
        by_cases hlt : t < j + 1
        · by_cases htj : t < j
          · go_wp2_with (at_builtin; refine wpList_append_own _ rfl _ _ 26 rfl base 5 i0 (.int .u8 0) 1 1 Try.underlying26 HI.out.1 HI.out.2.1 HI.out.2.2.1 HI.out.2.2.2 rfl (by decide) _ _ _ rfl (HW.out.alloc _) ⟨wr.heap.size, 0, none⟩ 1 1 [.int .u8 (bits .or .u8 (bits .and .u8 (N / 2 ^ (7 * (j - t)) % 256) 127) 128)] rfl rfl ?c1 ?c2 ?c3 ?c4 ?c5 ?_)
            case c1 =>
              intro a u ha
              match a, ha with
              | 0, ha => simp at ha; subst ha; simp [Addr.add]
            case c2 => intro u hu; simp at hu; subst hu; rfl
            case c3 => have := HLEN.out; unfold maxLen; omega
            case c4 => have := HLEN.out; omega
            case c5 => simp; omega
            intro v' w1 hown' hgrow _
            have J' := HJ.out.grow (by omega) hown' hgrow
            rw [oc_hi' htj h0, HZ2.out, List.append_assoc, ← HX.out] at J'
            have HJ' : Hid (Own base v' (xs ++ octs N (j + 1) (t + 1)) w w1) := J'
            clear hown' hgrow J'
            go_wp2
            go_roundw
            case rel => exact ⟨t + 1, by omega, by go_num, HJ'.out⟩
            case measure => simp [intOf]; omega
          · have hjt : j = t := by omega
            subst hjt
            go_wp2_with (at_builtin; refine wpList_append_own _ rfl _ _ 26 rfl base 5 i0 (.int .u8 0) 1 1 Try.underlying26 HI.out.1 HI.out.2.1 HI.out.2.2.1 HI.out.2.2.2 rfl (by decide) _ _ _ rfl (HW.out.alloc _) ⟨wr.heap.size, 0, none⟩ 1 1 [.int .u8 (bits .and .u8 (N % 256) 127)] rfl rfl ?c1 ?c2 ?c3 ?c4 ?c5 ?_)
            case c1 =>
              intro a u ha
              match a, ha with
              | 0, ha => simp at ha; subst ha; simp [Addr.add]
            case c2 => intro u hu; simp at hu; subst hu; rfl
            case c3 => have := HLEN.out; unfold maxLen; omega
            case c4 => have := HLEN.out; omega
            case c5 => simp; omega
            intro v' w1 hown' hgrow _
            have J' := HJ.out.grow (by omega) hown' hgrow
            rw [oc_lo' h0, HZ2.out, List.append_assoc, ← HX.out] at J'
            have HJ' : Hid (Own base v' (xs ++ octs N (j + 1) (j + 1)) w w1) := J'
            clear hown' hgrow J'
            go_wp2
            go_roundw
            case rel => exact ⟨j + 1, by omega, by go_num, HJ'.out⟩
            case measure => simp [intOf]
        · obtain rfl : t = j + 1 := by omega
          go_wp2
          go_ret
          exact ⟨_, j + 1, rfl, by omega, by omega, by rw [Nat.add_sub_cancel]; have := HN.out; omega, HZ.out, by have q := HJ.out; rw [HZ2.out] at q; exact q⟩
end Go.Proofs.Qxb6604383a
