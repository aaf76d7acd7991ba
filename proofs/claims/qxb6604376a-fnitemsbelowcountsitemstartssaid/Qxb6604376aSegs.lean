import Derived.Test.Qxb6604376aItems
import Derived.Lib.SliceRun
import Derived.OwnWalk
namespace Go.Proofs.Qxb6604376a
open Go.RowKit
set_option linter.unusedVariables false

/-- The sum of s 0 .. s (k - 1). -/
def psum (s : Nat → Int) : Nat → Int
  | 0 => 0
  | k + 1 => psum s k + s k

structure Fit (s : Nat → Int) (n : Nat) : Prop where
  pos : 1 ≤ n
  le : n ≤ 4096
  each : ∀ k, k < n → 1 ≤ s k ∧ s k ≤ 65536
  total : psum s n ≤ 65536

def SegEnd (s : Nat → Int) (n : Nat) (e : Ending) : Prop := ∃ bb : Bool, e = .returned (.bool bb) ∧ (bb = true → Fit s n)
theorem SegEnd.no (s : Nat → Int) (n : Nat) : SegEnd s n (.returned (.bool false)) := ⟨false, rfl, by intro h; cases h⟩
theorem SegEnd.yes {s : Nat → Int} {n : Nat} (h : Fit s n) : SegEnd s n (.returned (.bool true)) := ⟨true, rfl, fun _ => h⟩

/-- The cells (b, off) .. hold s 0 .. s (n - 1). -/
def Row (b off n : Nat) (s : Nat → Int) (w : World) : Prop := ∀ k, k < n → w.cell? ⟨b, off + k, none⟩ = some (.int .i64 (s k))

theorem bytes15_any (a : Option Addr) (n c : Nat) (x y z u : Int) (w : World) (hn : n ≤ 1048576) : Calls Try.prog 15 #[.slice a n c, .int .i64 x, .int .i64 y, .int .i64 z, .int .i64 u] w fun e w' => e = .returned (.bool true) ∧ w' = w := by
  go_enter Try.func15, Try.ntmps15
  go_wp2
  go_ret
  exact ⟨rfl, rfl⟩
theorem bytes15_no (a : Option Addr) (n c : Nat) (x y z u : Int) (w : World) (hn : 1048576 < n) : Calls Try.prog 15 #[.slice a n c, .int .i64 x, .int .i64 y, .int .i64 z, .int .i64 u] w fun e w' => e = .returned (.bool false) ∧ w' = w := by
  go_enter Try.func15, Try.ntmps15
  go_wp2
  go_ret
  exact ⟨rfl, rfl⟩
theorem bytes21_any (a : Option Addr) (n c : Nat) (x y z u : Int) (w : World) (hn : n ≤ 1048576) : Calls Try.prog 21 #[.slice a n c, .int .i64 x, .int .i64 y, .int .i64 z, .int .i64 u] w fun e w' => e = .returned (.bool true) ∧ w' = w := by
  go_enter Try.func21, Try.ntmps21
  go_wp2
  go_ret
  exact ⟨rfl, rfl⟩
theorem bytes21_no (a : Option Addr) (n c : Nat) (x y z u : Int) (w : World) (hn : 1048576 < n) : Calls Try.prog 21 #[.slice a n c, .int .i64 x, .int .i64 y, .int .i64 z, .int .i64 u] w fun e w' => e = .returned (.bool false) ∧ w' = w := by
  go_enter Try.func21, Try.ntmps21
  go_wp2
  go_ret
  exact ⟨rfl, rfl⟩

theorem segsFit_zero (a : Option Addr) (c : Nat) (w : World) : Calls Try.prog 16 #[.slice a 0 c] w fun e w' => e = .returned (.bool false) ∧ w' = w := by
  go_enter Try.func16, Try.ntmps16
  go_wp2
  go_ret
  exact ⟨rfl, rfl⟩

set_option maxHeartbeats 400000 in
theorem segsFit_any (b off n c : Nat) (s : Nat → Int) (w : World) (h1 : 1 ≤ n) (h2 : n ≤ 4096) (hc : Row b off n s w) :
    Calls Try.prog 16 #[.slice (some ⟨b, off, none⟩) n c] w fun e w' => SegEnd s n e ∧ w' = w := by
  have hz : ((n : Int) == 0) = false := by simp; omega
  go_enter Try.func16, Try.ntmps16
  go_wp2
  go_loop [3, 16] (fun t i => ∃ k : Nat, k ≤ n ∧ i = .int .i64 k ∧ t = .int .i64 (psum s k) ∧ (∀ j, j < k → 1 ≤ s j ∧ s j ≤ 65536) ∧ 0 ≤ psum s k ∧ psum s k ≤ 65536) (fun _ i => n - (intOf i).toNat)
  case atStart => exact ⟨0, by omega, rfl, rfl, fun j h => by omega, by simp [psum], by simp [psum]⟩
  case round =>
    obtain ⟨k, hk, rfl, rfl, hj, p0, p1⟩ := hrel
    have HJ : Hid (∀ j, j < k → 1 ≤ s j ∧ s j ≤ 65536) := hj
    clear hj
    by_cases hlt : k < n
    · have g := hc k hlt
      by_cases c1 : s k < 1
      · go_wp2
        go_ret
        exact ⟨SegEnd.no _ _, rfl⟩
      by_cases c2 : 65536 < s k
      · go_wp2
        go_ret
        exact ⟨SegEnd.no _ _, rfl⟩
      by_cases c3 : 65536 < psum s k + s k
      · go_wp2
        go_ret
        exact ⟨SegEnd.no _ _, rfl⟩
      go_wp2
      go_round
      case rel =>
        refine ⟨k + 1, by omega, by go_num, rfl, fun j hj => ?_, by simp only [psum]; omega, by simp only [psum]; omega⟩
        by_cases e : j = k
        · subst e; omega
        · exact HJ.out j (by omega)
      case measure => simp [intOf]; omega
    · obtain rfl : k = n := by omega
      go_wp2
      go_ret
      exact ⟨SegEnd.yes ⟨h1, h2, HJ.out, p1⟩, rfl⟩

/-! ### zzCopyInts -/
/-- n new zeros. -/
def zeros (n : Nat) : Array Value := madeCells #[.int .i64 0] n
theorem zeros_at {n k : Nat} (h : k < n) : (zeros n)[k]? = some (.int .i64 0) := by
  simp [zeros, madeCells, h, Nat.mod_one]
theorem Try.info2 : (Try.prog.info? 2).map (fun i => (i.zero, i.size, i.bytes)) = some (some (.int .i64 0), 1, 8) := by kernel_rfl

theorem make28 (n : Nat) (hn : n ≤ 65536) (w : World) : (Instr.makeSlice 28 (.int .i64 n) (.int .i64 n)).run Try.prog w = .ok (.slice (some ⟨w.heap.size, 0, none⟩) n n) (w.alloc (.cells (zeros n) 2)) := by
  have h := Try.info2
  cases hi : Try.prog.info? 2 with
  | none => rw [hi] at h; cases h
  | some i =>
    rw [hi] at h
    simp only [Option.map_some, Option.some.injEq, Prod.mk.injEq] at h
    obtain ⟨hz, hs, hb⟩ := h
    have r := run_make (P := Try.prog) w 28 2 i _ Try.underlying28 hi hz .i64 .i64 n n (by omega) (by omega) (by rw [hb]; omega) (by omega)
    rw [hs] at r
    simpa [zeros, Value.cells] using r

structure CopyInv (N n : Nat) (s : Nat → Int) (w : World) (k : Nat) (wr : World) : Prop where
  row : ∀ j, j < n → wr.cell? ⟨N, j, none⟩ = some (.int .i64 (if j < k then s j else 0))
  fz : ∀ j, wr.frozen? ⟨N, j, none⟩ = false
  bel : Below N w wr
  size : wr.heap.size = N + 1

theorem CopyInv.step {N n : Nat} {s : Nat → Int} {w wr : World} {k : Nat} (J : CopyInv N n s w k wr) (hk : k < n) : CopyInv N n s w (k + 1) (wr.setCell ⟨N, k, none⟩ (.int .i64 (s k))) := by
  refine ⟨fun j hj => ?_, fun j => ?_, J.bel.setCell (Nat.le_refl _) _, by simp [J.size]⟩
  · by_cases e : j = k
    · subst e
      rw [World.cell?_setCell_same _ _ _ (J.row j hj)]; simp
    · rw [World.cell?_setCell_other _ _ _ _ (by intro q; injection q; omega), J.row j hj]
      by_cases h1 : j < k
      · simp [h1, Nat.lt_succ_of_lt h1]
      · simp [h1, show ¬ j < k + 1 by omega]
  · rw [World.frozen?_setCell]; exact J.fz j

set_option maxHeartbeats 400000 in
theorem copyInts_any (b off n c : Nat) (s : Nat → Int) (w : World) (h1 : 1 ≤ n) (h2 : n ≤ 4096) (hb : b < w.heap.size) (hc : Row b off n s w) :
    Calls Try.prog 17 #[.slice (some ⟨b, off, none⟩) n c] w fun e w' => e = .returned (.slice (some ⟨w.heap.size, 0, none⟩) n n) ∧ Row w.heap.size 0 n s w' ∧ Below w.heap.size w w' ∧ w'.heap.size = w.heap.size + 1 := by
  have mk := make28 n (by omega)
  have q28 : ∀ (w : World) (a : Option Addr) (n c n' c' : Nat), (binOp .eql 28 (.slice a n c) (.slice none n' c')).run Try.prog w = .ok (.bool a.isNone) w := fun w a n c n' c' => Lib.run_eql_slice_nil w 28 2 a n c n' c' Try.underlying28
  go_enter Try.func17, Try.ntmps17
  go_wp2
  clear mk q28
  have I : CopyInv w.heap.size n s w 0 (w.alloc (.cells (zeros n) 2)) := by
    refine ⟨fun j hj => ?_, fun j => ?_, (Below.refl _ _).alloc (Nat.le_refl _) _, by simp⟩
    · rw [World.cell?_alloc_new, zeros_at hj]; simp
    · rw [World.frozen?_alloc_at _ _ _ _ rfl]
  go_loopw [4] (fun i wr => ∃ k : Nat, k ≤ n ∧ i = .int .i64 k ∧ CopyInv w.heap.size n s w k wr) (fun i _ => n - (intOf i).toNat)
  case atStart => exact ⟨0, by omega, rfl, I⟩
  case round =>
    obtain ⟨k, hk, rfl, J⟩ := hrel
    by_cases hlt : k < n
    · have e1 : wr.cell? ⟨b, off + k, none⟩ = some (.int .i64 (s k)) := (J.bel.cell (p := ⟨b, off + k, none⟩) hb).trans (hc k hlt)
      have e2 := J.row k hlt
      have e3 := J.fz k
      simp only [Nat.lt_irrefl, if_false] at e2
      go_wp2
      go_roundw
      case rel => exact ⟨k + 1, by omega, by go_num, J.step hlt⟩
      case measure => simp [intOf]; omega
    · obtain rfl : k = n := by omega
      go_wp2
      go_ret
      refine ⟨rfl, fun j hj => ?_, J.bel, J.size⟩
      have := J.row j hj
      simp only [hj, if_true] at this
      rw [Nat.zero_add]; exact this
end Go.Proofs.Qxb6604376a
