import Derived.Test.Qxb6604376aSegs
import Derived.ArgAppend
namespace Go.Proofs.Qxb6604376a
open Go.RowKit
set_option linter.unusedVariables false

theorem make_of (t e : TypeId) (z : Value) (size bytes : Nat) (ht : Try.prog.underlying t = some (.slice e)) (hinfo : (Try.prog.info? e).map (fun i => (i.zero, i.size, i.bytes)) = some (some z, size, bytes))
    (l c : Nat) (hlc : l ≤ c) (hb : bytes * c ≤ 281474976710656) (hc : c ≤ 4294967296) (w : World) :
    (Instr.makeSlice t (.int .i64 l) (.int .i64 c)).run Try.prog w = .ok (.slice (some ⟨w.heap.size, 0, none⟩) l c) (w.alloc (.cells (madeCells z.cells (c * size)) e)) := by
  cases hi : Try.prog.info? e with
  | none => rw [hi] at hinfo; cases hinfo
  | some i =>
    rw [hi] at hinfo
    simp only [Option.map_some, Option.some.injEq, Prod.mk.injEq] at hinfo
    obtain ⟨hz, hs, hby⟩ := hinfo
    have r := run_make (P := Try.prog) w t e i z ht hi hz .i64 .i64 l c (by omega) (by omega) (by rw [hby]; omega) (by omega)
    rw [hs] at r
    simpa using r

theorem Try.info148 : (Try.prog.info? 148).map (fun i => (i.zero, i.size, i.bytes)) = some (some (.agg #[.slice none 0 0, .int .i64 0, .bool false]), 3, 40) := by kernel_rfl
theorem Try.info61 : (Try.prog.info? 61).map (fun i => (i.zero, i.size, i.bytes)) = some (some (.pointer none), 1, 8) := by kernel_rfl
theorem Try.info57 : (Try.prog.info? 57).map (fun i => (i.zero, i.size, i.bytes)) = some (some (.agg #[.slice none 0 0, .string ByteArray.empty]), 2, 40) := by kernel_rfl
theorem Try.info77 : (Try.prog.info? 77).map (fun i => (i.zero, i.size, i.bytes)) = some (some (.int .i64 0), 1, 8) := by kernel_rfl

/-- The row that 'make' lays: under a name, so that no walk looks into it. -/
def made148 (n : Nat) : Array Value := madeCells (Value.agg #[.slice none 0 0, .int .i64 0, .bool false]).cells (n * 3)
def made61 (n : Nat) : Array Value := madeCells (Value.pointer none).cells (n * 1)
def made57 (n : Nat) : Array Value := madeCells (Value.agg #[.slice none 0 0, .string ByteArray.empty]).cells (n * 2)
def made2 (n : Nat) : Array Value := madeCells (Value.int .i64 0).cells (n * 1)
theorem made61_some {n k : Nat} (h : k < n) : (made61 n)[k]?.isSome = true := by simp [made61, madeCells, h]
theorem made2_some {n k : Nat} (h : k < n) : (made2 n)[k]?.isSome = true := by simp [made2, madeCells, h]
theorem made57_some {n k : Nat} (h : k < n * 2) : (made57 n)[k]?.isSome = true := by simp [made57, madeCells, h]

/-- Block g holds a track of n segments that lasts l. -/
def IsTrack (g : Nat) (n : Nat) (l : Int) (w : World) : Prop := (∃ a, w.cell? ⟨g, 2, none⟩ = some (.slice a n n)) ∧ w.cell? ⟨g, 4, none⟩ = some (.int .i64 l)

set_option maxHeartbeats 400000 in
theorem newTrack_any (n : Nat) (hn : n ≤ 65536) (w : World) : Calls Try.prog 35 #[.int .i64 n, .int .i64 n] w fun e w' =>
    e = .returned (.pointer (some ⟨w.heap.size + 1, 0, none⟩)) ∧ IsTrack (w.heap.size + 1) n n w' ∧ Below w.heap.size w w' ∧ w'.heap.size = w.heap.size + 1 + 1 := by
  have mk : ∀ w, (Instr.makeSlice 76 (.int .i64 n) (.int .i64 n)).run Try.prog w = .ok (.slice (some ⟨w.heap.size, 0, none⟩) n n) (w.alloc (.cells (made148 n) 148)) :=
    make_of 76 148 _ _ _ Try.underlying76 Try.info148 n n (Nat.le_refl _) (by omega) (by omega)
  go_enter Try.func35, Try.ntmps35
  go_wp2
  go_ret
  refine ⟨rfl, ⟨⟨some ⟨w.heap.size, 0, none⟩, ?_⟩, ?_⟩, ((Below.refl _ _).alloc (Nat.le_refl _) _).alloc (by simp) _, by simp⟩
  · rw [World.cell?_alloc_at _ _ _ _ (by simp)]; rfl
  · rw [World.cell?_alloc_at _ _ _ _ (by simp)]; rfl

theorem newPart_any (a : Option Addr) (n c : Nat) (m : ByteArray) (w : World) : Calls Try.prog 36 #[.slice a n c, .string m] w fun e w' =>
    e = .returned (.agg #[.slice a n c, .string m]) ∧ Below w.heap.size w w' ∧ w'.heap.size = w.heap.size + 1 := by
  go_enter Try.func36, Try.ntmps36
  go_wp2
  exact bodyPost_ret (v := .agg #[.slice a n c, .string m]) (by simp [results, Try.results36, go_sem]) rfl ⟨rfl, (Below.refl _ _).alloc (Nat.le_refl _) _, by simp⟩

theorem newAiring_any (gp : Nat) (first items : Int) (w : World) : Calls Try.prog 37 #[.pointer (some ⟨gp, 0, none⟩), .int .i64 first, .int .i64 items] w fun e w' =>
    e = .returned (.pointer (some ⟨w.heap.size, 0, none⟩)) ∧ IsAiring w.heap.size gp first items w' ∧ Below w.heap.size w w' ∧ w'.heap.size = w.heap.size + 1 := by
  go_enter Try.func37, Try.ntmps37
  go_wp2
  go_ret
  refine ⟨rfl, ⟨?_, ?_, ?_⟩, (Below.refl _ _).alloc (Nat.le_refl _) _, by simp⟩ <;> (rw [World.cell?_alloc_new]; rfl)

/-- 'append' of one cell where there is room. -/
theorem app1 (t e : TypeId) (z : Value) (bytes : Nat) (ht : Try.prog.underlying t = some (.slice e)) (hinfo : (Try.prog.info? e).map (fun i => (i.zero, i.size, i.bytes)) = some (some z, 1, bytes)) (ty : TypeId)
    (g k cap ga : Nat) (v : Value) (W : World) (hroom : k + 1 ≤ cap) (h1 : v.oneCell' = true) (hv : W.cell? ⟨ga, 0, none⟩ = some v) (hc : (W.cell? ⟨g, k, none⟩).isSome = true) (hf : W.frozen? ⟨g, k, none⟩ = false) (c : Nat) :
    (Builtin.append_ #[t, t] ty #[.slice (some ⟨g, 0, none⟩) k cap, .slice (some ⟨ga, 0, none⟩) 1 c]).run Try.prog W = .ok (.slice (some ⟨g, 0, none⟩) (k + 1) cap) (W.setCell ⟨g, k, none⟩ v) := by
  cases hi : Try.prog.info? e with
  | none => rw [hi] at hinfo; cases hinfo
  | some i =>
    rw [hi] at hinfo
    simp only [Option.map_some, Option.some.injEq, Prod.mk.injEq] at hinfo
    obtain ⟨hz, hs, hby⟩ := hinfo
    have r := run_append_room_cells (P := Try.prog) W t ty e i ht hi g 0 k cap ⟨ga, 0, none⟩ 1 c [v] (by simp [hs])
      (fun j u hu => by
        cases j with
        | zero => simp at hu; subst hu; simpa [Addr.add] using hv
        | succ j => simp at hu)
      (fun u hu => by simp at hu; subst hu; exact h1) hroom
      (fun j hj => by have : j = 0 := by simpa using hj
                      subst this; simpa [hs] using hc)
      (fun j hj => by have : j = 0 := by simpa using hj
                      subst this; simpa [hs] using hf)
    rw [r]
    simp [hs, World.setCells]
end Go.Proofs.Qxb6604376a
