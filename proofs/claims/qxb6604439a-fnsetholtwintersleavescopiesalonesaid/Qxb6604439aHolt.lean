import Derived.Test.Qxb6604439aHoltPlain
import Derived.LaidEqlPtr
namespace Go.Proofs.Qxb6604439a
open Go.RowKit
set_option linter.unusedVariables false
attribute [local go_sem] run_store_float

theorem cfg_0 (p : Option Addr) : (cfg p)[0]? = some (.int .i64 0) := rfl
theorem cfg_1 (p : Option Addr) : (cfg p)[1]? = some (.int .i64 0) := rfl
theorem cfg_2 (p : Option Addr) : (cfg p)[2]? = some (.int .i64 0) := rfl
theorem cfg_3 (p : Option Addr) : (cfg p)[3]? = some (.int .i64 0) := rfl
theorem cfg_4 (p : Option Addr) : (cfg p)[4]? = some (.slice none 0 0) := rfl
theorem cfg_5 (p : Option Addr) : (cfg p)[5]? = some (.pointer none) := rfl
theorem cfg_6 (p : Option Addr) : (cfg p)[6]? = some (.pointer none) := rfl
theorem cfg_7 (p : Option Addr) : (cfg p)[7]? = some (.int .i64 0) := rfl
theorem cfg_8 (p : Option Addr) : (cfg p)[8]? = some (.int .i64 0) := rfl
theorem cfg_9 (p : Option Addr) : (cfg p)[9]? = some (.int .i64 0) := rfl
theorem cfg_10 (p : Option Addr) : (cfg p)[10]? = some (.pointer none) := rfl
theorem cfg_11 (p : Option Addr) : (cfg p)[11]? = some (.pointer none) := rfl
theorem cfg_12 (p : Option Addr) : (cfg p)[12]? = some (.pointer none) := rfl
theorem cfg_13 (p : Option Addr) : (cfg p)[13]? = some (.bool false) := rfl
theorem cfg_14 (p : Option Addr) : (cfg p)[14]? = some (.pointer p) := rfl
theorem size46 : (Try.prog.info? 46).map (fun i => i.size != 0) = some true := by kernel_rfl
theorem eql_other {a b : Nat} {w : World} (hne : a ≠ b) (ha : Apart a w) (hb : Apart b w) : (binOp .eql 41 (.pointer (some ⟨a, 0, none⟩)) (.pointer (some ⟨b, 0, none⟩))).run Try.prog w = .ok (.bool false) w := by
  obtain ⟨j, hj, hjs⟩ := Option.map_eq_some_iff.1 size46
  obtain ⟨ca, ha⟩ := ha
  obtain ⟨cb, hb⟩ := hb
  exact run_eql_ptr_other w Try.underlying41 hj (by simpa using hjs) (by intro e; injection e; contradiction) ha hb
theorem hide3 {N gb g1 al be ga na : Nat} {se ss tr sl : Int} {p : Option Addr} {w W w1 : World} (D1 : Done N g1 W w1) (m1 : IsModel g1 na be ga se ss tr sl w1) (S : Start N gb al be ga se ss tr sl p w W) :
    Hid (Done N g1 W w1 ∧ IsModel g1 na be ga se ss tr sl w1 ∧ Start N gb al be ga se ss tr sl p w W) := ⟨D1, m1, S⟩
theorem cfgMid {N g1 na be ga : Nat} {se ss tr sl : Int} {w1 : World} (hc : w1.cell? ⟨N, 14, none⟩ = (cfg (some ⟨g1, 0, none⟩))[14]?) (m1 : IsModel g1 na be ga se ss tr sl w1) (hg : g1 < w1.heap.size) (hN : N < w1.heap.size) (o : Obj) : Cfg N na be ga se ss tr sl (w1.alloc o) :=
  Cfg.alloc (Or.inr ⟨g1, hc, m1, hg⟩) hN o

set_option maxRecDepth 100000 in
set_option maxHeartbeats 2000000 in
theorem holt_true (al be ga na : Nat) (se ss tr sl ns : Int) (w : World) :
    Calls Try.prog 5 #[.bool true, .float .f64 al, .float .f64 be, .float .f64 ga, .int .i64 se, .int .i64 ss, .int .i64 tr, .int .i64 sl, .float .f64 na, .int .i64 ns] w fun e w' => e = .returned (.bool true) ∧ Below w.heap.size w w' := by
  go_enter Try.func5, Try.ntmps5
  go_wp2_with fail
  have S := start_true al be ga se ss tr sl w
  refine (setAlpha_any w.heap.size na al be ga se ss tr sl _ S.m S.lt.1 S.f).mono ?_
  rintro e w1 ⟨rfl, g1, D1, m1⟩
  have C1 := S.c.set S.lt.1 D1
  have b0 : w.heap.size < w1.heap.size := Nat.lt_of_lt_of_le S.lt.1 D1.bel.size
  have HD1 := hide3 D1 m1 S
  have q0 := C1 0 (by omega)
  have q1 := C1 1 (by omega)
  have q2 := C1 2 (by omega)
  have q3 := C1 3 (by omega)
  have q4 := C1 4 (by omega)
  have q5 := C1 5 (by omega)
  have q6 := C1 6 (by omega)
  have q7 := C1 7 (by omega)
  have q8 := C1 8 (by omega)
  have q9 := C1 9 (by omega)
  have q10 := C1 10 (by omega)
  have q11 := C1 11 (by omega)
  have q12 := C1 12 (by omega)
  have q13 := C1 13 (by omega)
  have q14 := C1 14 (by omega)
  simp only [cfg_0, cfg_1, cfg_2, cfg_3, cfg_4, cfg_5, cfg_6, cfg_7, cfg_8, cfg_9, cfg_10, cfg_11, cfg_12, cfg_13, cfg_14] at q0 q1 q2 q3 q4 q5 q6 q7 q8 q9 q10 q11 q12 q13 q14
  have HC : Hid (IsCfg w.heap.size (some ⟨g1, 0, none⟩) w1) := C1
  clear C1 D1 m1 S
  go_wp2_with fail
  obtain ⟨D1, m1, S⟩ := HD1.out
  have F1 := D1.froz w.heap.size 14 S.lt.1
  refine (setSeason_any w.heap.size na be ga ns se ss tr sl _ (cfgMid (HC.out 14 (by omega)) m1 D1.hi b0 _) (by simp; omega) (by rw [frozen?_alloc_cells, F1]; exact S.f)).mono ?_
  rintro e w3 ⟨rfl, g3, D3, m3⟩
  have FI := final_of S D1 m1 D3 m3
  clear q0 q1 q2 q3 q4 q5 q6 q7 q8 q9 q10 q11 q12 q13 q14 D3 m3 D1 m1 S F1 HD1 HC b0
  have HFI : Hid (Final w.heap.size (w.heap.size + 1 + 1) w1.heap.size g1 g3 al be ga na se ss tr sl ns (some ⟨w.heap.size + 1, 0, none⟩) w w3) := FI
  have x0 := FI.b
  have x1 := FI.mid
  have x2 := FI.c
  have x3 := eql_other FI.ne FI.a3 FI.a1
  have x4 := eql_other (FI.pm _ rfl).2.1.symm FI.a1 (FI.pm _ rfl).2.2
  have HM0 : Hid (IsModel (w.heap.size + 1) al be ga se ss tr sl w3) := (FI.pm _ rfl).1
  have HM1 : Hid (IsModel g1 na be ga se ss tr sl w3) := FI.m1
  have HM3 : Hid (IsModel g3 na be ga ns ss tr sl w3) := FI.m3
  clear FI
  go_wp2_with fail
  refine (modelIs_any _ _ _ _ _ _ _ _ _ HM0.out).mono ?_; rintro e wx ⟨rfl, hx⟩; have hx := hx.symm; subst hx
  go_wp2_with fail
  refine (modelIs_any _ _ _ _ _ _ _ _ _ HM1.out).mono ?_; rintro e wx ⟨rfl, hx⟩; have hx := hx.symm; subst hx
  go_wp2_with fail
  refine (modelIs_any _ _ _ _ _ _ _ _ _ HM3.out).mono ?_; rintro e wx ⟨rfl, hx⟩; have hx := hx.symm; subst hx
  go_wp2_with fail
  go_ret
  exact ⟨rfl, HFI.out.bel⟩

set_option maxRecDepth 100000 in
set_option maxHeartbeats 2000000 in
theorem holt_false (al be ga na : Nat) (se ss tr sl ns : Int) (w : World) :
    Calls Try.prog 5 #[.bool false, .float .f64 al, .float .f64 be, .float .f64 ga, .int .i64 se, .int .i64 ss, .int .i64 tr, .int .i64 sl, .float .f64 na, .int .i64 ns] w fun e w' => e = .returned (.bool true) ∧ Below w.heap.size w w' := by
  go_enter Try.func5, Try.ntmps5
  go_wp2_with fail
  have S := start_false w
  refine (setAlpha_any w.heap.size na 4606281698874543309 4606281698874543309 4606281698874543309 6 4 0 0 _ S.m S.lt.1 S.f).mono ?_
  rintro e w1 ⟨rfl, g1, D1, m1⟩
  have C1 := S.c.set S.lt.1 D1
  have b0 : w.heap.size < w1.heap.size := Nat.lt_of_lt_of_le S.lt.1 D1.bel.size
  have HD1 := hide3 D1 m1 S
  have q0 := C1 0 (by omega)
  have q1 := C1 1 (by omega)
  have q2 := C1 2 (by omega)
  have q3 := C1 3 (by omega)
  have q4 := C1 4 (by omega)
  have q5 := C1 5 (by omega)
  have q6 := C1 6 (by omega)
  have q7 := C1 7 (by omega)
  have q8 := C1 8 (by omega)
  have q9 := C1 9 (by omega)
  have q10 := C1 10 (by omega)
  have q11 := C1 11 (by omega)
  have q12 := C1 12 (by omega)
  have q13 := C1 13 (by omega)
  have q14 := C1 14 (by omega)
  simp only [cfg_0, cfg_1, cfg_2, cfg_3, cfg_4, cfg_5, cfg_6, cfg_7, cfg_8, cfg_9, cfg_10, cfg_11, cfg_12, cfg_13, cfg_14] at q0 q1 q2 q3 q4 q5 q6 q7 q8 q9 q10 q11 q12 q13 q14
  have HC : Hid (IsCfg w.heap.size (some ⟨g1, 0, none⟩) w1) := C1
  clear C1 D1 m1 S
  go_wp2_with fail
  obtain ⟨D1, m1, S⟩ := HD1.out
  have F1 := D1.froz w.heap.size 14 S.lt.1
  refine (setSeason_any w.heap.size na 4606281698874543309 4606281698874543309 ns 6 4 0 0 _ (cfgMid (HC.out 14 (by omega)) m1 D1.hi b0 _) (by simp; omega) (by rw [frozen?_alloc_cells, F1]; exact S.f)).mono ?_
  rintro e w3 ⟨rfl, g3, D3, m3⟩
  have FI := final_of S D1 m1 D3 m3
  clear q0 q1 q2 q3 q4 q5 q6 q7 q8 q9 q10 q11 q12 q13 q14 D3 m3 D1 m1 S F1 HD1 HC b0
  have HFI : Hid (Final w.heap.size (w.heap.size + 1) w1.heap.size g1 g3 4606281698874543309 4606281698874543309 4606281698874543309 na 6 4 0 0 ns none w w3) := FI
  have x0 := FI.b
  have x1 := FI.mid
  have x2 := FI.c
  have x3 := eql_other FI.ne FI.a3 FI.a1
  have HM1 : Hid (IsModel g1 na 4606281698874543309 4606281698874543309 6 4 0 0 w3) := FI.m1
  have HM3 : Hid (IsModel g3 na 4606281698874543309 4606281698874543309 ns 4 0 0 w3) := FI.m3
  clear FI
  go_wp2_with fail
  refine (modelIs_any _ _ _ _ _ _ _ _ _ HM1.out).mono ?_; rintro e wx ⟨rfl, hx⟩; have hx := hx.symm; subst hx
  go_wp2_with fail
  refine (modelIs_any _ _ _ _ _ _ _ _ _ HM3.out).mono ?_; rintro e wx ⟨rfl, hx⟩; have hx := hx.symm; subst hx
  go_wp2_with fail
  go_ret
  exact ⟨rfl, HFI.out.bel⟩

end Go.Proofs.Qxb6604439a
