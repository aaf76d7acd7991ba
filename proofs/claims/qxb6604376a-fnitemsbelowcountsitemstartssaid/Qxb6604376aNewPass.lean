import Derived.Test.Qxb6604376aPass2
import Derived.Test.Qxb6604376aModel
import Derived.RegionTactic
import Derived.BigRegion
import Derived.Deep.RegionLaw
import Derived.Deep.DeepCutAuto
namespace Go.Proofs.Qxb6604376a
open Go.RowKit
set_option linter.unusedVariables false

set_option maxRecDepth 100000 in
set_option maxHeartbeats 2000000 in
theorem newPass_any (gl cl gt m n : Nat) (st ci : Nat → Nat) (md : Nat → ByteArray) (tk sn : Nat → Nat) (w : World) (L : ListIn gl gt m n st ci md tk sn w)
    (hm : 1 ≤ m) (hm' : m ≤ 2) (hn : n ≤ 4096) (hF : Fit (fun k => (sn k : Int)) n)
    (hr : ∀ i, i < m → ((md i).toList == [114, 97, 110, 100, 111, 109]) = false)
    (hs : ∀ i, i < m → ((md i).toList == [115, 101, 114, 105, 101, 115, 45, 114, 101, 112, 101, 97, 116]) = decide (i + 1 = m)) :
    Calls Try.prog 47 #[.slice (some ⟨gl, 0, none⟩) m cl, .agg #[.int .u64 0, .int .i64 0, .pointer none]] w fun e w' =>
      ∃ gp gi gf gs : Nat, e = .returned (.pointer (some ⟨gp, 0, none⟩)) ∧ PassInv gp gi gf gs n tk (fun k => (sn k : Int)) n (st (m - 1) : Nat) n n (psum (fun k => (sn k : Int)) n) (psum (fun k => (sn k : Int)) n) w w' := by
  have HL : Hid (ListIn gl gt m n st ci md tk sn w) := L
  have hgl := L.lt.1
  clear L
  have mk54 : ∀ w, (Instr.makeSlice 54 (.int .i64 0) (.int .i64 n)).run Try.prog w = .ok (.slice (some ⟨w.heap.size, 0, none⟩) 0 n) (w.alloc (.cells (made61 n) 61)) :=
    make_of 54 61 _ _ _ Try.underlying54 Try.info61 0 n (Nat.zero_le _) (by omega) (by omega)
  have mk28 : ∀ w, (Instr.makeSlice 28 (.int .i64 0) (.int .i64 n)).run Try.prog w = .ok (.slice (some ⟨w.heap.size, 0, none⟩) 0 n) (w.alloc (.cells (made2 n) 2)) :=
    make_of 28 2 _ _ _ Try.underlying28 Try.info2 0 n (Nat.zero_le _) (by omega) (by omega)
  have mk80 : ∀ w, (Instr.makeSlice 80 (.int .i64 0) (.int .i64 n)).run Try.prog w = .ok (.slice (some ⟨w.heap.size, 0, none⟩) 0 n) (w.alloc (.cells (made2 n) 77)) :=
    make_of 80 77 _ _ _ Try.underlying80 Try.info77 0 n (Nat.zero_le _) (by omega) (by omega)
  have HK : Hid ((∀ w, (Instr.makeSlice 54 (.int .i64 0) (.int .i64 n)).run Try.prog w = .ok (.slice (some ⟨w.heap.size, 0, none⟩) 0 n) (w.alloc (.cells (made61 n) 61))) ∧
    (∀ w, (Instr.makeSlice 28 (.int .i64 0) (.int .i64 n)).run Try.prog w = .ok (.slice (some ⟨w.heap.size, 0, none⟩) 0 n) (w.alloc (.cells (made2 n) 2))) ∧
    (∀ w, (Instr.makeSlice 80 (.int .i64 0) (.int .i64 n)).run Try.prog w = .ok (.slice (some ⟨w.heap.size, 0, none⟩) 0 n) (w.alloc (.cells (made2 n) 77)))) := ⟨mk54, mk28, mk80⟩
  clear mk54 mk28 mk80
  have HR : Hid (∀ i, i < m → ((md i).toList == [114, 97, 110, 100, 111, 109]) = false) := hr
  have HS : Hid (∀ i, i < m → ((md i).toList == [115, 101, 114, 105, 101, 115, 45, 114, 101, 112, 101, 97, 116]) = decide (i + 1 = m)) := hs
  have HF : Hid (Fit (fun k => (sn k : Int)) n) := hF
  clear hr hs hF
  go_enter Try.func47, Try.ntmps47
  go_wp2
  go_loopw [5, 16] (fun t j wr => ∃ i : Nat, i ≤ m ∧ j = .int .i64 i ∧ t = .int .i64 (st i : Nat) ∧ Below w.heap.size w wr) (fun _ j _ => m - (intOf j).toNat)
  case atStart => exact ⟨0, by omega, rfl, by rw [HL.out.z]; rfl, (Below.refl _ _).alloc (Nat.le_refl _) _⟩
  case round =>
    obtain ⟨i, hi, rfl, rfl, B⟩ := hrel
    have hz := B.size
    by_cases hlt : i < m
    · obtain ⟨e1, e2⟩ := (HL.out.below B).part i hlt
      have g1 := HL.out.mono i hlt
      have g2 := HL.out.le (i + 1) (by omega)
      go_wp2
      go_roundw
      case rel => exact ⟨i + 1, by omega, by go_num, by go_num, B.alloc hz _⟩
      case measure => simp [intOf]; omega
    · obtain rfl : m = i := by omega
      rw [HL.out.top]
      go_wp2
      go_cut [8] (fun p wx => ∃ gp gi gf gs : Nat, p = .pointer (some ⟨gp, 0, none⟩) ∧ PassInv gp gi gf gs n tk (fun k => (sn k : Int)) 0 0 0 0 0 0 w wx)
      case first =>
        obtain ⟨mk54, mk28, mk80⟩ := HK.out
        go_region
        all_goals (go_wp2_with fail; go_meet)
        all_goals
          first
          | exact ⟨_, _, _, _, rfl, PassInv.start B (below4 _ _ _ _ _) (by simp) (heap4 _ _ _ _ _).1 (heap4 _ _ _ _ _).2.1 (heap4 _ _ _ _ _).2.2.1 (heap4 _ _ _ _ _).2.2.2 (by omega) (by omega)⟩
          | exact ⟨_, _, _, _, rfl, PassInv.start B (below4 _ _ _ _ _) (by simp) (heap4 _ _ _ _ _).1 (heap4 _ _ _ _ _).2.2.1 (heap4 _ _ _ _ _).2.1 (heap4 _ _ _ _ _).2.2.2 (by omega) (by omega)⟩
          | exact ⟨_, _, _, _, rfl, PassInv.start B (below4 _ _ _ _ _) (by simp) (heap4 _ _ _ _ _).2.1 (heap4 _ _ _ _ _).1 (heap4 _ _ _ _ _).2.2.1 (heap4 _ _ _ _ _).2.2.2 (by omega) (by omega)⟩
          | exact ⟨_, _, _, _, rfl, PassInv.start B (below4 _ _ _ _ _) (by simp) (heap4 _ _ _ _ _).2.1 (heap4 _ _ _ _ _).2.2.1 (heap4 _ _ _ _ _).1 (heap4 _ _ _ _ _).2.2.2 (by omega) (by omega)⟩
          | exact ⟨_, _, _, _, rfl, PassInv.start B (below4 _ _ _ _ _) (by simp) (heap4 _ _ _ _ _).2.2.1 (heap4 _ _ _ _ _).1 (heap4 _ _ _ _ _).2.1 (heap4 _ _ _ _ _).2.2.2 (by omega) (by omega)⟩
          | exact ⟨_, _, _, _, rfl, PassInv.start B (below4 _ _ _ _ _) (by simp) (heap4 _ _ _ _ _).2.2.1 (heap4 _ _ _ _ _).2.1 (heap4 _ _ _ _ _).1 (heap4 _ _ _ _ _).2.2.2 (by omega) (by omega)⟩
      case rest =>
        obtain ⟨gp, gi, gf, gs, rfl, I⟩ := hcut
        clear B HK
        go_wp2
        go_loopw [36] (fun j wr => ∃ i : Nat, i ≤ m ∧ j = .int .i64 i ∧ PassInv gp gi gf gs n tk (fun k => (sn k : Int)) (st i) (if i = m then ((st (m - 1) : Nat) : Int) else 0) 0 0 0 0 w wr) (fun j _ => m - (intOf j).toNat)
        case atStart => exact ⟨0, by omega, rfl, by rw [HL.out.z, if_neg (by omega)]; exact I⟩
        case round =>
          obtain ⟨i, hi, rfl, J⟩ := hrel
          by_cases hlt : i < m
          · obtain ⟨e1, e2⟩ := (HL.out.below J.bel).part i hlt
            rw [if_neg (by omega)] at J
            have HJ : Hid (PassInv gp gi gf gs n tk (fun k => (sn k : Int)) (st i) 0 0 0 0 0 w wr) := J
            have q1 := J.c0
            have z1 := J.hi
            have z2 := J.bel.size
            clear J
            go_wp2
            have t0 : (wr.alloc (Obj.cells #[Value.slice (some ⟨gt, st i, none⟩) (st (i + 1) - st i) (ci i), .string (md i)] 57)).cell? ⟨wr.heap.size, 0, none⟩ = some (Value.slice (some ⟨gt, st i, none⟩) (st (i + 1) - st i) (ci i)) := by rw [World.cell?_alloc_new]; rfl
            have t1 : (wr.alloc (Obj.cells #[Value.slice (some ⟨gt, st i, none⟩) (st (i + 1) - st i) (ci i), .string (md i)] 57)).cell? ⟨wr.heap.size, 1, none⟩ = some (.string (md i)) := by rw [World.cell?_alloc_new]; rfl
            have J1 := HJ.out.alloc (Obj.cells #[Value.slice (some ⟨gt, st i, none⟩) (st (i + 1) - st i) (ci i), .string (md i)] 57)
            have z3 : wr.heap.size < (wr.alloc (Obj.cells #[Value.slice (some ⟨gt, st i, none⟩) (st (i + 1) - st i) (ci i), .string (md i)] 57)).heap.size := by simp
            generalize wr.alloc (Obj.cells #[Value.slice (some ⟨gt, st i, none⟩) (st (i + 1) - st i) (ci i), .string (md i)] 57) = W0 at t0 t1 J1 z3 ⊢
            have g1 := HL.out.mono i hlt
            have g2 := HL.out.le (i + 1) (by omega)
            have HC : Hid (∀ (j : Nat) (u : Value), (ptrs tk (st i) (st (i + 1) - st i))[j]? = some u → W0.drew.cell? ((⟨gt, st i, none⟩ : Addr).add j) = some u) := (HL.out.below J1.drew.bel).src hlt
            have HP : Hid (∀ j, j < (ptrs tk (st i) (st (i + 1) - st i)).length → (W0.drew.cell? ⟨gi, 0 + st i * 1 + j, none⟩).isSome = true ∧ W0.drew.frozen? ⟨gi, 0 + st i * 1 + j, none⟩ = false) := J1.drew.room _ (by omega)
            have HN : Hid ((ptrs tk (st i) (st (i + 1) - st i)).length = (st (i + 1) - st i) * 1) := by show _ = _; rw [ptrs_length, Nat.mul_one]
            have hroom : st i + (st (i + 1) - st i) ≤ n := by omega
            obtain ⟨inf, hinf, hsz⟩ := size61
            have HI : Hid (Try.prog.info? 61 = some inf ∧ inf.size = 1) := ⟨hinf, hsz⟩
            have HJ1 : Hid (PassInv gp gi gf gs n tk (fun k => (sn k : Int)) (st i) 0 0 0 0 0 w W0) := J1
            have f0 := J1.fz gp (by simp) 0
            have f3 := J1.fz gp (by simp) 3
            have r0 := J1.c0
            have r3 := J1.c3
            have ap := J1.ap.1
            have u0 : (W0.drew.setCells gi (st i) (ptrs tk (st i) (st (i + 1) - st i))).cell? ⟨gp, 0, none⟩ = some (.slice (some ⟨gi, 0, none⟩) (st i) n) := (World.cell?_setCells_out _ _ _ _ _ (fun e _ => absurd e ap)).trans r0
            have u1 : (W0.drew.setCells gi (st i) (ptrs tk (st i) (st (i + 1) - st i))).frozen? ⟨gp, 0, none⟩ = false := (World.frozen?_setCells _ _ _ _ _).trans f0
            have J2 := HJ1.out.drew.itemsAdd (st (i + 1) - st i) (by omega)
            have t2 : ((W0.drew.setCells gi (st i) (ptrs tk (st i) (st (i + 1) - st i))).setCell ⟨gp, 0, none⟩ (.slice (some ⟨gi, 0, none⟩) (st i + (st (i + 1) - st i)) n)).cell? ⟨wr.heap.size, 1, none⟩ = some (.string (md i)) := by
              rw [World.cell?_setCell_other _ _ _ _ (by intro e; injection e; omega), World.cell?_setCells_out _ _ _ _ _ (fun e _ => by have : wr.heap.size = gi := e; omega)]
              exact t1
            rw [show st i + (st (i + 1) - st i) = st (i + 1) from by omega] at J2 t2
            have HJ2 : Hid (PassInv gp gi gf gs n tk (fun k => (sn k : Int)) (st (i + 1)) 0 0 0 0 0 w ((W0.drew.setCells gi (st i) (ptrs tk (st i) (st (i + 1) - st i))).setCell ⟨gp, 0, none⟩ (.slice (some ⟨gi, 0, none⟩) (st (i + 1)) n))) := J2
            have HT2 : Hid (((W0.drew.setCells gi (st i) (ptrs tk (st i) (st (i + 1) - st i))).setCell ⟨gp, 0, none⟩ (.slice (some ⟨gi, 0, none⟩) (st (i + 1)) n)).cell? ⟨wr.heap.size, 1, none⟩ = some (.string (md i))) := t2
            clear J2 t2
            clear hinf hsz J1 q1 e1 e2
            go_region_law (refine step_append_room rfl _ _ 54 rfl 61 inf 1 Try.underlying54 HI.out.1 HI.out.2 gi 0 (st i) n rfl ⟨gt, st i, none⟩ _ _ (ptrs tk (st i) (st (i + 1) - st i)) rfl HN.out HC.out ptrs_one hroom HP.out ?_)
            all_goals
              clear u0 u1 HC HP HN HI HJ1 f0 f3 r0 r3 t0 t1
              generalize (W0.drew.setCells gi (st i) (ptrs tk (st i) (st (i + 1) - st i))).setCell ⟨gp, 0, none⟩ (.slice (some ⟨gi, 0, none⟩) (st (i + 1)) n) = W1 at HJ2 HT2 ⊢
              have t2 := HT2.out
              have f3 := HJ2.out.fz gp (by simp) 3
              have r3 := HJ2.out.c3
              have m1 := HR.out i hlt
              have m2 := HS.out i hlt
              by_cases hlast : i + 1 = m
              · rw [decide_eq_true hlast] at m2
                go_wp2
                go_roundw
                case rel =>
                  refine ⟨i + 1, by omega, by go_num, ?_⟩
                  rw [if_pos hlast, show m - 1 = i by omega]
                  exact HJ2.out.loopSet _
                case measure => simp [intOf]; omega
              · rw [decide_eq_false hlast] at m2
                go_wp2
                go_roundw
                case rel =>
                  refine ⟨i + 1, by omega, by go_num, ?_⟩
                  rw [if_neg hlast]
                  exact HJ2.out
                case measure => simp [intOf]; omega
          · obtain rfl : m = i := by omega
            rw [HL.out.top, if_pos rfl] at J
            have HJ : Hid (PassInv gp gi gf gs n tk (fun k => (sn k : Int)) n ((st (m - 1) : Nat) : Int) 0 0 0 0 w wr) := J
            have q0 := J.c0
            clear J I
            go_wp2
            go_loopw [79] (fun j wr => ∃ k : Nat, k ≤ n ∧ j = .int .i64 k ∧ PassInv gp gi gf gs n tk (fun k => (sn k : Int)) n ((st (m - 1) : Nat) : Int) k k (psum (fun k => (sn k : Int)) k) (psum (fun k => (sn k : Int)) k) w wr) (fun j _ => n - (intOf j).toNat)
            case atStart => exact ⟨0, by omega, rfl, HJ.out⟩
            case round =>
              obtain ⟨k, hk, rfl, J⟩ := hrel
              clear HJ q0
              have HJ : Hid (PassInv gp gi gf gs n tk (fun k => (sn k : Int)) n ((st (m - 1) : Nat) : Int) k k (psum (fun k => (sn k : Int)) k) (psum (fun k => (sn k : Int)) k) w wr) := J
              clear J
              by_cases hlt : k < n
              · have e1 := HJ.out.it k hlt
                have e2 := HJ.out.c1
                have e3 := HJ.out.c4
                obtain ⟨v1, e4⟩ := Option.isSome_iff_exists.1 (HJ.out.sf k hlt)
                have e5 := HJ.out.fz gf (by simp) k
                have e6 := HJ.out.fz gp (by simp) 1
                have z := HJ.out.hi
                have ap := HJ.out.ap
                have hz := HJ.out.bel.size
                go_wp2
                go_region
                have J1 := ((HJ.out.firstAdd hlt).alloc (Obj.cells #[Value.int .i64 (psum (fun k => (sn k : Int)) k)] 2)).drew
                generalize (((wr.setCell ⟨gf, k, none⟩ (Value.int .i64 (psum (fun k => (sn k : Int)) k))).setCell ⟨gp, 1, none⟩ (Value.slice (some ⟨gf, 0, none⟩) (k + 1) n)).alloc (Obj.cells #[Value.int .i64 (psum (fun k => (sn k : Int)) k)] 2)).drew = W1 at J1 ⊢
                clear e1 e2 e3 e4 e5 e6 z ap hz v1 HJ
                have HJ1 : Hid (PassInv gp gi gf gs n tk (fun k => (sn k : Int)) n ((st (m - 1) : Nat) : Int) (k + 1) k (psum (fun k => (sn k : Int)) k) (psum (fun k => (sn k : Int)) k) w W1) := J1
                have e2 := J1.c2
                have e3 := J1.c5
                obtain ⟨v1, e4⟩ := Option.isSome_iff_exists.1 (J1.ss k hlt)
                have e5 := J1.fz gs (by simp) k
                have e6 := J1.fz gp (by simp) 2
                have z := J1.hi
                have ap := J1.ap
                clear J1
                go_wp2
                go_region
                have J2 := ((HJ1.out.startAdd (psum (fun k => (sn k : Int)) k)).alloc (Obj.cells #[Value.int .i64 (psum (fun k => (sn k : Int)) k)] 77)).drew
                generalize (((W1.setCell ⟨gs, k, none⟩ (Value.int .i64 (psum (fun k => (sn k : Int)) k))).setCell ⟨gp, 2, none⟩ (Value.slice (some ⟨gs, 0, none⟩) (k + 1) n)).alloc (Obj.cells #[Value.int .i64 (psum (fun k => (sn k : Int)) k)] 77)).drew = W2 at J2 ⊢
                clear e2 e3 e4 e5 e6 z ap v1 HJ1
                have HJ2 : Hid (PassInv gp gi gf gs n tk (fun k => (sn k : Int)) n ((st (m - 1) : Nat) : Int) (k + 1) (k + 1) (psum (fun k => (sn k : Int)) k) (psum (fun k => (sn k : Int)) k) w W2) := J2
                have b0 := HF.out.nonneg (j := k) (by omega)
                have b1 : psum (fun k => (sn k : Int)) k + (sn k : Int) ≤ 65536 := HF.out.le_total (j := k + 1) (by omega)
                obtain ⟨⟨at1, e1⟩, e2⟩ := (HL.out.below J2.bel).tr k hlt
                have e3 := J2.c4
                have e4 := J2.c5
                have e5 := J2.fz gp (by simp) 4
                have e6 := J2.fz gp (by simp) 5
                have hne : tk k ≠ gp := by have := J2.lo.1; have := HL.out.lt.2.2 k hlt; omega
                have z := J2.hi.1
                clear J2
                go_wp2
                go_region
                go_wp2
                go_region
                go_wp2
                go_roundw
                case rel =>
                  refine ⟨k + 1, by omega, by go_num, ?_⟩
                  exact (((HJ2.out.segSet _).lenSet _).drew).drew
                case measure => simp [intOf]; omega
              · obtain rfl : n = k := by omega
                go_wp2
                go_ret
                exact ⟨gp, gi, gf, gs, rfl, HJ.out⟩

theorem zzNewPass_any (gl cl gt m n : Nat) (st ci : Nat → Nat) (md : Nat → ByteArray) (tk sn : Nat → Nat) (w : World) (L : ListIn gl gt m n st ci md tk sn w)
    (hm : 1 ≤ m) (hm' : m ≤ 2) (hn : n ≤ 4096) (hF : Fit (fun k => (sn k : Int)) n)
    (hr : ∀ i, i < m → ((md i).toList == [114, 97, 110, 100, 111, 109]) = false)
    (hs : ∀ i, i < m → ((md i).toList == [115, 101, 114, 105, 101, 115, 45, 114, 101, 112, 101, 97, 116]) = decide (i + 1 = m)) :
    Calls Try.prog 38 #[.slice (some ⟨gl, 0, none⟩) m cl] w fun e w' =>
      ∃ gp gi gf gs : Nat, e = .returned (.pointer (some ⟨gp, 0, none⟩)) ∧ PassInv gp gi gf gs n tk (fun k => (sn k : Int)) n (st (m - 1) : Nat) n n (psum (fun k => (sn k : Int)) n) (psum (fun k => (sn k : Int)) n) w w' := by
  go_enter Try.func38, Try.ntmps38
  go_wp2_with fail
  refine (newPass_any gl cl gt m n st ci md tk sn _ L hm hm' hn hF hr hs).mono ?_
  rintro e w1 ⟨gp, gi, gf, gs, rfl, J⟩
  clear L hr hs hF
  have HJ : Hid (PassInv gp gi gf gs n tk (fun k => (sn k : Int)) n (st (m - 1) : Nat) n n (psum (fun k => (sn k : Int)) n) (psum (fun k => (sn k : Int)) n) w w1) := J
  clear J
  go_wp2
  go_ret
  exact ⟨gp, gi, gf, gs, rfl, HJ.out⟩
end Go.Proofs.Qxb6604376a
