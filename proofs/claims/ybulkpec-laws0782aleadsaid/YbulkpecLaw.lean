/- The law's walk. -/
import Derived.Test.YbulkpecSeg2
import Derived.Deep.DeepCutAuto
import Derived.Laws.OwnMore
import Derived.BigQuiet
set_option linter.unusedVariables false
namespace Go.Proofs.Ybulkpec
attribute [local go_sem ↓] Go.wp_at_zero Go.wp_at_succ
open Go.RowKit Go.Maps

set_option maxHeartbeats 4000000 in
set_option maxRecDepth 100000 in
theorem law_walk (id : Int) (am : Option Addr) (M Mc : Nat) (ao : Option Addr) (N Nc : Nat) (term nowO campO leaseO hbO ltO : Int) (pv : Bool) (mem off : Nat → Int) (w : World)
    (hM : M ≤ 1024) (hN : N ≤ 1024) (hMc : M ≤ Mc) (hMb : Mc ≤ 9223372036854775807) (hid : (Lit.int .u16 id).wf = true) (hms : Src w am M fun i => .int .u16 (mem i)) (hos : Src w ao N fun i => .int .i64 (off i)) :
    Calls Yba.prog 3 #[.agg #[.int .u16 id, .slice am M Mc, .slice ao N Nc, .int .u64 term, .int .i64 nowO, .int .i64 campO, .int .i64 leaseO, .int .i64 hbO, .int .i64 ltO, .bool pv]] w fun e w' => e = .returned (.bool true) ∧ Below w.heap.size w w' := by
  have hMi : ¬ 1024 < (M : Int) := by omega
  have hNi : ¬ 1024 < (N : Int) := by omega
  obtain ⟨m, hm⟩ : ∃ m, m = min M (2 * N + 1) := ⟨_, rfl⟩
  have hmM : m ≤ M := by omega
  have hm1 : m ≤ 1024 := by omega
  have HMS := hide hms
  have HOS := hide hos
  have HM := hide hm
  have hmk1 := run_make_row' (P := Yba.prog) 23 22 (.int .u16 0) 2 Yba.underlying23 Yba.info22 rfl .i64 .i64 m (by omega) (by omega)
  have hmk2 := run_make_row' (P := Yba.prog) 24 2 (.int .i64 0) 8 Yba.underlying24 Yba.info2 rfl .i64 .i64 N (by omega) (by omega)
  have hmm := @run_makeMap Yba.prog
  clear hms hos
  go_enter Yba.func3, Yba.ntmps3
  go_upto_if 46 with fail
  go_cut [3] (fun s3 wc => s3 = .int .i64 (m : Nat) ∧ wc = w.alloc (.cells #[.int .u16 id, .slice am M Mc, .slice ao N Nc, .int .u64 term, .int .i64 nowO, .int .i64 campO, .int .i64 leaseO, .int .i64 hbO, .int .i64 ltO, .bool pv] 27))
  case first =>
    by_cases hc : (2 * (N : Int) + 1) < (M : Int)
    · go_wp2_with fail
      go_meet
      exact ⟨by have := HM.out; go_num, rfl⟩
    · go_wp2_with fail
      go_meet
      exact ⟨by have := HM.out; go_num, rfl⟩
  case rest =>
    obtain ⟨rfl, rfl⟩ := hcut
    clear hm
    have hmMi : (m : Int) ≤ (M : Int) := by omega
    have hmci : (m : Int) ≤ (Mc : Int) := by omega
    obtain ⟨w2, hcopy, hrow, hB2, hs2⟩ := copy_made w (.cells #[.int .u16 id, .slice am M Mc, .slice ao N Nc, .int .u64 term, .int .i64 nowO, .int .i64 campO, .int .i64 leaseO, .int .i64 hbO, .int .i64 ltO, .bool pv] 27) am M m Mc mem HMS.out hmM
    have HROW := hide hrow
    have HB2 := hide hB2
    have k2 : w2.cell? ⟨w.heap.size, 2, none⟩ = some (.slice ao N Nc) := keepCell (hB2.mono (by simp)) (by simp)
    have B0 := hide (mid_start id am M Mc ao N Nc term nowO campO leaseO hbO ltO pv m mem (fun i => cl (off i)) w w2 hrow hB2 hs2)
    clear hrow hB2
    have hlt2 : w.heap.size < w2.heap.size := by omega
    have hne2 : ¬ w.heap.size = w2.heap.size := by omega
    have hne3 : ¬ w.heap.size = w2.heap.size + 1 := by omega
    go_wp2_with fail
    clear hcopy
    go_loopw [68] (fun vi wr => ∃ k g D, vi = .int .i64 (k : Nat) ∧ k ≤ N ∧ Hid (Mid w (pc id am M Mc ao N Nc term nowO campO leaseO hbO ltO pv) w2.heap.size m N k mem (fun i => cl (off i)) g D wr)) (fun vi _ => N - (intOf vi).toNat)
    case atStart => exact ⟨0, _, _, rfl, Nat.zero_le _, B0⟩
    case round =>
      obtain ⟨k, g, D, rfl, hkN, HMid⟩ := hrel
      by_cases hk : k < N
      · have hki : (k : Int) < (N : Int) := by omega
        rcases HOS.out with h | ⟨ob, oo, rfl, hobl, hoc⟩
        · omega
        have e0 : wr.cell? ⟨ob, oo + k, none⟩ = some (.int .i64 (off k)) := keepCell HMid.out.below (hoc k hk)
        have v0 := (HMid.out.vals k hk).1
        have v1 := (HMid.out.vals k hk).2
        obtain ⟨cb0, cb1⟩ := cl_bounds (off k)
        obtain ⟨c, hc⟩ : ∃ c, c = cl (off k) := ⟨_, rfl⟩
        have hcl : Hid (∀ w, Calls Yba.prog 4 #[.int .i64 (off k)] w fun e w' => e = .returned (.int .i64 c) ∧ w' = w) := fun w => by rw [hc]; exact clamp_any (off k) w
        rw [← hc] at cb0 cb1
        have hat : Hid (∀ w, Calls Yba.prog 5 #[.int .i64 c] w fun e w' => e = .returned (T c) ∧ Below w.heap.size w w') := fun w => at_any c (by omega) (by omega) w
        unfold T at hat
        have HC := hide hc
        have hkey : keyOf Yba.prog 22 (.int .u16 ((k : Int) + 1)) = some (key k) := by have := keyOf_key k (by omega); simpa using this
        have hsz := HMid.out.size
        have hwk : IntKind.u16.wrap ((k : Int) + 1) = (k : Int) + 1 := by simp [IntKind.wrap, IntKind.bits, IntKind.signed]; omega
        have hval : timeElem (.agg #[.int .u64 (wallOf c), .int .i64 (extOf c), .pointer none]) = some (.lit (.int .i64 c), []) := timeElem_T c
        have HVAL := hide hval
        have HKEY := hide hkey
        generalize ho : off k = o at *
        have HO := hide ho
        clear ho
        generalize hx : wallOf c = x at *
        generalize hy : extOf c = y at *
        clear hc hkey hval hoc
        go_wp2_with (first | (go_at_call 4; refine (hcl.out _).mono ?_; rintro e w3 ⟨rfl, rfl⟩) | (go_at_call 5; refine (hat.out _).mono ?_; rintro e w3 ⟨rfl, hb3⟩; have own3 := owns_block HMid.out.map ((hb3.block (w2.heap.size + 1) (by simp; omega)).trans (Below.heap_setCell _ _ _ _ (by simp))); have OWN3 := hide own3; have HB3 := hide hb3; clear own3 hb3) | (at_mapUpdate; refine wpList_mapUpdate_own _ rfl _ _ _ 28 rfl 22 32 law22 Yba.underlying28 timeElem (w2.heap.size + 1) k D rfl OWN3.out (by unfold maxLen; omega) _ _ (key k) rfl rfl HKEY.out (.lit (.int .i64 c)) [] HVAL.out ?_; intro w4 hown4 hg4; have HOWN4 := hide hown4; have HG4 := hide hg4; clear hown4 hg4))
        have HR := hide (HMid.out.round hs2 (by show c = cl (off k); rw [HO.out]; exact HC.out) hk HB3.out HOWN4.out HG4.out)
        go_roundw
        case rel => exact ⟨k + 1, _, _, by go_num, by omega, HR⟩
        case measure => simp [intOf]; omega
      · have hkk : N = k := by omega
        subst hkk
        go_upto_region 17 with fail
        go_cut [10] (fun s10 wx => s10 = .map none ∧ wx = wr)
        case first =>
          go_wp2_with fail
          go_meet
          exact ⟨rfl, rfl⟩
        case rest =>
          obtain ⟨rfl, hwx⟩ := hcut
          subst hwx
          refine ‹∀ (a : Act) (w' : World), Code.wp Yba.prog (dropC 10 (Yba.f3.body.getD .skip)) _ a w' → _› _ _ ?_
          exact seg10 hid hm1 hN (by have := HM.out; omega) hs2 (fun i _ => cl_bounds (off i)) HMid.out
end Go.Proofs.Ybulkpec
