/- sort.pdqsort over *latestFirst. -/
import Derived.Test.YbulkpecSort4
import Derived.Test.YbulkpecSort5
import Derived.Test.YbulkpecSort6
import Derived.Test.YbulkpecSort7
import Derived.Test.YbulkpecSort9
import Derived.Sort.Walk13
import Derived.Sort.AssemblyPlain
set_option linter.unusedVariables false
namespace Go.Proofs.Ybulkpec
open Go.RowKit Go.Sort

theorem swo_gt : SWO gt where
  irrefl x := by simp [gt]
  trans x y z h1 h2 := by simp only [gt, decide_eq_true_eq] at *; omega
  ntrans x y z h1 h2 := by simp only [gt, decide_eq_false_iff_not] at *; omega

set_option maxHeartbeats 12800000 in
set_option maxRecDepth 1000000 in
theorem pdqsort_any {R : Array Int → World → Prop} {base N : Nat} {p : Option Addr} (H : Rep R base p N) (hN : N < 65536) :
    ∀ (n a b limit : Nat) (d : Array Int) (w : World), b - a < n → d.size = N → R d w → a ≤ b → b ≤ N → limit ≤ 1000 → Sort.Below gt a b d →
    Calls Yba.prog 21 #[.iface 61 (.pointer p), .int .i64 a, .int .i64 b, .int .i64 limit] w fun e w' => e = .returned (.tuple #[]) ∧ R (pdq gt d a b limit true true) w' := by
  have mL := reach_less p
  have HH : Hid (Rep R base p N) := H
  have hN6 : N ≤ 1000000 := by omega
  have hO := swo_gt
  clear H
  intro n
  induction n with
  | zero => intro _ _ _ _ _ h; exact absurd h (Nat.not_lt_zero _)
  | succ n ih0 =>
    intro a b limit d w hn hd hR hab hb hlimit hBel0
    have ih : Hid _ := ih0
    have HR0 : Hid (R d w) := hR
    clear ih0 hR
    go_enter Yba.func21, Yba.ntmps21
    go_wp2
    go_loopg [1, 2, 3, 8, 9] (b - a) (fun k s1 s2 s3 s8 s9 wr => ∃ (a' b' lim : Nat) (wb wp : Bool) (dk : Array Int), s1 = .int .i64 a' ∧ s2 = .int .i64 b' ∧ s3 = .int .i64 lim ∧ s8 = .bool wb ∧ s9 = .bool wp ∧
      a' ≤ b' ∧ b' ≤ N ∧ b' - a' ≤ k ∧ k ≤ b - a ∧ lim ≤ limit ∧ dk.size = N ∧ Hid (Sort.Below gt a' b' dk) ∧ Hid (R dk wr) ∧ Hid (pdq gt dk a' b' lim wb wp = pdq gt d a b limit true true))
    case atStart => exact ⟨a, b, limit, true, true, d, rfl, rfl, rfl, rfl, rfl, hab, hb, Nat.le_refl _, Nat.le_refl _, Nat.le_refl _, hd, hBel0, HR0, rfl⟩
    case round =>
      obtain ⟨a', b', lim, wb, wp, dk, rfl, rfl, rfl, rfl, rfl, hab', hb', hk, hkN, hlim, hds, HBel, hR, A⟩ := hrel
      by_cases h12 : b' - a' ≤ 12
      · have h12z : (b' : Int) - (a' : Int) ≤ 12 := by omega
        have hc := insertionSort_any HH.out a' b' dk hds wr hR.out hab' hb' hN6
        go_wp2_with (go_at_call 26; refine hc.mono ?_; rintro e w1 ⟨rfl, hR1⟩)
        (try simp only [Exit.inBlock, Exit.then]); refine bodyPost_ret (results_none rfl _ _ _) rfl ?_
        refine ⟨rfl, ?_⟩
        rw [← A.out, pdq_small h12]
        exact hR1
      · have h12z : ¬ ((b' : Int) - (a' : Int) ≤ 12) := by omega
        by_cases hl0 : lim = 0
        · subst hl0
          have hc := heapSort_any HH.out a' b' dk hds wr hR.out hab' hb' hN6
          go_wp2_with (go_at_call 27; refine hc.mono ?_; rintro e w1 ⟨rfl, hR1⟩)
          (try simp only [Exit.inBlock, Exit.then]); refine bodyPost_ret (results_none rfl _ _ _) rfl ?_
          refine ⟨rfl, ?_⟩
          rw [← A.out, pdq_heap h12 rfl]
          exact hR1
        · have hl0z : ¬ ((lim : Int) = 0) := by omega
          obtain ⟨s1, B1, hc1, s2, B2, hpv, s3, B3⟩ := rd_facts (lt := gt) (limit := lim) (wb := wb) (wp := wp) hO partialInsertionSort_holds reverseRange_holds (show a' < b' by omega) (show b' ≤ dk.size by omega) HBel.out
          have HB3 : Hid _ := B3
          clear B1 B2 B3
          go_upto_if 35 with fail
          go_cut [3] from 19 (fun s3 wc => s3 = .int .i64 (rd gt dk a' b' lim wb wp).lim ∧ Hid (R (rd gt dk a' b' lim wb wp).d1 wc))
          case first =>
            cases wb
            · have hc := breakPatterns_any HH.out a' b' dk hds wr hR.out hab' hb' hN
              go_wp2_with (go_at_call 28; refine hc.mono ?_; rintro e w1 ⟨rfl, hR1⟩)
              go_meet
              case rel =>
                refine ⟨?_, hR1⟩
                show Value.int .i64 ((lim : Int) - 1) = Value.int .i64 ((lim - 1 : Nat) : Int)
                congr 1
                omega
            · go_wp2_with fail
              go_meet
              case rel => exact ⟨rfl, hR⟩
          case rest =>
            obtain ⟨rfl, hR1⟩ := hcut
            have hc17 : Calls Yba.prog 29 #[.iface 61 (.pointer p), .int .i64 a', .int .i64 b'] wc fun e w' => e = .returned (.tuple #[.int .i64 (rd gt dk a' b' lim wb wp).c.1, .int .i64 (hintCode (rd gt dk a' b' lim wb wp).c.2)]) ∧ R (rd gt dk a' b' lim wb wp).d1 w' :=
              choosePivot_any HH.out a' b' (rd gt dk a' b' lim wb wp).d1 (s1.trans hds) wc hR1.out (by omega) hb' hN6
            go_upto_if 50 with (go_at_call 29; refine hc17.mono ?_; rintro e w2 ⟨rfl, hR2⟩)
            clear hc17
            go_cut [11, 12] from 19 (fun s11 s12 wc => s11 = .int .i64 (rd gt dk a' b' lim wb wp).pivot ∧ s12 = .int .i64 (hintCode (rd gt dk a' b' lim wb wp).hint) ∧ Hid (R (rd gt dk a' b' lim wb wp).d2 wc))
            case first =>
              by_cases hh : (rd gt dk a' b' lim wb wp).c.2 = .decreasing
              · have hcode : hintCode (rd gt dk a' b' lim wb wp).c.2 = 2 := by rw [hh]; rfl
                obtain ⟨e2, epv, eht⟩ := rd_dec hh
                have hc18 := reverseRange_any HH.out a' b' (rd gt dk a' b' lim wb wp).d1 (s1.trans hds) w2 hR2 hab' hb' hN6
                go_wp2_with (go_at_call 30; refine hc18.mono ?_; rintro e w3 ⟨rfl, hR3⟩)
                go_meet
                case rel =>
                  refine ⟨?_, by rw [eht]; rfl, by rw [e2]; exact hR3⟩
                  rw [epv]
                  congr 1
                  omega
              · have hcode : ¬ (hintCode (rd gt dk a' b' lim wb wp).c.2 = 2) := fun h => hh (hintCode_two h)
                obtain ⟨e2, epv, eht⟩ := rd_not hh
                go_wp2_with fail
                go_meet
                case rel => exact ⟨by rw [epv], by rw [eht], by rw [e2]; exact hR2⟩
            case rest =>
              obtain ⟨rfl, rfl, hR3⟩ := hcut
              go_upto_region 15 with fail
              go_cut [12, 68] from 19 (fun s12 s68 wx => s12 = .int .i64 (hintCode (rd gt dk a' b' lim wb wp).hint) ∧ s68 = .bool (wb && wp && decide ((rd gt dk a' b' lim wb wp).hint = .increasing)) ∧ wx = wc)
              case first =>
                cases wb <;> cases wp <;> cases hh3 : (rd gt dk a' b' lim _ _).hint <;>
                  (have hcode3 := congrArg hintCode hh3
                   simp only [hintCode] at hcode3
                   go_wp2_with fail
                   go_meet
                   exact ⟨by simp [hh3, hintCode], by simp [hh3, hintCode], rfl⟩)
              case rest =>
                obtain ⟨rfl, rfl, rfl⟩ := hcut
                go_upto_if 68 with fail
                go_cut [] from 19 (fun wx => (rd gt dk a' b' lim wb wp).pi.2 = false ∧ Hid (R (rd gt dk a' b' lim wb wp).pi.1 wx))
                case first =>
                  cases h68 : (wb && wp && decide ((rd gt dk a' b' lim wb wp).hint = .increasing))
                  · have epi := rd_pi_no h68
                    go_wp2_with fail
                    go_meet
                    case rel => exact ⟨by rw [epi], by rw [epi]; exact hR3⟩
                  · have epi := rd_pi_yes h68
                    have hc19 := partialInsertionSort_any HH.out a' b' (rd gt dk a' b' lim wb wp).d2 (s2.trans hds) wc hR3.out (by omega) hb' hN6
                    rw [← epi] at hc19
                    go_wp2_with (go_at_call 31; refine hc19.mono ?_; rintro e w4 ⟨rfl, hR4⟩)
                    all_goals first
                      | (have hp2 : (rd gt dk a' b' lim wb wp).pi.2 = false := by rw [epi]; assumption
                         go_meet
                         exact ⟨hp2, hR4⟩)
                      | (have hp2 : (rd gt dk a' b' lim wb wp).pi.2 = true := by rw [epi]; assumption
                         (try simp only [Exit.inBlock, Exit.then]); refine bodyPost_ret (results_none rfl _ _ _) rfl ?_
                         refine ⟨rfl, ?_⟩
                         rw [← A.out, pdq_done h12 hl0 hp2]
                         exact hR4)
                case rest =>
                  obtain ⟨hp2, hR5⟩ := hcut
                  go_upto_region 17 with fail
                  go_cut [82] from 19 (fun s82 wx => s82 = .bool (decide (a' > 0) && !gt (rd gt dk a' b' lim wb wp).pi.1[a' - 1]! (rd gt dk a' b' lim wb wp).pi.1[(rd gt dk a' b' lim wb wp).pivot]!) ∧ Hid (R (rd gt dk a' b' lim wb wp).pi.1 wx))
                  case first =>
                    rcases Nat.eq_zero_or_pos a' with ha0 | ha0
                    · have ha0z : decide ((a' : Int) > 0) = false := decide_eq_false (by omega)
                      go_wp2_with fail
                      go_meet
                      case rel => exact ⟨by simp [ha0], hR5⟩
                    · have ha0z : (a' : Int) > 0 := by omega
                      have hl := HH.out.less hR5.out (s3.trans hds) (a' - 1) (rd gt dk a' b' lim wb wp).pivot (by omega) (by omega)
                      rw [show ((a' - 1 : Nat) : Int) = (a' : Int) - 1 by omega] at hl
                      cases hlv : gt (rd gt dk a' b' lim wb wp).pi.1[a' - 1]! (rd gt dk a' b' lim wb wp).pi.1[(rd gt dk a' b' lim wb wp).pivot]! <;>
                        (rw [hlv] at hl
                         go_wp2_with (show Calls Yba.prog 66 _ _ _; refine hl.mono ?_; rintro e w5 ⟨rfl, hR6, hk6⟩)
                         go_meet
                         exact ⟨by simp [ha0, hlv], hR6⟩)
                  case rest =>
                    obtain ⟨rfl, hR6⟩ := hcut
                    cases h87 : (decide (a' > 0) && !gt (rd gt dk a' b' lim wb wp).pi.1[a' - 1]! (rd gt dk a' b' lim wb wp).pi.1[(rd gt dk a' b' lim wb wp).pivot]!)
                    · obtain ⟨mid, ap, d4, hx⟩ : ∃ mid ap d4, partition gt (rd gt dk a' b' lim wb wp).pi.1 a' b' (rd gt dk a' b' lim wb wp).pivot = (mid, ap, d4) := ⟨(partition gt (rd gt dk a' b' lim wb wp).pi.1 a' b' (rd gt dk a' b' lim wb wp).pivot).1, (partition gt (rd gt dk a' b' lim wb wp).pi.1 a' b' (rd gt dk a' b' lim wb wp).pivot).2.1, (partition gt (rd gt dk a' b' lim wb wp).pi.1 a' b' (rd gt dk a' b' lim wb wp).pivot).2.2, rfl⟩
                      obtain ⟨r1, r2, r3, r4, r5, r6, r7⟩ := round_part hO (partition_holds gt) hpv.1 hpv.2 (show b' ≤ (rd gt dk a' b' lim wb wp).pi.1.size by omega) HB3.out hx
                      have hc22 := partition_any HH.out a' b' (rd gt dk a' b' lim wb wp).pivot (rd gt dk a' b' lim wb wp).pi.1 (s3.trans hds) wc hR6.out hpv.1 hpv.2 hb' hN6
                      rw [hx] at hc22
                      have X : Hid (partition gt (rd gt dk a' b' lim wb wp).pi.1 a' b' (rd gt dk a' b' lim wb wp).pivot = (mid, ap, d4)) := hx
                      have HR67 : Hid _ := And.intro r6 r7
                      clear hx r6 r7
                      go_upto_if 108 with (go_at_call 33; refine hc22.mono ?_; rintro e w7 ⟨rfl, hR7⟩)
                      have hs4 : d4.size = N := r3.trans (s3.trans hds)
                      by_cases h4 : mid - a' < b' - mid
                      · have h4z : (mid : Int) - (a' : Int) < (b' : Int) - (mid : Int) := by omega
                        have hih := ih.out a' mid (rd gt dk a' b' lim wb wp).lim d4 w7 (by omega) hs4 hR7 (by omega) (by omega) (Nat.le_trans (Nat.le_trans rd_lim_le hlim) hlimit) r4
                        obtain ⟨pL, sL⟩ := pdq_sorts gt hO d4 a' mid (rd gt dk a' b' lim wb wp).lim true true (by omega) (by omega) r4
                        go_wp2_with (go_at_call 21; refine hih.mono ?_; rintro e w8 ⟨rfl, hR8⟩)
                        go_roundg (b' - (mid + 1))
                        case measure => omega
                        case rel =>
                          have hx := X.out
                          refine ⟨mid + 1, b', (rd gt dk a' b' lim wb wp).lim, decide (mid - a' ≥ (b' - a') / 8), ap, pdq gt d4 a' mid (rd gt dk a' b' lim wb wp).lim true true, by simp, rfl, rfl, ?_, rfl, by omega, by omega, Nat.le_refl _, by omega, Nat.le_trans rd_lim_le hlim, by rw [pL.1, hs4], (HR67.out.1 _ pL sL).1, hR8, ?_⟩
                          · exact congrArg Value.bool (eighth (by omega) (by omega))
                          · show _ = _
                            rw [← A.out, pdq_left h12 hl0 hp2 h87 (by rw [hx]; exact ⟨r1, r2⟩) (by rw [hx]; exact h4), hx]
                      · have h4z : ¬ ((mid : Int) - (a' : Int) < (b' : Int) - (mid : Int)) := by omega
                        have hih := ih.out (mid + 1) b' (rd gt dk a' b' lim wb wp).lim d4 w7 (by omega) hs4 hR7 (by omega) (by omega) (Nat.le_trans (Nat.le_trans rd_lim_le hlim) hlimit) r5
                        rw [show ((mid + 1 : Nat) : Int) = (mid : Int) + 1 by omega] at hih
                        obtain ⟨pL, sL⟩ := pdq_sorts gt hO d4 (mid + 1) b' (rd gt dk a' b' lim wb wp).lim true true (by omega) (by omega) r5
                        go_wp2_with (go_at_call 21; refine hih.mono ?_; rintro e w8 ⟨rfl, hR8⟩)
                        go_roundg (mid - a')
                        case measure => omega
                        case rel =>
                          have hx := X.out
                          refine ⟨a', mid, (rd gt dk a' b' lim wb wp).lim, decide (b' - mid ≥ (b' - a') / 8), ap, pdq gt d4 (mid + 1) b' (rd gt dk a' b' lim wb wp).lim true true, rfl, rfl, rfl, ?_, rfl, by omega, by omega, Nat.le_refl _, by omega, Nat.le_trans rd_lim_le hlim, by rw [pL.1, hs4], (HR67.out.2 _ pL sL).1, hR8, ?_⟩
                          · exact congrArg Value.bool (eighth (by omega) (by omega))
                          · show _ = _
                            rw [← A.out, pdq_right h12 hl0 hp2 h87 (by rw [hx]; exact ⟨r1, r2⟩) (by rw [hx]; exact h4), hx]
                    · have h87' := h87
                      simp only [Bool.and_eq_true, decide_eq_true_eq, Bool.not_eq_true'] at h87'
                      obtain ⟨mid, d4, hx⟩ : ∃ mid d4, partitionEqual gt (rd gt dk a' b' lim wb wp).pi.1 a' b' (rd gt dk a' b' lim wb wp).pivot = (mid, d4) := ⟨(partitionEqual gt (rd gt dk a' b' lim wb wp).pi.1 a' b' (rd gt dk a' b' lim wb wp).pivot).1, (partitionEqual gt (rd gt dk a' b' lim wb wp).pi.1 a' b' (rd gt dk a' b' lim wb wp).pivot).2, rfl⟩
                      obtain ⟨r1, r2, r3, r4, _⟩ := round_eq hO (partitionEqual_holds gt) h87'.1 hpv.1 hpv.2 (show b' ≤ (rd gt dk a' b' lim wb wp).pi.1.size by omega) HB3.out h87'.2 hx
                      have hc21 := partitionEqual_any HH.out a' b' (rd gt dk a' b' lim wb wp).pivot (rd gt dk a' b' lim wb wp).pi.1 (s3.trans hds) wc hR6.out hpv.1 hpv.2 hb' hN6
                      rw [hx] at hc21
                      have X : Hid (partitionEqual gt (rd gt dk a' b' lim wb wp).pi.1 a' b' (rd gt dk a' b' lim wb wp).pivot = (mid, d4)) := hx
                      clear hx
                      go_wp2_with (go_at_call 32; refine hc21.mono ?_; rintro e w7 ⟨rfl, hR7⟩)
                      go_roundg (b' - mid)
                      case measure => omega
                      case rel =>
                        have hx := X.out
                        exact ⟨mid, b', (rd gt dk a' b' lim wb wp).lim, wb, wp, d4, rfl, rfl, rfl, rfl, rfl, r2, hb', Nat.le_refl _, by omega, Nat.le_trans rd_lim_le hlim, by rw [r3, s3, hds], r4, hR7, (show Hid _ from by rw [← A.out, pdq_eq h12 hl0 hp2 h87 (by rw [hx]; exact ⟨r1, r2⟩), hx]; exact rfl)⟩
end Go.Proofs.Ybulkpec
