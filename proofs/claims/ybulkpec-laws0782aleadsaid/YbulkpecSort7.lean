/- sort.partialInsertionSort over *latestFirst. -/
import Derived.Test.YbulkpecSort2
import Derived.Sort.WalkA6
set_option linter.unusedVariables false
namespace Go.Proofs.Ybulkpec
open Go.RowKit Go.Sort

set_option maxHeartbeats 16000000 in
set_option maxRecDepth 100000 in
theorem partialInsertionSort_any {R : Array Int → World → Prop} {base N : Nat} {p : Option Addr} (H : Rep R base p N) (a b : Nat) (d : Array Int) (hd : d.size = N) (w : World) (h : R d w) (hab : a < b) (hb : b ≤ N) (hN : N ≤ 1000000) :
    Calls Yba.prog 31 #[.iface 61 (.pointer p), .int .i64 a, .int .i64 b] w fun e w' => e = .returned (.bool (Sort.partialInsertionSort gt d a b).2) ∧ R (Sort.partialInsertionSort gt d a b).1 w' := by
  have mL := reach_less p; have mS := reach_swap p
  have HH : Hid (Rep R base p N) := H
  clear H
  go_enter Yba.func31, Yba.ntmps31
  go_wp2
  go_loopg [7, 8] 5 (fun g1 vi vs wr => ∃ (i s : Nat) (dk : Array Int), vi = .int .i64 i ∧ vs = .int .i64 s ∧ s ≤ 5 ∧ 5 - s ≤ g1 ∧ a < i ∧ i ≤ b ∧ dk.size = N ∧ Hid (R dk wr) ∧ Hid (partialIns gt a b (5 - s) i dk = partialIns gt a b 5 (a + 1) d))
  case atStart => exact ⟨a + 1, 0, d, by go_num, rfl, by omega, by omega, by omega, by omega, hd, h, rfl⟩
  case round =>
    obtain ⟨i, s, dk, rfl, rfl, hs5, hg1, hai, hib, hsk, hR, HO⟩ := hrel
    by_cases hs : s < 5
    · have hsz5 : (s : Int) < 5 := by omega
      go_wp2_with fail
      go_loopg [7] (b - i) (fun g2 vi wr2 => ∃ (kx : Nat), vi = .int .i64 kx ∧ i ≤ kx ∧ kx ≤ b ∧ b - kx ≤ g2 ∧ Hid (R dk wr2) ∧ Hid (scanSorted gt dk b kx = scanSorted gt dk b i))
      case atStart => exact ⟨i, rfl, Nat.le_refl _, hib, Nat.le_refl _, hR, rfl⟩
      case round =>
        obtain ⟨kx, rfl, hik, hkb, hg2, hRk, HSc⟩ := hrel
        by_cases hkb' : kx < b
        · have hkz : (kx : Int) < (b : Int) := by omega
          cases hlv : gt dk[kx]! dk[kx - 1]! with
          | false =>
            go_wp2_with (show Calls Yba.prog 66 _ _ _; refine (HH.out.lessI hRk.out hsk kx (kx - 1) _ _ (by omega) (by omega) (by omega) (by omega) false hlv).mono ?_; rintro e w1 ⟨rfl, hR1, _⟩)
            go_roundg (b - (kx + 1))
            case measure => omega
            case rel => exact ⟨kx + 1, by go_num, by omega, by omega, Nat.le_refl _, hR1, (show Hid _ from by rw [← HSc.out, scanSorted_go gt dk b kx hkb' hlv]; exact rfl)⟩
          | true =>
            have HK : Hid (scanSorted gt dk b i = kx) := by show _ = _; rw [← HSc.out, scanSorted_stop gt dk b kx (Or.inr hlv)]
            have hkne : ((kx : Int) == (b : Int)) = false := beq_eq_false_iff_ne.2 (by omega)
            by_cases h50 : b - a < 50
            · have h50z : (b : Int) - (a : Int) < 50 := by omega
              go_wp2_with (show Calls Yba.prog 66 _ _ _; refine (HH.out.lessI hRk.out hsk kx (kx - 1) _ _ (by omega) (by omega) (by omega) (by omega) true hlv).mono ?_; rintro e w1 ⟨rfl, hR1, _⟩)
              have hv : Sort.partialInsertionSort gt d a b = (dk, false) := by
                unfold Sort.partialInsertionSort
                rw [← HO.out, pi_short gt a b s i dk hs (by rw [HK.out]; omega) h50]
              rw [hv]
              go_ret
              exact ⟨rfl, hR1⟩
            · have h50z : ¬ ((b : Int) - (a : Int) < 50) := by omega
              have hX1 : (swp dk kx (kx - 1)).size = N := by rw [size_swp]; exact hsk
              by_cases hka : kx - a ≥ 2
              · have hkaz : (2 : Int) ≤ (kx : Int) - (a : Int) := by omega
                go_wp2_with (first | (show Calls Yba.prog 66 _ _ _; refine (HH.out.lessI hRk.out hsk kx (kx - 1) _ _ (by omega) (by omega) (by omega) (by omega) true hlv).mono ?_; rintro e w1 ⟨rfl, hR1, _⟩) | (show Calls Yba.prog 67 _ _ _; refine (HH.out.swapI hR1 hsk kx (kx - 1) _ _ (by omega) (by omega) (by omega) (by omega)).mono ?_; rintro e w2 ⟨rfl, hR2, _⟩))
                go_loopg [9] (kx - 1) (fun g3 vj wr3 => ∃ (j : Nat) (dj : Array Int), vj = .int .i64 j ∧ j ≤ kx - 1 ∧ j ≤ g3 ∧ dj.size = N ∧ Hid (R dj wr3) ∧ Hid (shiftDown gt j dj = shiftDown gt (kx - 1) (swp dk kx (kx - 1))))
                case atStart => exact ⟨kx - 1, (swp dk kx (kx - 1)), by congr 1; omega, Nat.le_refl _, Nat.le_refl _, hX1, hR2, rfl⟩
                case round =>
                  obtain ⟨j, dj, rfl, hjk, hg3, hsj, hRj, HDn⟩ := hrel
                  by_cases hj1 : 1 ≤ j
                  · have hj1z : (1 : Int) ≤ (j : Int) := by omega
                    cases hlv2 : gt dj[j]! dj[j - 1]! with
                    | true =>
                      go_wp2_with (first | (show Calls Yba.prog 66 _ _ _; refine (HH.out.lessI hRj.out hsj j (j - 1) _ _ (by omega) (by omega) (by omega) (by omega) true hlv2).mono ?_; rintro e w5 ⟨rfl, hR5, _⟩) | (show Calls Yba.prog 67 _ _ _; refine (HH.out.swapI hR5 hsj j (j - 1) _ _ (by omega) (by omega) (by omega) (by omega)).mono ?_; rintro e w6 ⟨rfl, hR6, _⟩))
                      go_roundg (j - 1)
                      case measure => omega
                      case rel => exact ⟨j - 1, swp dj j (j - 1), by congr 1; omega, by omega, Nat.le_refl _, by rw [size_swp]; exact hsj, hR6, (show Hid _ from by rw [← HDn.out, shiftDown_go gt j dj hj1 hlv2]; exact rfl)⟩
                    | false =>
                      have HD : Hid (fixDown gt a kx (swp dk kx (kx - 1)) = dj) := by show _ = _; unfold fixDown; rw [if_pos hka, ← HDn.out, shiftDown_stop gt j dj (Or.inr hlv2)]
                      by_cases hbk : b - kx ≥ 2
                      · have hbkz : (2 : Int) ≤ (b : Int) - (kx : Int) := by omega
                        go_wp2_with (show Calls Yba.prog 66 _ _ _; refine (HH.out.lessI hRj.out hsj j (j - 1) _ _ (by omega) (by omega) (by omega) (by omega) false hlv2).mono ?_; rintro e w5 ⟨rfl, hR5, _⟩)
                        go_loopg [10] (b - (kx + 1)) (fun g4 vj wr4 => ∃ (ju : Nat) (du : Array Int), vj = .int .i64 ju ∧ kx + 1 ≤ ju ∧ ju ≤ b ∧ b - ju ≤ g4 ∧ du.size = N ∧ Hid (R du wr4) ∧ Hid (shiftUp gt b ju du = shiftUp gt b (kx + 1) dj))
                        case atStart => exact ⟨kx + 1, dj, by go_num, Nat.le_refl _, by omega, Nat.le_refl _, hsj, hR5, rfl⟩
                        case round =>
                          obtain ⟨ju, du, rfl, hkj, hjb, hg4, hsu, hRu, HU⟩ := hrel
                          by_cases hjb' : ju < b
                          · have hjz : (ju : Int) < (b : Int) := by omega
                            cases hlv3 : gt du[ju]! du[ju - 1]! with
                            | true =>
                              go_wp2_with (first | (show Calls Yba.prog 66 _ _ _; refine (HH.out.lessI hRu.out hsu ju (ju - 1) _ _ (by omega) (by omega) (by omega) (by omega) true hlv3).mono ?_; rintro e w8 ⟨rfl, hR8, _⟩) | (show Calls Yba.prog 67 _ _ _; refine (HH.out.swapI hR8 hsu ju (ju - 1) _ _ (by omega) (by omega) (by omega) (by omega)).mono ?_; rintro e w9 ⟨rfl, hR9, _⟩))
                              go_roundg (b - (ju + 1))
                              case measure => omega
                              case rel => exact ⟨ju + 1, swp du ju (ju - 1), by go_num, by omega, by omega, Nat.le_refl _, by rw [size_swp]; exact hsu, hR9, (show Hid _ from by rw [← HU.out, shiftUp_go gt b ju du hjb' hlv3]; exact rfl)⟩
                            | false =>
                              go_wp2_with (show Calls Yba.prog 66 _ _ _; refine (HH.out.lessI hRu.out hsu ju (ju - 1) _ _ (by omega) (by omega) (by omega) (by omega) false hlv3).mono ?_; rintro e w8 ⟨rfl, hR8, _⟩)
                              go_roundg (5 - (s + 1))
                              case measure => omega
                              case rel => exact ⟨kx, s + 1, du, rfl, by go_num, by omega, Nat.le_refl _, by omega, by omega, hsu, hR8, (show Hid _ from by rw [← HO.out, pi_go gt a b s i kx dk hs HK.out (by omega) h50, HD.out, show fixUp gt b kx dj = du from by unfold fixUp; rw [if_pos hbk, ← HU.out, shiftUp_stop gt b ju du (Or.inr hlv3)]]; exact rfl)⟩
                          · have hjz : ¬ (ju : Int) < (b : Int) := by omega
                            go_wp2_with fail
                            go_roundg (5 - (s + 1))
                            case measure => omega
                            case rel => exact ⟨kx, s + 1, du, rfl, by go_num, by omega, Nat.le_refl _, by omega, by omega, hsu, hRu, (show Hid _ from by rw [← HO.out, pi_go gt a b s i kx dk hs HK.out (by omega) h50, HD.out, show fixUp gt b kx dj = du from by unfold fixUp; rw [if_pos hbk, ← HU.out, shiftUp_stop gt b ju du (Or.inl hjb')]]; exact rfl)⟩
                      · have hbkz : ¬ (2 : Int) ≤ (b : Int) - (kx : Int) := by omega
                        go_wp2_with (show Calls Yba.prog 66 _ _ _; refine (HH.out.lessI hRj.out hsj j (j - 1) _ _ (by omega) (by omega) (by omega) (by omega) false hlv2).mono ?_; rintro e w5 ⟨rfl, hR5, _⟩)
                        go_roundg (5 - (s + 1))
                        case measure => omega
                        case rel => exact ⟨kx, s + 1, dj, rfl, by go_num, by omega, Nat.le_refl _, by omega, by omega, hsj, hR5, (show Hid _ from by rw [← HO.out, pi_go gt a b s i kx dk hs HK.out (by omega) h50, HD.out, show fixUp gt b kx dj = dj from by unfold fixUp; rw [if_neg hbk]]; exact rfl)⟩
                  · have hj1z : ¬ (1 : Int) ≤ (j : Int) := by omega
                    have HD : Hid (fixDown gt a kx (swp dk kx (kx - 1)) = dj) := by show _ = _; unfold fixDown; rw [if_pos hka, ← HDn.out, shiftDown_stop gt j dj (Or.inl (by omega))]
                    by_cases hbk : b - kx ≥ 2
                    · have hbkz : (2 : Int) ≤ (b : Int) - (kx : Int) := by omega
                      go_wp2_with fail
                      go_loopg [10] (b - (kx + 1)) (fun g4 vj wr4 => ∃ (ju : Nat) (du : Array Int), vj = .int .i64 ju ∧ kx + 1 ≤ ju ∧ ju ≤ b ∧ b - ju ≤ g4 ∧ du.size = N ∧ Hid (R du wr4) ∧ Hid (shiftUp gt b ju du = shiftUp gt b (kx + 1) dj))
                      case atStart => exact ⟨kx + 1, dj, by go_num, Nat.le_refl _, by omega, Nat.le_refl _, hsj, hRj, rfl⟩
                      case round =>
                        obtain ⟨ju, du, rfl, hkj, hjb, hg4, hsu, hRu, HU⟩ := hrel
                        by_cases hjb' : ju < b
                        · have hjz : (ju : Int) < (b : Int) := by omega
                          cases hlv3 : gt du[ju]! du[ju - 1]! with
                          | true =>
                            go_wp2_with (first | (show Calls Yba.prog 66 _ _ _; refine (HH.out.lessI hRu.out hsu ju (ju - 1) _ _ (by omega) (by omega) (by omega) (by omega) true hlv3).mono ?_; rintro e w8 ⟨rfl, hR8, _⟩) | (show Calls Yba.prog 67 _ _ _; refine (HH.out.swapI hR8 hsu ju (ju - 1) _ _ (by omega) (by omega) (by omega) (by omega)).mono ?_; rintro e w9 ⟨rfl, hR9, _⟩))
                            go_roundg (b - (ju + 1))
                            case measure => omega
                            case rel => exact ⟨ju + 1, swp du ju (ju - 1), by go_num, by omega, by omega, Nat.le_refl _, by rw [size_swp]; exact hsu, hR9, (show Hid _ from by rw [← HU.out, shiftUp_go gt b ju du hjb' hlv3]; exact rfl)⟩
                          | false =>
                            go_wp2_with (show Calls Yba.prog 66 _ _ _; refine (HH.out.lessI hRu.out hsu ju (ju - 1) _ _ (by omega) (by omega) (by omega) (by omega) false hlv3).mono ?_; rintro e w8 ⟨rfl, hR8, _⟩)
                            go_roundg (5 - (s + 1))
                            case measure => omega
                            case rel => exact ⟨kx, s + 1, du, rfl, by go_num, by omega, Nat.le_refl _, by omega, by omega, hsu, hR8, (show Hid _ from by rw [← HO.out, pi_go gt a b s i kx dk hs HK.out (by omega) h50, HD.out, show fixUp gt b kx dj = du from by unfold fixUp; rw [if_pos hbk, ← HU.out, shiftUp_stop gt b ju du (Or.inr hlv3)]]; exact rfl)⟩
                        · have hjz : ¬ (ju : Int) < (b : Int) := by omega
                          go_wp2_with fail
                          go_roundg (5 - (s + 1))
                          case measure => omega
                          case rel => exact ⟨kx, s + 1, du, rfl, by go_num, by omega, Nat.le_refl _, by omega, by omega, hsu, hRu, (show Hid _ from by rw [← HO.out, pi_go gt a b s i kx dk hs HK.out (by omega) h50, HD.out, show fixUp gt b kx dj = du from by unfold fixUp; rw [if_pos hbk, ← HU.out, shiftUp_stop gt b ju du (Or.inl hjb')]]; exact rfl)⟩
                    · have hbkz : ¬ (2 : Int) ≤ (b : Int) - (kx : Int) := by omega
                      go_wp2_with fail
                      go_roundg (5 - (s + 1))
                      case measure => omega
                      case rel => exact ⟨kx, s + 1, dj, rfl, by go_num, by omega, Nat.le_refl _, by omega, by omega, hsj, hRj, (show Hid _ from by rw [← HO.out, pi_go gt a b s i kx dk hs HK.out (by omega) h50, HD.out, show fixUp gt b kx dj = dj from by unfold fixUp; rw [if_neg hbk]]; exact rfl)⟩
              · have hkaz : ¬ (2 : Int) ≤ (kx : Int) - (a : Int) := by omega
                have HD : Hid (fixDown gt a kx (swp dk kx (kx - 1)) = (swp dk kx (kx - 1))) := by show _ = _; unfold fixDown; rw [if_neg hka]
                by_cases hbk : b - kx ≥ 2
                · have hbkz : (2 : Int) ≤ (b : Int) - (kx : Int) := by omega
                  go_wp2_with (first | (show Calls Yba.prog 66 _ _ _; refine (HH.out.lessI hRk.out hsk kx (kx - 1) _ _ (by omega) (by omega) (by omega) (by omega) true hlv).mono ?_; rintro e w1 ⟨rfl, hR1, _⟩) | (show Calls Yba.prog 67 _ _ _; refine (HH.out.swapI hR1 hsk kx (kx - 1) _ _ (by omega) (by omega) (by omega) (by omega)).mono ?_; rintro e w2 ⟨rfl, hR2, _⟩))
                  go_loopg [10] (b - (kx + 1)) (fun g4 vj wr4 => ∃ (ju : Nat) (du : Array Int), vj = .int .i64 ju ∧ kx + 1 ≤ ju ∧ ju ≤ b ∧ b - ju ≤ g4 ∧ du.size = N ∧ Hid (R du wr4) ∧ Hid (shiftUp gt b ju du = shiftUp gt b (kx + 1) (swp dk kx (kx - 1))))
                  case atStart => exact ⟨kx + 1, (swp dk kx (kx - 1)), by go_num, Nat.le_refl _, by omega, Nat.le_refl _, hX1, hR2, rfl⟩
                  case round =>
                    obtain ⟨ju, du, rfl, hkj, hjb, hg4, hsu, hRu, HU⟩ := hrel
                    by_cases hjb' : ju < b
                    · have hjz : (ju : Int) < (b : Int) := by omega
                      cases hlv3 : gt du[ju]! du[ju - 1]! with
                      | true =>
                        go_wp2_with (first | (show Calls Yba.prog 66 _ _ _; refine (HH.out.lessI hRu.out hsu ju (ju - 1) _ _ (by omega) (by omega) (by omega) (by omega) true hlv3).mono ?_; rintro e w8 ⟨rfl, hR8, _⟩) | (show Calls Yba.prog 67 _ _ _; refine (HH.out.swapI hR8 hsu ju (ju - 1) _ _ (by omega) (by omega) (by omega) (by omega)).mono ?_; rintro e w9 ⟨rfl, hR9, _⟩))
                        go_roundg (b - (ju + 1))
                        case measure => omega
                        case rel => exact ⟨ju + 1, swp du ju (ju - 1), by go_num, by omega, by omega, Nat.le_refl _, by rw [size_swp]; exact hsu, hR9, (show Hid _ from by rw [← HU.out, shiftUp_go gt b ju du hjb' hlv3]; exact rfl)⟩
                      | false =>
                        go_wp2_with (show Calls Yba.prog 66 _ _ _; refine (HH.out.lessI hRu.out hsu ju (ju - 1) _ _ (by omega) (by omega) (by omega) (by omega) false hlv3).mono ?_; rintro e w8 ⟨rfl, hR8, _⟩)
                        go_roundg (5 - (s + 1))
                        case measure => omega
                        case rel => exact ⟨kx, s + 1, du, rfl, by go_num, by omega, Nat.le_refl _, by omega, by omega, hsu, hR8, (show Hid _ from by rw [← HO.out, pi_go gt a b s i kx dk hs HK.out (by omega) h50, HD.out, show fixUp gt b kx (swp dk kx (kx - 1)) = du from by unfold fixUp; rw [if_pos hbk, ← HU.out, shiftUp_stop gt b ju du (Or.inr hlv3)]]; exact rfl)⟩
                    · have hjz : ¬ (ju : Int) < (b : Int) := by omega
                      go_wp2_with fail
                      go_roundg (5 - (s + 1))
                      case measure => omega
                      case rel => exact ⟨kx, s + 1, du, rfl, by go_num, by omega, Nat.le_refl _, by omega, by omega, hsu, hRu, (show Hid _ from by rw [← HO.out, pi_go gt a b s i kx dk hs HK.out (by omega) h50, HD.out, show fixUp gt b kx (swp dk kx (kx - 1)) = du from by unfold fixUp; rw [if_pos hbk, ← HU.out, shiftUp_stop gt b ju du (Or.inl hjb')]]; exact rfl)⟩
                · exfalso; omega
        · obtain rfl : kx = b := by omega
          have hkz : ¬ (kx : Int) < (kx : Int) := by omega
          go_wp2_with fail
          have hv : Sort.partialInsertionSort gt d a kx = (dk, true) := by
            unfold Sort.partialInsertionSort
            rw [← HO.out, pi_true gt a kx s i dk hs (by rw [← HSc.out, scanSorted_stop gt dk kx kx (Or.inl (by omega))])]
          rw [hv]
          go_ret
          exact ⟨rfl, hRk.out⟩
    · obtain rfl : s = 5 := by omega
      go_wp2_with fail
      have hv : Sort.partialInsertionSort gt d a b = (dk, false) := by
        unfold Sort.partialInsertionSort
        rw [← HO.out, pi_end]
      rw [hv]
      go_ret
      exact ⟨rfl, hR.out⟩
end Go.Proofs.Ybulkpec
