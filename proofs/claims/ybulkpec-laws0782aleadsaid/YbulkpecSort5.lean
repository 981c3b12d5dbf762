/- sort.partitionEqual, sort.partition over *latestFirst. -/
import Derived.Test.YbulkpecSort2
import Derived.Sort.WalkC
import Derived.Sort.WalkC4
set_option linter.unusedVariables false
namespace Go.Proofs.Ybulkpec
open Go.RowKit Go.Sort

set_option maxHeartbeats 8000000 in
set_option maxRecDepth 100000 in
theorem partitionEqual_any {R : Array Int → World → Prop} {base N : Nat} {p : Option Addr} (H : Rep R base p N) (a b pivot : Nat) (d : Array Int) (hd : d.size = N) (W : World) (h : R d W) (hap : a ≤ pivot) (hpb : pivot < b) (hb : b ≤ N) (hN : N ≤ 1000000) :
    Calls Yba.prog 32 #[.iface 61 (.pointer p), .int .i64 a, .int .i64 b, .int .i64 pivot] W fun e w' => e = .returned (.int .i64 (Sort.partitionEqual gt d a b pivot).1) ∧ R (Sort.partitionEqual gt d a b pivot).2 w' := by
  have mL := reach_less p; have mS := reach_swap p
  have HH : Hid (Rep R base p N) := H
  clear H
  go_enter Yba.func32, Yba.ntmps32
  go_wp2_with (show Calls Yba.prog 67 _ _ _; refine (HH.out.swapI h hd a pivot _ _ rfl rfl (by omega) (by omega)).mono ?_; rintro e w1 ⟨rfl, hR0, hk0⟩)
  go_loopw [9, 10] (fun vi vj wr => ∃ (i j : Nat) (dk : Array Int), vi = .int .i64 i ∧ vj = .int .i64 j ∧ a < i ∧ i ≤ j + 1 ∧ j < b ∧ dk.size = N ∧ Hid (R dk wr) ∧
      Hid (Sort.partEqLoop gt a i j dk = Sort.partEqLoop gt a (a + 1) (b - 1) (Sort.swp d a pivot)))
    (fun vi vj _ => (intOf vj).toNat + 1 - (intOf vi).toNat)
  case atStart => exact ⟨a + 1, b - 1, Sort.swp d a pivot, by go_num, by go_num, by omega, by omega, by omega, by rw [size_swp]; exact hd, hR0, rfl⟩
  case round =>
    obtain ⟨i, j, dk, rfl, rfl, hai, hij, hjb, hs, hR, AE⟩ := hrel
    go_wp2_with fail
    go_loopw [9] (fun vi w1 => ∃ (i' : Nat), vi = .int .i64 i' ∧ i ≤ i' ∧ i' ≤ j + 1 ∧ Hid (R dk w1) ∧
        Hid (Sort.scanUp (fun x => !gt dk[a]! x) dk j i' = Sort.scanUp (fun x => !gt dk[a]! x) dk j i))
      (fun vi _ => j + 1 - (intOf vi).toNat)
    case atStart => exact ⟨i, rfl, Nat.le_refl _, hij, hR, rfl⟩
    case round =>
      obtain ⟨i', rfl, hii, hij', hRi, hsc⟩ := hrel
      by_cases hle : i' ≤ j
      · cases hlv : gt dk[a]! dk[i']! with
        | false =>
          go_wp2_with (show Calls Yba.prog 66 _ _ _; refine (HH.out.lessI hRi.out hs a i' _ _ (by omega) (by omega) (by omega) (by omega) false hlv).mono ?_; rintro e w1 ⟨rfl, hR1, hk1⟩)
          go_roundw
          case rel => exact ⟨i' + 1, by go_num, by omega, by omega, hR1, (scanUp_go (fun x => !gt dk[a]! x) dk j i' hle (by simp [hlv])).symm.trans hsc.out⟩
          case measure => simp [intOf]; omega
        | true =>
          have hi2 : Hid (i' = Sort.scanUp (fun x => !gt dk[a]! x) dk j i) := (scanUp_end (fun x => !gt dk[a]! x) dk j i' (Or.inr (by simp [hlv]))).symm.trans hsc.out
          go_wp2_with (show Calls Yba.prog 66 _ _ _; refine (HH.out.lessI hRi.out hs a i' _ _ (by omega) (by omega) (by omega) (by omega) true hlv).mono ?_; rintro e w1 ⟨rfl, hR1, hk1⟩)
          clear hsc
          go_loopw [10] (fun vj w2 => ∃ (j' : Nat), vj = .int .i64 j' ∧ j' ≤ j ∧ i' ≤ j' + 1 ∧ Hid (R dk w2) ∧
              Hid (Sort.scanDown (fun x => gt dk[a]! x) dk i' j' = Sort.scanDown (fun x => gt dk[a]! x) dk i' j))
            (fun vj _ => (intOf vj).toNat)
          case atStart => exact ⟨j, rfl, Nat.le_refl _, hij', hR1, rfl⟩
          case round =>
            obtain ⟨j', rfl, hjj, hij2, hRj, hsd⟩ := hrel
            by_cases hle2 : i' ≤ j'
            · cases hlv2 : gt dk[a]! dk[j']! with
              | true =>
                go_wp2_with (show Calls Yba.prog 66 _ _ _; refine (HH.out.lessI hRj.out hs a j' _ _ (by omega) (by omega) (by omega) (by omega) true hlv2).mono ?_; rintro e w1 ⟨rfl, hR1, hk1⟩)
                go_roundw
                case rel => exact ⟨j' - 1, by go_num, by omega, by omega, hR1, (scanDown_go (fun x => gt dk[a]! x) dk i' j' hle2 (by omega) hlv2).symm.trans hsd.out⟩
                case measure => simp [intOf]; omega
              | false =>
                have hj2 : Hid (j' = Sort.scanDown (fun x => gt dk[a]! x) dk i' j) := (scanDown_end (fun x => gt dk[a]! x) dk i' j' (Or.inr hlv2)).symm.trans hsd.out
                have hlt3 := scans_lt gt a i j dk (by omega) hi2.out hj2.out hle2
                go_wp2_with (first | (show Calls Yba.prog 66 _ _ _; refine (HH.out.lessI hRj.out hs a j' _ _ (by omega) (by omega) (by omega) (by omega) false hlv2).mono ?_; rintro e w1 ⟨rfl, hR1, hk1⟩) | (show Calls Yba.prog 67 _ _ _; refine (HH.out.swapI hR1 hs i' j' _ _ (by omega) (by omega) (by omega) (by omega)).mono ?_; rintro e w2 ⟨rfl, hR2, hk2⟩))
                go_roundw
                case rel => exact ⟨i' + 1, j' - 1, Sort.swp dk i' j', by go_num, by go_num, by omega, by omega, by omega, by rw [size_swp]; exact hs, hR2, (show Hid _ from by rw [← AE.out]; exact (partEq_go gt a i j dk hi2.out hj2.out (by omega)).symm)⟩
                case measure => simp [intOf]; omega
            · have hj2 : Hid (j' = Sort.scanDown (fun x => gt dk[a]! x) dk i' j) := (scanDown_end (fun x => gt dk[a]! x) dk i' j' (Or.inl hle2)).symm.trans hsd.out
              go_wp2_with fail
              go_ret
              have e := partEq_break gt a i j dk hi2.out hj2.out (by omega)
              refine ⟨?_, ?_⟩
              · unfold Sort.partitionEqual; rw [← AE.out, e]; rfl
              · unfold Sort.partitionEqual; rw [← AE.out, e]; exact hRj.out
      · have hi2 : Hid (i' = Sort.scanUp (fun x => !gt dk[a]! x) dk j i) := (scanUp_end (fun x => !gt dk[a]! x) dk j i' (Or.inl hle)).symm.trans hsc.out
        go_wp2_with fail
        clear hsc
        go_loopw [10] (fun vj w2 => ∃ (j' : Nat), vj = .int .i64 j' ∧ j' ≤ j ∧ i' ≤ j' + 1 ∧ Hid (R dk w2) ∧
            Hid (Sort.scanDown (fun x => gt dk[a]! x) dk i' j' = Sort.scanDown (fun x => gt dk[a]! x) dk i' j))
          (fun vj _ => (intOf vj).toNat)
        case atStart => exact ⟨j, rfl, Nat.le_refl _, hij', hRi, rfl⟩
        case round =>
          obtain ⟨j', rfl, hjj, hij2, hRj, hsd⟩ := hrel
          by_cases hle2 : i' ≤ j'
          · exfalso; omega
          · have hj2 : Hid (j' = Sort.scanDown (fun x => gt dk[a]! x) dk i' j) := (scanDown_end (fun x => gt dk[a]! x) dk i' j' (Or.inl hle2)).symm.trans hsd.out
            go_wp2_with fail
            go_ret
            have e := partEq_break gt a i j dk hi2.out hj2.out (by omega)
            refine ⟨?_, ?_⟩
            · unfold Sort.partitionEqual; rw [← AE.out, e]; rfl
            · unfold Sort.partitionEqual; rw [← AE.out, e]; exact hRj.out
end Go.Proofs.Ybulkpec
