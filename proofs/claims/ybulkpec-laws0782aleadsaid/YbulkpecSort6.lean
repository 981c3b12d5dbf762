/- sort.partitionEqual, sort.partition over *latestFirst. -/
import Derived.Test.YbulkpecSort2
import Derived.Sort.WalkC
import Derived.Sort.WalkC4
set_option linter.unusedVariables false
namespace Go.Proofs.Ybulkpec
open Go.RowKit Go.Sort

set_option maxHeartbeats 8000000 in
set_option maxRecDepth 100000 in
theorem partition_any {R : Array Int → World → Prop} {base N : Nat} {p : Option Addr} (H : Rep R base p N) (a b pivot : Nat) (d : Array Int) (hd : d.size = N) (W : World) (h : R d W) (hap : a ≤ pivot) (hpb : pivot < b) (hb : b ≤ N) (hN : N ≤ 1000000) :
    Calls Yba.prog 33 #[.iface 61 (.pointer p), .int .i64 a, .int .i64 b, .int .i64 pivot] W fun e w' => e = .returned (.tuple #[.int .i64 (Sort.partition gt d a b pivot).1, .bool (Sort.partition gt d a b pivot).2.1]) ∧ R (Sort.partition gt d a b pivot).2.2 w' := by
  have mL := reach_less p; have mS := reach_swap p
  have HH : Hid (Rep R base p N) := H
  clear H
  obtain ⟨i, hi⟩ : ∃ i : Nat, i = a + 1 := ⟨_, rfl⟩
  obtain ⟨j, hj⟩ : ∃ j : Nat, j = b - 1 := ⟨_, rfl⟩
  obtain ⟨dk, hdk⟩ : ∃ dk : Array Int, dk = Sort.swp d a pivot := ⟨_, rfl⟩
  have hs : dk.size = N := by rw [hdk, size_swp]; exact hd
  have hai : a < i := by omega
  have hij : i ≤ j + 1 := by omega
  have hjb : j < b := by omega
  have Hi : Hid (i = a + 1) := hi
  have Hj : Hid (j = b - 1) := hj
  have Hdk : Hid (dk = Sort.swp d a pivot) := hdk
  clear hi hj hdk
  go_enter Yba.func33, Yba.ntmps33
  go_wp2_with (show Calls Yba.prog 67 _ _ _; refine (HH.out.swapI h hd a pivot _ _ rfl rfl (by omega) (by omega)).mono ?_; rintro e W1 ⟨rfl, hR0, hk0⟩)
  rw [show ((a : Int) + 1) = (i : Int) by have := Hi.out; omega, show ((b : Int) - 1) = (j : Int) by have := Hj.out; omega]
  have hR : Hid (R dk W1) := by rw [Hdk.out]; exact hR0
  clear hR0
  go_loopw [10] (fun vi w1 => ∃ (i' : Nat), vi = .int .i64 i' ∧ i ≤ i' ∧ i' ≤ j + 1 ∧ Hid (R dk w1) ∧
      Hid (Sort.scanUp (fun x => gt x dk[a]!) dk j i' = Sort.scanUp (fun x => gt x dk[a]!) dk j i))
    (fun vi _ => j + 1 - (intOf vi).toNat)
  case atStart => exact ⟨i, rfl, Nat.le_refl _, hij, hR, rfl⟩
  case round =>
    obtain ⟨i', rfl, hii, hij', hRi, hsc⟩ := hrel
    by_cases hle : i' ≤ j
    · cases hlv : gt dk[i']! dk[a]! with
      | true =>
        go_wp2_with (show Calls Yba.prog 66 _ _ _; refine (HH.out.lessI hRi.out hs i' a _ _ (by omega) (by omega) (by omega) (by omega) true hlv).mono ?_; rintro e w1 ⟨rfl, hR1, hk1⟩)
        go_roundw
        case rel => exact ⟨i' + 1, by go_num, by omega, by omega, hR1, (scanUp_go (fun x => gt x dk[a]!) dk j i' hle hlv).symm.trans hsc.out⟩
        case measure => simp [intOf]; omega
      | false =>
        have hi2 : Hid (i' = Sort.scanUp (fun x => gt x dk[a]!) dk j i) := (scanUp_end (fun x => gt x dk[a]!) dk j i' (Or.inr hlv)).symm.trans hsc.out
        go_wp2_with (show Calls Yba.prog 66 _ _ _; refine (HH.out.lessI hRi.out hs i' a _ _ (by omega) (by omega) (by omega) (by omega) false hlv).mono ?_; rintro e w1 ⟨rfl, hR1, hk1⟩)
        clear hsc
        go_loopw [11] (fun vj w2 => ∃ (j' : Nat), vj = .int .i64 j' ∧ j' ≤ j ∧ i' ≤ j' + 1 ∧ Hid (R dk w2) ∧
            Hid (Sort.scanDown (fun x => !gt x dk[a]!) dk i' j' = Sort.scanDown (fun x => !gt x dk[a]!) dk i' j))
          (fun vj _ => (intOf vj).toNat)
        case atStart => exact ⟨j, rfl, Nat.le_refl _, hij', hR1, rfl⟩
        case round =>
          obtain ⟨j', rfl, hjj, hij2, hRj, hsd⟩ := hrel
          by_cases hle2 : i' ≤ j'
          · cases hlv2 : gt dk[j']! dk[a]! with
            | false =>
              go_wp2_with (show Calls Yba.prog 66 _ _ _; refine (HH.out.lessI hRj.out hs j' a _ _ (by omega) (by omega) (by omega) (by omega) false hlv2).mono ?_; rintro e w1 ⟨rfl, hR1, hk1⟩)
              go_roundw
              case rel => exact ⟨j' - 1, by go_num, by omega, by omega, hR1, (scanDown_go (fun x => !gt x dk[a]!) dk i' j' hle2 (by omega) (by simp [hlv2])).symm.trans hsd.out⟩
              case measure => simp [intOf]; omega
            | true =>
              have hj2 : Hid (j' = Sort.scanDown (fun x => !gt x dk[a]!) dk i' j) := (scanDown_end (fun x => !gt x dk[a]!) dk i' j' (Or.inr (by simp [hlv2]))).symm.trans hsd.out
              have hlt3 := part_scans_lt gt a i j dk (by omega) hi2.out hj2.out hle2
              go_wp2_with (first | (show Calls Yba.prog 66 _ _ _; refine (HH.out.lessI hRj.out hs j' a _ _ (by omega) (by omega) (by omega) (by omega) true hlv2).mono ?_; rintro e w1 ⟨rfl, hR1, hk1⟩) | (show Calls Yba.prog 67 _ _ _; refine (HH.out.swapI hR1 hs i' j' _ _ (by omega) (by omega) (by omega) (by omega)).mono ?_; rintro e w2 ⟨rfl, hR2, hk2⟩))
              (try rw [decide_eq_false (show ¬ j' < i' by omega)])
              obtain ⟨I0, hI0⟩ : ∃ I0 : Nat, I0 = i' + 1 := ⟨_, rfl⟩
              obtain ⟨J0, hJ0⟩ : ∃ J0 : Nat, J0 = j' - 1 := ⟨_, rfl⟩
              obtain ⟨D0, hD0⟩ : ∃ D0 : Array Int, D0 = Sort.swp dk i' j' := ⟨_, rfl⟩
              have PF : Hid (Sort.partition gt d a b pivot = ((Sort.partLoop gt a I0 J0 D0).1, false, Sort.swp (Sort.partLoop gt a I0 J0 D0).2 (Sort.partLoop gt a I0 J0 D0).1 a)) := by
                rw [hI0, hJ0, hD0]; exact part_first_go gt d a b pivot Hi.out Hj.out Hdk.out hi2.out hj2.out (by omega)
              have HI0 : Hid (I0 = i' + 1 ∧ J0 = j' - 1 ∧ D0 = Sort.swp dk i' j') := ⟨hI0, hJ0, hD0⟩
              clear hI0 hJ0 hD0
              go_loopw [10, 11] (fun vi vj wr => ∃ (i j : Nat) (dk : Array Int), vi = .int .i64 i ∧ vj = .int .i64 j ∧ a < i ∧ i ≤ j + 1 ∧ j < b ∧ dk.size = N ∧ Hid (R dk wr) ∧
                  Hid (Sort.partLoop gt a i j dk = Sort.partLoop gt a I0 J0 D0))
                (fun vi vj _ => (intOf vj).toNat + 1 - (intOf vi).toNat)
              case atStart => exact ⟨i' + 1, j' - 1, Sort.swp dk i' j', by go_num, by go_num, by omega, by omega, by omega, by rw [size_swp]; exact hs, hR2, (show Hid _ from by obtain ⟨e1, e2, e3⟩ := HI0.out; rw [e1, e2, e3]; exact rfl)⟩
              case round =>
                clear HI0 hj2 hi2 hlt3 Hi Hj Hdk hs hk1 hk2 hR1 hR2 hlv hlv2
                obtain ⟨i, j, dk, rfl, rfl, hai, hij, hjb, hs, hR, AE⟩ := hrel
                go_wp2_with fail
                go_loopw [10] (fun vi w1 => ∃ (i' : Nat), vi = .int .i64 i' ∧ i ≤ i' ∧ i' ≤ j + 1 ∧ Hid (R dk w1) ∧
                    Hid (Sort.scanUp (fun x => gt x dk[a]!) dk j i' = Sort.scanUp (fun x => gt x dk[a]!) dk j i))
                  (fun vi _ => j + 1 - (intOf vi).toNat)
                case atStart => exact ⟨i, rfl, Nat.le_refl _, hij, hR, rfl⟩
                case round =>
                  obtain ⟨i', rfl, hii, hij', hRi, hsc⟩ := hrel
                  by_cases hle : i' ≤ j
                  · cases hlv : gt dk[i']! dk[a]! with
                    | true =>
                      go_wp2_with (show Calls Yba.prog 66 _ _ _; refine (HH.out.lessI hRi.out hs i' a _ _ (by omega) (by omega) (by omega) (by omega) true hlv).mono ?_; rintro e w1 ⟨rfl, hR1, hk1⟩)
                      go_roundw
                      case rel => exact ⟨i' + 1, by go_num, by omega, by omega, hR1, (scanUp_go (fun x => gt x dk[a]!) dk j i' hle hlv).symm.trans hsc.out⟩
                      case measure => simp [intOf]; omega
                    | false =>
                      have hi2 : Hid (i' = Sort.scanUp (fun x => gt x dk[a]!) dk j i) := (scanUp_end (fun x => gt x dk[a]!) dk j i' (Or.inr hlv)).symm.trans hsc.out
                      go_wp2_with (show Calls Yba.prog 66 _ _ _; refine (HH.out.lessI hRi.out hs i' a _ _ (by omega) (by omega) (by omega) (by omega) false hlv).mono ?_; rintro e w1 ⟨rfl, hR1, hk1⟩)
                      clear hsc
                      go_loopw [11] (fun vj w2 => ∃ (j' : Nat), vj = .int .i64 j' ∧ j' ≤ j ∧ i' ≤ j' + 1 ∧ Hid (R dk w2) ∧
                          Hid (Sort.scanDown (fun x => !gt x dk[a]!) dk i' j' = Sort.scanDown (fun x => !gt x dk[a]!) dk i' j))
                        (fun vj _ => (intOf vj).toNat)
                      case atStart => exact ⟨j, rfl, Nat.le_refl _, hij', hR1, rfl⟩
                      case round =>
                        obtain ⟨j', rfl, hjj, hij2, hRj, hsd⟩ := hrel
                        by_cases hle2 : i' ≤ j'
                        · cases hlv2 : gt dk[j']! dk[a]! with
                          | false =>
                            go_wp2_with (show Calls Yba.prog 66 _ _ _; refine (HH.out.lessI hRj.out hs j' a _ _ (by omega) (by omega) (by omega) (by omega) false hlv2).mono ?_; rintro e w1 ⟨rfl, hR1, hk1⟩)
                            go_roundw
                            case rel => exact ⟨j' - 1, by go_num, by omega, by omega, hR1, (scanDown_go (fun x => !gt x dk[a]!) dk i' j' hle2 (by omega) (by simp [hlv2])).symm.trans hsd.out⟩
                            case measure => simp [intOf]; omega
                          | true =>
                            have hj2 : Hid (j' = Sort.scanDown (fun x => !gt x dk[a]!) dk i' j) := (scanDown_end (fun x => !gt x dk[a]!) dk i' j' (Or.inr (by simp [hlv2]))).symm.trans hsd.out
                            have hlt3 := part_scans_lt gt a i j dk (by omega) hi2.out hj2.out hle2
                            go_wp2_with (first | (show Calls Yba.prog 66 _ _ _; refine (HH.out.lessI hRj.out hs j' a _ _ (by omega) (by omega) (by omega) (by omega) true hlv2).mono ?_; rintro e w1 ⟨rfl, hR1, hk1⟩) | (show Calls Yba.prog 67 _ _ _; refine (HH.out.swapI hR1 hs i' j' _ _ (by omega) (by omega) (by omega) (by omega)).mono ?_; rintro e w2 ⟨rfl, hR2, hk2⟩))
                            go_roundw
                            case rel => exact ⟨i' + 1, j' - 1, Sort.swp dk i' j', by go_num, by go_num, by omega, by omega, by omega, by rw [size_swp]; exact hs, hR2, (show Hid _ from by rw [← AE.out]; exact (part_go gt a i j dk hi2.out hj2.out (by omega)).symm)⟩
                            case measure => simp [intOf]; omega
                        · have hj2 : Hid (j' = Sort.scanDown (fun x => !gt x dk[a]!) dk i' j) := (scanDown_end (fun x => !gt x dk[a]!) dk i' j' (Or.inl hle2)).symm.trans hsd.out
                          go_wp2_with (show Calls Yba.prog 67 _ _ _; refine (HH.out.swapI hRj.out hs j' a _ _ (by omega) (by omega) (by omega) (by omega)).mono ?_; rintro e w2 ⟨rfl, hR2, hk2⟩)
                          go_ret2
                          have e := part_break gt a i j dk hi2.out hj2.out (by omega)
                          rw [PF.out, ← AE.out, e]
                          exact ⟨rfl, hR2⟩
                  · have hi2 : Hid (i' = Sort.scanUp (fun x => gt x dk[a]!) dk j i) := (scanUp_end (fun x => gt x dk[a]!) dk j i' (Or.inl hle)).symm.trans hsc.out
                    go_wp2_with fail
                    clear hsc
                    go_loopw [11] (fun vj w2 => ∃ (j' : Nat), vj = .int .i64 j' ∧ j' ≤ j ∧ i' ≤ j' + 1 ∧ Hid (R dk w2) ∧
                        Hid (Sort.scanDown (fun x => !gt x dk[a]!) dk i' j' = Sort.scanDown (fun x => !gt x dk[a]!) dk i' j))
                      (fun vj _ => (intOf vj).toNat)
                    case atStart => exact ⟨j, rfl, Nat.le_refl _, hij', hRi, rfl⟩
                    case round =>
                      obtain ⟨j', rfl, hjj, hij2, hRj, hsd⟩ := hrel
                      by_cases hle2 : i' ≤ j'
                      · exfalso; omega
                      · have hj2 : Hid (j' = Sort.scanDown (fun x => !gt x dk[a]!) dk i' j) := (scanDown_end (fun x => !gt x dk[a]!) dk i' j' (Or.inl hle2)).symm.trans hsd.out
                        go_wp2_with (show Calls Yba.prog 67 _ _ _; refine (HH.out.swapI hRj.out hs j' a _ _ (by omega) (by omega) (by omega) (by omega)).mono ?_; rintro e w2 ⟨rfl, hR2, hk2⟩)
                        go_ret2
                        have e := part_break gt a i j dk hi2.out hj2.out (by omega)
                        rw [PF.out, ← AE.out, e]
                        exact ⟨rfl, hR2⟩
          · have hj2 : Hid (j' = Sort.scanDown (fun x => !gt x dk[a]!) dk i' j) := (scanDown_end (fun x => !gt x dk[a]!) dk i' j' (Or.inl hle2)).symm.trans hsd.out
            go_wp2_with (show Calls Yba.prog 67 _ _ _; refine (HH.out.swapI hRj.out hs j' a _ _ (by omega) (by omega) (by omega) (by omega)).mono ?_; rintro e w2 ⟨rfl, hR2, hk2⟩)
            go_ret2
            have e := part_first_break gt d a b pivot Hi.out Hj.out Hdk.out hi2.out hj2.out (by omega)
            rw [e]
            exact ⟨rfl, hR2⟩
    · have hi2 : Hid (i' = Sort.scanUp (fun x => gt x dk[a]!) dk j i) := (scanUp_end (fun x => gt x dk[a]!) dk j i' (Or.inl hle)).symm.trans hsc.out
      go_wp2_with fail
      clear hsc
      go_loopw [11] (fun vj w2 => ∃ (j' : Nat), vj = .int .i64 j' ∧ j' ≤ j ∧ i' ≤ j' + 1 ∧ Hid (R dk w2) ∧
          Hid (Sort.scanDown (fun x => !gt x dk[a]!) dk i' j' = Sort.scanDown (fun x => !gt x dk[a]!) dk i' j))
        (fun vj _ => (intOf vj).toNat)
      case atStart => exact ⟨j, rfl, Nat.le_refl _, hij', hRi, rfl⟩
      case round =>
        obtain ⟨j', rfl, hjj, hij2, hRj, hsd⟩ := hrel
        by_cases hle2 : i' ≤ j'
        · exfalso; omega
        · have hj2 : Hid (j' = Sort.scanDown (fun x => !gt x dk[a]!) dk i' j) := (scanDown_end (fun x => !gt x dk[a]!) dk i' j' (Or.inl hle2)).symm.trans hsd.out
          go_wp2_with (show Calls Yba.prog 67 _ _ _; refine (HH.out.swapI hRj.out hs j' a _ _ (by omega) (by omega) (by omega) (by omega)).mono ?_; rintro e w2 ⟨rfl, hR2, hk2⟩)
          go_ret2
          have e := part_first_break gt d a b pivot Hi.out Hj.out Hdk.out hi2.out hj2.out (by omega)
          rw [e]
          exact ⟨rfl, hR2⟩
end Go.Proofs.Ybulkpec
