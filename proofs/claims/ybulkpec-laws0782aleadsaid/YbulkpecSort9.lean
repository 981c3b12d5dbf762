/- sort.breakPatterns over *latestFirst. -/
import Derived.Test.YbulkpecSort8
set_option linter.unusedVariables false
namespace Go.Proofs.Ybulkpec
open Go.RowKit Go.Sort Go.Lib

set_option maxHeartbeats 4000000 in
set_option maxRecDepth 100000 in
theorem breakPatterns_go {R : Array Int → World → Prop} {base N : Nat} {p : Option Addr} (H : Rep R base p N) (a L : Nat) (d : Array Int) (hd : d.size = N) (w : World) (h : R d w) (hb : a + L ≤ N) (hN : N < 65536) (h8 : 8 ≤ L) :
    Calls Yba.prog 28 #[.iface 61 (.pointer p), .int .i64 a, .int .i64 ((a + L : Nat) : Int)] w fun e w' => e = .returned (.tuple #[]) ∧ R (breakPatterns d a (a + L)) w' := by
  have mS := reach_swap p
  rw [breakPatterns_eq d a L h8]
  obtain ⟨M, hM⟩ : ∃ M : Nat, M = 1 <<< bitsLen L := ⟨_, rfl⟩
  have hM1 : 1 ≤ M := by rw [hM, Nat.one_shiftLeft]; exact Nat.two_pow_pos _
  have hM2 : M ≤ 2 * L := by rw [hM, Nat.one_shiftLeft]; exact two_pow_bitsLen_le (by omega)
  have hNP : ∀ w, Calls Yba.prog 35 #[.int .i64 (L : Int)] w fun e w' => e = .returned (.int .u64 (M : Int)) ∧ w' = w := by rw [hM]; exact fun w => nextPow_any L (by omega) w
  rw [← hM]
  clear hM
  have hLz : ((a : Int) + (L : Int) - (a : Int)) = (L : Int) := by omega
  have h8z : (8 : Int) ≤ (L : Int) := by omega
  have HH : Hid (Rep R base p N) := H
  have HR0 : Hid (R d w) := h
  clear H h
  go_enter Yba.func28, Yba.ntmps28
  go_wp2_with (go_at_call 35; refine (hNP _).mono ?_; rintro e w' ⟨rfl, rfl⟩)
  go_loopg [9] 3 (fun g1 vi wr => ∃ (t : Nat) (r : UInt64) (dk : Array Int), vi = .int .i64 ((a : Int) + (L : Int) / 4 * 2 - 1 + (t : Int)) ∧ t ≤ 3 ∧ 3 - t ≤ g1 ∧ dk.size = N ∧ Hid (R dk wr) ∧
      Hid (wr.cell? ⟨w.heap.size, 0, none⟩ = some (.int .u64 (r.toNat : Int)) ∧ wr.frozen? ⟨w.heap.size, 0, none⟩ = false) ∧
      Hid (bpRest a L M (a + L / 4 * 2 - 1) (3 - t) t (r, dk) = bpRest a L M (a + L / 4 * 2 - 1) 3 0 (UInt64.ofNat L, d)))
  case atStart =>
    refine ⟨0, UInt64.ofNat L, d, by simp, by omega, by omega, hd, HH.out.alloc _ HR0.out, ⟨?_, by simp⟩, rfl⟩
    rw [show (UInt64.ofNat L).toNat = L from by simp; omega]
    simp
  case round =>
    obtain ⟨t, r, dk, rfl, ht, hg1, hds, S, CF, HR⟩ := hrel
    by_cases ht3 : t < 3
    · have hle : (a : Int) + (L : Int) / 4 * 2 - 1 + (t : Int) ≤ (a : Int) + (L : Int) / 4 * 2 + 1 := by omega
      obtain ⟨Rr, hRr⟩ : ∃ Rr : Nat, Rr = r.toNat := ⟨_, rfl⟩
      have lR : Rr < 18446744073709551616 := by rw [hRr]; exact r.toNat_lt
      obtain ⟨R', hR'⟩ : ∃ R' : Nat, R' = xorNextN Rr := ⟨_, rfl⟩
      have lR' : R' < 18446744073709551616 := by rw [hR']; exact xorNextN_lt Rr lR
      obtain ⟨O, hO⟩ : ∃ O : Nat, O = R' &&& (M - 1) := ⟨_, rfl⟩
      have lO : O ≤ M - 1 := by rw [hO]; exact Nat.and_le_right
      have eAnd : bits .and .u64 (R' : Int) ((M : Int) - 1) = (O : Int) := by
        rw [show ((M : Int) - 1) = ((M - 1 : Nat) : Int) by omega, bits_and_u64_nat _ _ lR' (by omega), hO]
      obtain ⟨cR, fR⟩ := CF.out
      rw [← hRr] at cR
      have hbw : base ≤ w.heap.size := HH.out.base_le HR0.out
      have hNext : Calls Yba.prog 36 #[.pointer (some ⟨w.heap.size, 0, none⟩)] wr fun e w' => e = .returned (.int .u64 (R' : Int)) ∧ Hid (R dk w' ∧ w'.cell? ⟨w.heap.size, 0, none⟩ = some (.int .u64 (R' : Int)) ∧ w'.frozen? ⟨w.heap.size, 0, none⟩ = false) := by
        rw [hR']
        refine (next_any w.heap.size Rr lR wr cR fR).mono ?_
        rintro e w' ⟨rfl, rfl⟩
        refine ⟨rfl, HH.out.drewN 3 (HH.out.setNew _ S.out hbw), ?_, ?_⟩
        · rw [World.cell?_drewN]; exact World.cell?_setCell_same _ _ _ cR
        · rw [World.frozen?_drewN]; simpa using fR
      have HN : Hid (R' = (xorNext r).toNat ∧ O = (xorNext r).toNat &&& (M - 1)) := by
        have e : R' = (xorNext r).toNat := by rw [hR', hRr, xorNext_toNat]
        exact ⟨e, by rw [hO, e]⟩
      have HBW : Hid (base ≤ w.heap.size) := hbw
      clear hRr hR' hO cR fR CF hbw
      by_cases hLO : L ≤ O
      · have hLOz : (L : Int) ≤ (O : Int) := by omega
        go_wp2_with (first | (go_at_call 36; refine hNext.mono ?_; rintro e w1 ⟨rfl, h1⟩) | (show Calls Yba.prog 67 _ _ _; refine (HH.out.swapI h1.out.1 hds (a + L / 4 * 2 - 1 + t) (a + (O - L)) _ _ (by omega) (by omega) (by omega) (by omega)).mono ?_; rintro e w2 ⟨rfl, hR2, hk2⟩))
        go_roundg (3 - (t + 1))
        case measure => omega
        case rel => exact ⟨t + 1, xorNext r, swp dk (a + L / 4 * 2 - 1 + t) (a + (O - L)), by congr 1; push_cast; omega, by omega, Nat.le_refl _, by rw [size_swp]; exact hds, hR2, ⟨by rw [← HN.out.1]; exact hk2.cell (a := ⟨w.heap.size, 0, none⟩) HBW.out h1.out.2.1, hk2.frozen (a := ⟨w.heap.size, 0, none⟩) HBW.out h1.out.2.1 h1.out.2.2⟩,
          (show Hid _ from by rw [← HR.out, bp_step a L M _ t r dk (O - L) ht3 (by rw [← HN.out.2, if_pos (by omega)])]; exact rfl)⟩
      · have hLOz : ¬ (L : Int) ≤ (O : Int) := by omega
        go_wp2_with (first | (go_at_call 36; refine hNext.mono ?_; rintro e w1 ⟨rfl, h1⟩) | (show Calls Yba.prog 67 _ _ _; refine (HH.out.swapI h1.out.1 hds (a + L / 4 * 2 - 1 + t) (a + O) _ _ (by omega) (by omega) (by omega) (by omega)).mono ?_; rintro e w2 ⟨rfl, hR2, hk2⟩))
        go_roundg (3 - (t + 1))
        case measure => omega
        case rel => exact ⟨t + 1, xorNext r, swp dk (a + L / 4 * 2 - 1 + t) (a + O), by congr 1; push_cast; omega, by omega, Nat.le_refl _, by rw [size_swp]; exact hds, hR2, ⟨by rw [← HN.out.1]; exact hk2.cell (a := ⟨w.heap.size, 0, none⟩) HBW.out h1.out.2.1, hk2.frozen (a := ⟨w.heap.size, 0, none⟩) HBW.out h1.out.2.1 h1.out.2.2⟩,
          (show Hid _ from by rw [← HR.out, bp_step a L M _ t r dk O ht3 (by rw [← HN.out.2, if_neg (by omega)])]; exact rfl)⟩
    · obtain rfl : t = 3 := by omega
      have hle : ¬ ((a : Int) + (L : Int) / 4 * 2 - 1 + ((3 : Nat) : Int) ≤ (a : Int) + (L : Int) / 4 * 2 + 1) := by omega
      go_wp2_with fail
      go_end0
      refine ⟨rfl, ?_⟩
      rw [← HR.out]
      exact S.out

set_option maxHeartbeats 1000000 in
theorem breakPatterns_any {R : Array Int → World → Prop} {base N : Nat} {p : Option Addr} (H : Rep R base p N) (a b : Nat) (d : Array Int) (hd : d.size = N) (w : World) (h : R d w) (hab : a ≤ b) (hb : b ≤ N) (hN : N < 65536) :
    Calls Yba.prog 28 #[.iface 61 (.pointer p), .int .i64 a, .int .i64 b] w fun e w' => e = .returned (.tuple #[]) ∧ R (breakPatterns d a b) w' := by
  obtain ⟨L, rfl⟩ : ∃ L, b = a + L := ⟨b - a, by omega⟩
  by_cases h8 : 8 ≤ L
  · exact breakPatterns_go H a L d hd w h hb hN h8
  · have hv : breakPatterns d a (a + L) = d := by unfold breakPatterns; simp only [Nat.add_sub_cancel_left]; rw [if_neg h8]
    rw [hv]
    have hLz : ((a : Int) + (L : Int) - (a : Int)) = (L : Int) := by omega
    have h8z : ¬ (8 : Int) ≤ (L : Int) := by omega
    have HR : Hid (R d w) := h
    clear H h
    go_enter Yba.func28, Yba.ntmps28
    go_wp2_with fail
    go_end0
    exact ⟨rfl, HR.out⟩
end Go.Proofs.Ybulkpec
