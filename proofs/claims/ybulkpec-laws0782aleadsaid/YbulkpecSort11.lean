/- sort.Sort over *latestFirst. -/
import Derived.Test.YbulkpecSort10
set_option linter.unusedVariables false
namespace Go.Proofs.Ybulkpec
open Go.RowKit Go.Sort

set_option maxHeartbeats 2000000 in
set_option maxRecDepth 100000 in
theorem sort_any {R : Array Int → World → Prop} {base N : Nat} {p : Option Addr} (H : Rep R base p N) (hN : N < 65536) (d : Array Int) (hd : d.size = N) (w : World) (h : R d w) :
    Calls Yba.prog 16 #[.iface 61 (.pointer p)] w fun e w' => e = .returned (.tuple #[]) ∧ ∃ d', PermIn 0 N d d' ∧ SortedIn gt 0 N d' ∧ R d' w' := by
  have mN := reach_len p
  have HH : Hid (Rep R base p N) := H
  have HR : Hid (R d w) := h
  clear H h
  by_cases h1 : N ≤ 1
  · have h1z : (N : Int) ≤ 1 := by omega
    go_enter Yba.func16, Yba.ntmps16
    go_wp2_with (show Calls Yba.prog 65 _ _ _; refine (HH.out.len HR.out).mono ?_; rintro e w1 ⟨rfl, hR1⟩)
    (try simp only [Exit.inBlock, Exit.then]); refine bodyPost_ret (results_none rfl _ _ _) rfl ?_
    refine ⟨rfl, d, ?_, ?_, hR1⟩
    · exact ⟨rfl, fun _ _ => rfl, List.Perm.refl _⟩
    · intro i j hi hij hj; exfalso; omega
  · have h1z : ¬ (N : Int) ≤ 1 := by omega
    have wr : IntKind.u64.wrap (N : Int) = N := by simp [IntKind.wrap, IntKind.bits, IntKind.signed]; omega
    have hlim : bitsLen N ≤ 62 := (bitsLen_le_iff N 62).2 (by omega)
    have hp : Hid (∀ w1, R d w1 → Calls Yba.prog 21 #[.iface 61 (.pointer p), .int .i64 0, .int .i64 N, .int .i64 (bitsLen N : Nat)] w1 fun e w' => e = .returned (.tuple #[]) ∧ R (pdq gt d 0 N (bitsLen N) true true) w') := fun w1 hw1 => by
      have := pdqsort_any HH.out hN (N + 1) 0 N (bitsLen N) d w1 (by omega) hd hw1 (Nat.zero_le _) (Nat.le_refl _) (by omega) (Or.inl rfl)
      simpa using this
    have hL : Hid (∀ w1, Calls Yba.prog 20 #[.int .u64 N] w1 fun e w' => e = .returned (.int .i64 (bitsLen N : Nat)) ∧ w' = w1) := fun w1 => len_any N hN w1
    have hs := pdq_sorts gt swo_gt d 0 N (bitsLen N) true true (Nat.zero_le _) (by omega) (Or.inl rfl)
    have HS : Hid _ := hs
    clear hs
    go_enter Yba.func16, Yba.ntmps16
    go_wp2_with (first | (show Calls Yba.prog 65 _ _ _; refine (HH.out.len HR.out).mono ?_; rintro e w1 ⟨rfl, hR1⟩) | (go_at_call 20; refine (hL.out _).mono ?_; rintro e w2 ⟨rfl, rfl⟩) | (go_at_call 21; refine (hp.out _ hR1).mono ?_; rintro e w3 ⟨rfl, hR3⟩))
    go_end0
    exact ⟨rfl, _, HS.out.1, HS.out.2, hR3⟩
end Go.Proofs.Ybulkpec
