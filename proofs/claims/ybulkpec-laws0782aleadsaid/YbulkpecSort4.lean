/- sort.choosePivot over *latestFirst. -/
import Derived.Test.YbulkpecSort3
set_option linter.unusedVariables false
namespace Go.Proofs.Ybulkpec
open Go.RowKit Go.Sort

theorem Cnt.start {R : Array Int → World → Prop} {base N : Nat} {p : Option Addr} (H : Rep R base p N) {d : Array Int} {w : World} (h : R d w) : Cnt R base w.heap.size d 0 (w.alloc (.cells #[.int .i64 0] 3)) :=
  ⟨H.alloc _ h, H.base_le h, World.cell?_alloc_at _ _ _ _ rfl, by simp⟩

set_option maxHeartbeats 2000000 in
set_option maxRecDepth 100000 in
theorem choosePivot_any {R : Array Int → World → Prop} {base N : Nat} {p : Option Addr} (H : Rep R base p N) (a b : Nat) (d : Array Int) (hd : d.size = N) (W : World) (h : R d W) (hab : a < b) (hb : b ≤ N) (hN : N ≤ 1000000) :
    Calls Yba.prog 29 #[.iface 61 (.pointer p), .int .i64 a, .int .i64 b] W fun e w' => e = .returned (.tuple #[.int .i64 (choosePivot gt d a b).1, .int .i64 (hintCode (choosePivot gt d a b).2)]) ∧ R d w' := by
  rw [choosePivot_eq]
  have HC0 : Hid (Cnt R base W.heap.size d 0 (W.alloc (.cells #[.int .i64 0] 3))) := Cnt.start H h
  have HH : Hid (Rep R base p N) := H
  clear H h
  obtain ⟨I, hI⟩ : ∃ I : Nat, I = a + (b - a) / 4 * 1 := ⟨_, rfl⟩
  obtain ⟨J, hJ⟩ : ∃ J : Nat, J = a + (b - a) / 4 * 2 := ⟨_, rfl⟩
  obtain ⟨K, hK⟩ : ∃ K : Nat, K = a + (b - a) / 4 * 3 := ⟨_, rfl⟩
  have eI : ((a : Int) + ((b : Int) - (a : Int)) / 4) = (I : Int) := by omega
  have eJ : ((a : Int) + ((b : Int) - (a : Int)) / 4 * 2) = (J : Int) := by omega
  have eK : ((a : Int) + ((b : Int) - (a : Int)) / 4 * 3) = (K : Int) := by omega
  by_cases h8 : b - a ≥ 8
  · by_cases h50 : b - a ≥ 50
    · obtain ⟨i1, s1, h1⟩ : ∃ i1 s1, medianAdjacent gt d I 0 = (i1, s1) := ⟨_, _, rfl⟩
      obtain ⟨j1, s2, h2⟩ : ∃ j1 s2, medianAdjacent gt d J s1 = (j1, s2) := ⟨_, _, rfl⟩
      obtain ⟨k1, s3, h3⟩ : ∃ k1 s3, medianAdjacent gt d K s2 = (k1, s3) := ⟨_, _, rfl⟩
      obtain ⟨q, s, h4⟩ : ∃ q s, median gt d i1 j1 k1 s3 = (q, s) := ⟨_, _, rfl⟩
      have hraw : rawPivot gt d a b = (q, s) := by simp only [rawPivot, if_pos h8, if_pos h50, ← hI, ← hJ, ← hK, h1, h2, h3, h4]
      have m1 := medianAdjacent_mem gt d I 0; rw [h1] at m1
      have m2 := medianAdjacent_mem gt d J s1; rw [h2] at m2
      have m3 := medianAdjacent_mem gt d K s2; rw [h3] at m3
      have n1 := medianAdjacent_count gt d I 0; rw [h1] at n1
      have n2 := medianAdjacent_count gt d J s1; rw [h2] at n2
      have n3 := medianAdjacent_count gt d K s2; rw [h3] at n3
      simp only [] at m1 m2 m3 n1 n2 n3
      have c1 : Calls Yba.prog 37 #[.iface 61 (.pointer p), .int .i64 (I : Int), .pointer (some ⟨W.heap.size, 0, none⟩)] (W.alloc (.cells #[.int .i64 0] 3)) fun e w' => e = .returned (.int .i64 (i1 : Int)) ∧ Hid (Cnt R base W.heap.size d s1 w') := by
        have h := medianAdjacent_any HH.out I W.heap.size 0 d hd _ HC0.out (by omega) (by omega) (by omega) hN; rw [h1] at h; exact h
      have c2 : Hid (∀ w1, Cnt R base W.heap.size d s1 w1 → Calls Yba.prog 37 #[.iface 61 (.pointer p), .int .i64 (J : Int), .pointer (some ⟨W.heap.size, 0, none⟩)] w1 fun e w' => e = .returned (.int .i64 (j1 : Int)) ∧ Hid (Cnt R base W.heap.size d s2 w')) := fun w1 hw => by
        have h := medianAdjacent_any HH.out J W.heap.size s1 d hd w1 hw (by omega) (by omega) (by omega) hN; rw [h2] at h; exact h
      have c3 : Hid (∀ w1, Cnt R base W.heap.size d s2 w1 → Calls Yba.prog 37 #[.iface 61 (.pointer p), .int .i64 (K : Int), .pointer (some ⟨W.heap.size, 0, none⟩)] w1 fun e w' => e = .returned (.int .i64 (k1 : Int)) ∧ Hid (Cnt R base W.heap.size d s3 w')) := fun w1 hw => by
        have h := medianAdjacent_any HH.out K W.heap.size s2 d hd w1 hw (by omega) (by omega) (by omega) hN; rw [h3] at h; exact h
      have c4 : Hid (∀ w1, Cnt R base W.heap.size d s3 w1 → Calls Yba.prog 38 #[.iface 61 (.pointer p), .int .i64 (i1 : Int), .int .i64 (j1 : Int), .int .i64 (k1 : Int), .pointer (some ⟨W.heap.size, 0, none⟩)] w1 fun e w' => e = .returned (.int .i64 (q : Int)) ∧ Hid (Cnt R base W.heap.size d s w')) := fun w1 hw => by
        have h := median_any HH.out i1 j1 k1 W.heap.size s3 d hd w1 hw (by omega) (by omega) (by omega) (by omega) hN; rw [h4] at h; exact h
      rw [hraw]
      obtain ⟨Hc, hHc⟩ : ∃ Hc : Int, Hc = hintCode (hintOf s) := ⟨_, rfl⟩
      have hh0 : Hid (s = 0 → Hc = 1) := fun h => by rw [hHc, h]; rfl
      have hh12 : Hid (s = 12 → Hc = 2) := fun h => by rw [hHc, h]; rfl
      have hhx : Hid (s ≠ 0 → s ≠ 12 → Hc = 0) := fun h1 h2 => by rw [hHc]; unfold hintOf; rw [if_neg h1, if_neg h2]; rfl
      show Calls Yba.prog 29 _ W fun e w' => e = .returned (.tuple #[.int .i64 (q : Int), .int .i64 (hintCode (hintOf s))]) ∧ R d w'
      rw [← hHc]
      clear hHc hraw h1 h2 h3 h4 hI hJ hK m1 m2 m3
      go_enter Yba.func29, Yba.ntmps29
      go_wp2_with (first
        | (go_at_call_of 37 (Value.int .i64 (I : Int)); refine c1.mono ?_; rintro e w1 ⟨rfl, hC1⟩)
        | (go_at_call_of 37 (Value.int .i64 (J : Int)); refine (c2.out _ hC1.out).mono ?_; rintro e w2 ⟨rfl, hC2⟩)
        | (go_at_call_of 37 (Value.int .i64 (K : Int)); refine (c3.out _ hC2.out).mono ?_; rintro e w3 ⟨rfl, hC3⟩)
        | (go_at_call 38; refine (c4.out _ hC3.out).mono ?_; rintro e w4 ⟨rfl, hC4⟩; have cc := hC4.out.cell))
      all_goals
        go_ret2
        refine ⟨?_, hC4.out.row⟩
        first
          | (have e0 : (s : Int) = 0 := of_beq_int (by assumption)
             rw [hh0.out (by omega)]; rfl)
          | (have e1 : (s : Int) = 12 := of_beq_int (by assumption)
             rw [hh12.out (by omega)]; rfl)
          | (have e0 : (s : Int) ≠ 0 := of_bne_int (by assumption)
             have e1 : (s : Int) ≠ 12 := of_bne_int (by assumption)
             rw [hhx.out (by omega) (by omega)]; rfl)
          | (rw [hh0.out (by omega)]; rfl)
    · obtain ⟨q, s, h4⟩ : ∃ q s, median gt d I J K 0 = (q, s) := ⟨_, _, rfl⟩
      have hraw : rawPivot gt d a b = (q, s) := by simp only [rawPivot, if_pos h8, if_neg h50, ← hI, ← hJ, ← hK, h4]
      have c4 : Calls Yba.prog 38 #[.iface 61 (.pointer p), .int .i64 (I : Int), .int .i64 (J : Int), .int .i64 (K : Int), .pointer (some ⟨W.heap.size, 0, none⟩)] (W.alloc (.cells #[.int .i64 0] 3)) fun e w' => e = .returned (.int .i64 (q : Int)) ∧ Hid (Cnt R base W.heap.size d s w') := by
        have h := median_any HH.out I J K W.heap.size 0 d hd _ HC0.out (by omega) (by omega) (by omega) (by omega) hN; rw [h4] at h; exact h
      rw [hraw]
      obtain ⟨Hc, hHc⟩ : ∃ Hc : Int, Hc = hintCode (hintOf s) := ⟨_, rfl⟩
      have hh0 : Hid (s = 0 → Hc = 1) := fun h => by rw [hHc, h]; rfl
      have hh12 : Hid (s = 12 → Hc = 2) := fun h => by rw [hHc, h]; rfl
      have hhx : Hid (s ≠ 0 → s ≠ 12 → Hc = 0) := fun h1 h2 => by rw [hHc]; unfold hintOf; rw [if_neg h1, if_neg h2]; rfl
      show Calls Yba.prog 29 _ W fun e w' => e = .returned (.tuple #[.int .i64 (q : Int), .int .i64 (hintCode (hintOf s))]) ∧ R d w'
      rw [← hHc]
      clear hHc hraw h4 hI hJ hK
      go_enter Yba.func29, Yba.ntmps29
      go_wp2_with (go_at_call 38; refine c4.mono ?_; rintro e w4 ⟨rfl, hC4⟩; have cc := hC4.out.cell)
      all_goals
        go_ret2
        refine ⟨?_, hC4.out.row⟩
        first
          | (have e0 : (s : Int) = 0 := of_beq_int (by assumption)
             rw [hh0.out (by omega)]; rfl)
          | (have e1 : (s : Int) = 12 := of_beq_int (by assumption)
             rw [hh12.out (by omega)]; rfl)
          | (have e0 : (s : Int) ≠ 0 := of_bne_int (by assumption)
             have e1 : (s : Int) ≠ 12 := of_bne_int (by assumption)
             rw [hhx.out (by omega) (by omega)]; rfl)
          | (rw [hh0.out (by omega)]; rfl)
  · have hraw : rawPivot gt d a b = (J, 0) := by simp only [rawPivot, if_neg h8, ← hJ]
    rw [hraw]
    show Calls Yba.prog 29 _ W fun e w' => e = .returned (.tuple #[.int .i64 (J : Int), .int .i64 1]) ∧ R d w'
    have h8z : ¬ (8 : Int) ≤ (b : Int) - (a : Int) := by omega
    clear hraw hI hJ hK
    go_enter Yba.func29, Yba.ntmps29
    go_wp2_with fail
    go_ret2
    exact ⟨rfl, HC0.out.row⟩
end Go.Proofs.Ybulkpec
