/- LawS0786BMixed: the walk. -/
import Derived.Test.YbulkpggCounts
import Derived.Test.YbulkpggSnap
namespace Go.Proofs.Ybulkpgg
open Go.RowKit

set_option maxHeartbeats 1000000 in
theorem mixed_walk (b off len cap : Nat) (op d : Nat → Int) (ab : Nat → Bool) (w : World) (hl : len ≤ 1024) (hb : b < w.heap.size)
    (hc : ∀ i, i < len → w.cell? ⟨b, off + i * 3, none⟩ = some (.int .u8 (op i)) ∧ w.cell? ⟨b, off + i * 3 + 1, none⟩ = some (.int .i64 (d i)) ∧ w.cell? ⟨b, off + i * 3 + 2, none⟩ = some (.bool (ab i)) ∧ 0 ≤ op i ∧ op i ≤ 255) :
    Calls Yba.prog 4 #[.slice (some ⟨b, off, none⟩) len cap] w fun e w' => e = .returned (.bool true) ∧ Below w.heap.size w w' := by
  have hl1 : ¬ (1024 : Int) < (len : Int) := by omega
  go_enter Yba.func4, Yba.ntmps4
  go_wp2
  go_loopw [4, 5, 6, 7, 8, 9] (fun sm n a h p i wr => ∃ (k : Nat) (S : Int) (c q g r : Nat), k ≤ len ∧ c ≤ k ∧ q ≤ c ∧ g ≤ k ∧ r ≤ g ∧ i = .int .i64 k ∧ sm = .int .i64 S ∧ n = .int .u64 c ∧ a = .int .u64 q ∧ h = .int .u64 g ∧ p = .int .u64 r ∧ IsStats wr w.heap.size c S g r q ∧ Below w.heap.size w wr ∧ w.heap.size < wr.heap.size)
    (fun _ _ _ _ _ i _ => len - (intOf i).toNat)
  case atStart =>
    refine ⟨0, 0, 0, 0, 0, 0, Nat.zero_le _, Nat.le_refl _, Nat.le_refl _, Nat.le_refl _, Nat.le_refl _, rfl, rfl, rfl, rfl, rfl, rfl, ?_, (Below.refl _ _).alloc (Nat.le_refl _) _, by simp⟩
    refine ⟨?_, ?_, ?_, ?_, ?_, ?_, ?_, ?_, ?_, ?_⟩ <;> go_simp
  case round =>
    obtain ⟨k, S, c, q, g, r, hk, hck, hq, hg, hr, rfl, rfl, rfl, rfl, rfl, rfl, hI, hbel, hsz⟩ := hrel
    by_cases hlt : k < len
    · have e0 : wr.cell? ⟨b, off + k * 3, none⟩ = some (.int .u8 (op k)) := (hbel.cell (by exact hb)).trans (hc k hlt).1
      have e1 : wr.cell? ⟨b, off + k * 3 + 1, none⟩ = some (.int .i64 (d k)) := (hbel.cell (by exact hb)).trans (hc k hlt).2.1
      have e2 : wr.cell? ⟨b, off + k * 3 + 2, none⟩ = some (.bool (ab k)) := (hbel.cell (by exact hb)).trans (hc k hlt).2.2.1
      have o0 : 0 ≤ op k := (hc k hlt).2.2.2.1
      have o1 : op k ≤ 255 := (hc k hlt).2.2.2.2
      have hIa := hI.alloc hsz
      obtain ⟨c0, c1, c2, c3, c4, f0, f1, f2, f3, f4⟩ := hI
      by_cases hop : (op k % 2 == 0) = true
      · by_cases hab : ab k = true
        · rw [hab] at e2
          go_wp2_with fail
          refine (waited_yes _ _ _ _ _ _ _ _ (hIa _) (by omega) (by omega) (by omega) (by omega)).mono ?_
          rintro e w' ⟨rfl, rfl⟩
          clear hIa
          go_wp2_with fail
          go_roundw
          case rel =>
            refine ⟨k + 1, wrap64 (S + d k), c + 1, q + 1, g, r, by omega, by omega, by omega, by omega, by omega, by go_num, rfl, by go_num, by go_num, by go_num, by go_num, ?_, ?_, by simp; omega⟩
            · refine ⟨?_, ?_, ?_, ?_, ?_, ?_, ?_, ?_, ?_, ?_⟩ <;> go_simp
            · exact (((hbel.setCell (Nat.le_refl _) _).setCell (Nat.le_refl _) _).setCell (Nat.le_refl _) _).alloc (by simp; omega) _
          case measure => simp [intOf]; omega
        · have hab' : ab k = false := by simpa using hab
          rw [hab'] at e2
          go_wp2_with fail
          refine (waited_no _ _ _ _ _ _ _ _ (hIa _) (by omega) (by omega)).mono ?_
          rintro e w' ⟨rfl, rfl⟩
          clear hIa
          go_wp2_with fail
          go_roundw
          case rel =>
            refine ⟨k + 1, wrap64 (S + d k), c + 1, q, g, r, by omega, by omega, by omega, by omega, by omega, by go_num, rfl, by go_num, by go_num, by go_num, by go_num, ?_, ?_, by simp; omega⟩
            · refine ⟨?_, ?_, ?_, ?_, ?_, ?_, ?_, ?_, ?_, ?_⟩ <;> go_simp
            · exact ((hbel.setCell (Nat.le_refl _) _).setCell (Nat.le_refl _) _).alloc (by simp; omega) _
          case measure => simp [intOf]; omega
      · have hop' : (op k % 2 == 0) = false := by simpa using hop
        by_cases hab : ab k = true
        · rw [hab] at e2
          go_wp2_with fail
          refine (handed_yes _ _ _ _ _ _ _ (hIa _) (by omega) (by omega) (by omega) (by omega)).mono ?_
          rintro e w' ⟨rfl, rfl⟩
          clear hIa
          go_wp2_with fail
          go_roundw
          case rel =>
            refine ⟨k + 1, S, c, q, g + 1, r + 1, by omega, by omega, by omega, by omega, by omega, by go_num, rfl, by go_num, by go_num, by go_num, by go_num, ?_, ?_, by simp; omega⟩
            · refine ⟨?_, ?_, ?_, ?_, ?_, ?_, ?_, ?_, ?_, ?_⟩ <;> go_simp
            · exact ((hbel.setCell (Nat.le_refl _) _).setCell (Nat.le_refl _) _).alloc (by simp; omega) _
          case measure => simp [intOf]; omega
        · have hab' : ab k = false := by simpa using hab
          rw [hab'] at e2
          go_wp2_with fail
          refine (handed_no _ _ _ _ _ _ _ (hIa _) (by omega) (by omega)).mono ?_
          rintro e w' ⟨rfl, rfl⟩
          clear hIa
          go_wp2_with fail
          go_roundw
          case rel =>
            refine ⟨k + 1, S, c, q, g + 1, r, by omega, by omega, by omega, by omega, by omega, by go_num, rfl, by go_num, by go_num, by go_num, by go_num, ?_, ?_, by simp; omega⟩
            · refine ⟨?_, ?_, ?_, ?_, ?_, ?_, ?_, ?_, ?_, ?_⟩ <;> go_simp
            · exact (hbel.setCell (Nat.le_refl _) _).alloc (by simp; omega) _
          case measure => simp [intOf]; omega
    · have hS : IsStats wr w.heap.size c S g r q := hI
      go_wp2_with fail
      refine (snapshot_any _ _ _ _ _ _ _ hS hsz).mono ?_
      rintro e w' ⟨rfl, hb1⟩
      clear hS
      go_wp2_with fail
      go_ret
      exact ⟨rfl, (hbel.trans (hb1.mono hbel.size)).alloc (by have := hb1.size; omega) _⟩

set_option maxHeartbeats 400000 in
theorem mixed_none (x : Option Addr) (cap : Nat) (w : World) :
    Calls Yba.prog 4 #[.slice x 0 cap] w fun e w' => e = .returned (.bool true) ∧ Below w.heap.size w w' := by
  go_enter Yba.func4, Yba.ntmps4
  go_wp2
  go_loopw [4, 5, 6, 7, 8, 9] (fun sm n a h p i wr => sm = .int .i64 0 ∧ n = .int .u64 0 ∧ a = .int .u64 0 ∧ h = .int .u64 0 ∧ p = .int .u64 0 ∧ i = .int .i64 0 ∧ IsStats wr w.heap.size 0 0 0 0 0 ∧ Below w.heap.size w wr ∧ w.heap.size < wr.heap.size) (fun _ _ _ _ _ _ _ => 0)
  case atStart =>
    refine ⟨rfl, rfl, rfl, rfl, rfl, rfl, ?_, (Below.refl _ _).alloc (Nat.le_refl _) _, by simp⟩
    refine ⟨?_, ?_, ?_, ?_, ?_, ?_, ?_, ?_, ?_, ?_⟩ <;> go_simp
  case round =>
    obtain ⟨rfl, rfl, rfl, rfl, rfl, rfl, hS, hbel, hsz⟩ := hrel
    go_wp2_with fail
    refine (snapshot_any _ _ _ _ _ _ _ hS hsz).mono ?_
    rintro e w' ⟨rfl, hb1⟩
    clear hS
    go_wp2_with fail
    go_ret
    exact ⟨rfl, (hbel.trans (hb1.mono hbel.size)).alloc (by have := hb1.size; omega) _⟩

set_option maxHeartbeats 400000 in
theorem mixed_big (x : Option Addr) (len cap : Nat) (w : World) (hl : 1024 < len) :
    Calls Yba.prog 4 #[.slice x len cap] w fun e w' => e = .returned (.bool true) ∧ Below w.heap.size w w' := by
  have hl1 : (1024 : Int) < (len : Int) := by omega
  go_enter Yba.func4, Yba.ntmps4
  go_wp2_with fail
  go_ret
  exact ⟨rfl, Below.refl _ _⟩

theorem mixed_any (x : Option Addr) (len cap : Nat) (op d : Nat → Int) (ab : Nat → Bool) (w : World) (hS : IsSteps w x len op d ab) :
    Calls Yba.prog 4 #[.slice x len cap] w fun e w' => e = .returned (.bool true) ∧ Below w.heap.size w w' := by
  by_cases hl : 1024 < len
  · exact mixed_big x len cap w hl
  · rcases hS with rfl | ⟨b, off, rfl, hb, hc⟩
    · exact mixed_none x cap w
    · exact mixed_walk b off len cap op d ab w (by omega) hb hc
end Go.Proofs.Ybulkpgg
