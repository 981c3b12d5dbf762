/- LawS0786BCounts: the walk. -/
import Derived.Test.YbulkpggStat
namespace Go.Proofs.Ybulkpgg
open Go.RowKit

/-- The cells of a slice of steps. -/
def IsSteps (w : World) (x : Option Addr) (len : Nat) (op : Nat → Int) (d : Nat → Int) (ab : Nat → Bool) : Prop :=
  len = 0 ∨ ∃ b off, x = some ⟨b, off, none⟩ ∧ b < w.heap.size ∧ ∀ i, i < len → w.cell? ⟨b, off + i * 3, none⟩ = some (.int .u8 (op i)) ∧ w.cell? ⟨b, off + i * 3 + 1, none⟩ = some (.int .i64 (d i)) ∧ w.cell? ⟨b, off + i * 3 + 2, none⟩ = some (.bool (ab i)) ∧ 0 ≤ op i ∧ op i ≤ 255

theorem IsStats.alloc {w : World} {b : Nat} {c t h p a : Int} (hI : IsStats w b c t h p a) (hb : b < w.heap.size) (o : Obj) : IsStats (w.alloc o) b c t h p a := by
  obtain ⟨c0, c1, c2, c3, c4, f0, f1, f2, f3, f4⟩ := hI
  refine ⟨?_, ?_, ?_, ?_, ?_, ?_, ?_, ?_, ?_, ?_⟩ <;> go_simp

set_option maxHeartbeats 400000 in
theorem counts_walk (start : Int) (b off len cap : Nat) (op d : Nat → Int) (ab : Nat → Bool) (w : World) (hl : len ≤ 1024) (hb : b < w.heap.size)
    (hc : ∀ i, i < len → w.cell? ⟨b, off + i * 3, none⟩ = some (.int .u8 (op i)) ∧ w.cell? ⟨b, off + i * 3 + 1, none⟩ = some (.int .i64 (d i)) ∧ w.cell? ⟨b, off + i * 3 + 2, none⟩ = some (.bool (ab i)) ∧ 0 ≤ op i ∧ op i ≤ 255) :
    Calls Yba.prog 3 #[.int .i64 start, .slice (some ⟨b, off, none⟩) len cap] w fun e w' => e = .returned (.bool true) ∧ Below w.heap.size w w' := by
  have hl1 : ¬ (1024 : Int) < (len : Int) := by omega
  go_enter Yba.func3, Yba.ntmps3
  go_wp2_with (go_at_call 7; refine (store_any _ _ _ _ _ (by go_simp; rfl) (by go_simp)).mono ?_; rintro e w' ⟨rfl, rfl⟩)
  go_loopw [6, 7, 8, 9] (fun sm n a i wr => ∃ (k : Nat) (S : Int) (q : Nat), k ≤ len ∧ q ≤ k ∧ i = .int .i64 k ∧ sm = .int .i64 S ∧ n = .int .u64 k ∧ a = .int .u64 q ∧ IsStats wr w.heap.size k S 0 0 q ∧ Below w.heap.size w wr ∧ w.heap.size < wr.heap.size)
    (fun _ _ _ i _ => len - (intOf i).toNat)
  case atStart =>
    refine ⟨0, start, 0, Nat.zero_le _, Nat.le_refl _, rfl, rfl, rfl, rfl, ?_, (Below.refl _ _).alloc (Nat.le_refl _) _, by simp⟩
    refine ⟨?_, ?_, ?_, ?_, ?_, ?_, ?_, ?_, ?_, ?_⟩ <;> go_simp
  case round =>
    obtain ⟨k, S, q, hk, hq, rfl, rfl, rfl, rfl, hI, hbel, hsz⟩ := hrel
    by_cases hlt : k < len
    · have e0 : wr.cell? ⟨b, off + k * 3, none⟩ = some (.int .u8 (op k)) := (hbel.cell (by exact hb)).trans (hc k hlt).1
      have e1 : wr.cell? ⟨b, off + k * 3 + 1, none⟩ = some (.int .i64 (d k)) := (hbel.cell (by exact hb)).trans (hc k hlt).2.1
      have e2 : wr.cell? ⟨b, off + k * 3 + 2, none⟩ = some (.bool (ab k)) := (hbel.cell (by exact hb)).trans (hc k hlt).2.2.1
      have hIa := hI.alloc hsz
      obtain ⟨c0, c1, c2, c3, c4, f0, f1, f2, f3, f4⟩ := hI
      by_cases hab : ab k = true
      · rw [hab] at e2
        go_wp2_with fail
        refine (waited_yes _ _ _ _ _ _ _ _ (hIa _) (by omega) (by omega) (by omega) (by omega)).mono ?_
        rintro e w' ⟨rfl, rfl⟩
        clear hIa
        go_wp2_with (first | (go_at_call 9; refine (loadi_any _ _ _ _ (by go_simp; rfl)).mono ?_; rintro e w' ⟨rfl, rfl⟩) | (go_at_call 10; refine (loadu_any _ _ _ _ (by go_simp; rfl)).mono ?_; rintro e w' ⟨rfl, rfl⟩))
        go_roundw
        case rel =>
          refine ⟨k + 1, wrap64 (S + d k), q + 1, by omega, by omega, by go_num, rfl, by go_num, by go_num, ?_, ?_, by simp; omega⟩
          · refine ⟨?_, ?_, ?_, ?_, ?_, ?_, ?_, ?_, ?_, ?_⟩ <;> go_simp
          · exact (((hbel.setCell (Nat.le_refl _) _).setCell (Nat.le_refl _) _).setCell (Nat.le_refl _) _).alloc (by simp; omega) _
        case measure => simp [intOf]; omega
      · have hab' : ab k = false := by simpa using hab
        rw [hab'] at e2
        go_wp2_with fail
        refine (waited_no _ _ _ _ _ _ _ _ (hIa _) (by omega) (by omega)).mono ?_
        rintro e w' ⟨rfl, rfl⟩
        clear hIa
        go_wp2_with (first | (go_at_call 9; refine (loadi_any _ _ _ _ (by go_simp; rfl)).mono ?_; rintro e w' ⟨rfl, rfl⟩) | (go_at_call 10; refine (loadu_any _ _ _ _ (by go_simp; rfl)).mono ?_; rintro e w' ⟨rfl, rfl⟩))
        go_roundw
        case rel =>
          refine ⟨k + 1, wrap64 (S + d k), q, by omega, by omega, by go_num, rfl, by go_num, by go_num, ?_, ?_, by simp; omega⟩
          · refine ⟨?_, ?_, ?_, ?_, ?_, ?_, ?_, ?_, ?_, ?_⟩ <;> go_simp
          · exact ((hbel.setCell (Nat.le_refl _) _).setCell (Nat.le_refl _) _).alloc (by simp; omega) _
        case measure => simp [intOf]; omega
    · go_wp2
      go_ret
      exact ⟨rfl, hbel⟩

set_option maxHeartbeats 400000 in
theorem counts_none (start : Int) (x : Option Addr) (cap : Nat) (w : World) :
    Calls Yba.prog 3 #[.int .i64 start, .slice x 0 cap] w fun e w' => e = .returned (.bool true) ∧ Below w.heap.size w w' := by
  go_enter Yba.func3, Yba.ntmps3
  go_wp2_with (go_at_call 7; refine (store_any _ _ _ _ _ (by go_simp; rfl) (by go_simp)).mono ?_; rintro e w' ⟨rfl, rfl⟩)
  go_loopw [9] (fun i wr => i = .int .i64 0 ∧ Below w.heap.size w wr) (fun _ _ => 0)
  case atStart => exact ⟨rfl, (Below.refl _ _).alloc (Nat.le_refl _) _⟩
  case round =>
    obtain ⟨rfl, hbel⟩ := hrel
    go_wp2
    go_ret
    exact ⟨rfl, hbel⟩

set_option maxHeartbeats 400000 in
theorem counts_big (start : Int) (x : Option Addr) (len cap : Nat) (w : World) (hl : 1024 < len) :
    Calls Yba.prog 3 #[.int .i64 start, .slice x len cap] w fun e w' => e = .returned (.bool true) ∧ Below w.heap.size w w' := by
  have hl1 : (1024 : Int) < (len : Int) := by omega
  go_enter Yba.func3, Yba.ntmps3
  go_wp2_with fail
  go_ret
  exact ⟨rfl, Below.refl _ _⟩

theorem counts_any (start : Int) (x : Option Addr) (len cap : Nat) (op d : Nat → Int) (ab : Nat → Bool) (w : World) (hS : IsSteps w x len op d ab) :
    Calls Yba.prog 3 #[.int .i64 start, .slice x len cap] w fun e w' => e = .returned (.bool true) ∧ Below w.heap.size w w' := by
  by_cases hl : 1024 < len
  · exact counts_big start x len cap w hl
  · rcases hS with rfl | ⟨b, off, rfl, hb, hc⟩
    · exact counts_none start x cap w
    · exact counts_walk start b off len cap op d ab w (by omega) hb hc
end Go.Proofs.Ybulkpgg
