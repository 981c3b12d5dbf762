/- The bitset's filled: contract. -/
import Derived.Test.YbulkpfsDoorBits2
set_option linter.unusedVariables false
namespace Go.Proofs.YbulkpfsDoor
open Go.RowKit Go.Deep

theorem Ybad.info83 : (Ybad.prog.info? 83).map (fun i => (i.zero, i.size, i.bytes)) = some (some (.int .u64 0), 1, 8) := by kernel_rfl

/-- How many bits word j of the first n numbers holds. -/
def wb (n j : Nat) : Nat := min 64 (n - 64 * j)
theorem wb_le (n j : Nat) : wb n j ≤ 64 := Nat.min_le_left _ _

set_option maxHeartbeats 400000 in
theorem cleared_any (P : Nat) (hP : 0 < P) (hP2 : P ≤ 1000) (w : World) :
    Calls Ybad.prog 28 #[.slice none 0 0, .int .i64 P] w fun e w' => e = .returned (.slice (some ⟨w.heap.size, 0, none⟩) P P) ∧ w.alloc (.cells (madeCells #[.int .u64 0] P) 83) = w' := by
  have hmk := run_make_row' (P := Ybad.prog) 26 83 (.int .u64 0) 8 Ybad.underlying26 Ybad.info83 rfl .i64 .i64 P (by omega) (by omega)
  have h1 : (0 : Int) < (P : Int) := by omega
  go_enter Ybad.func28, Ybad.ntmps28
  go_wp2_with fail
  go_ret
  exact ⟨rfl, rfl⟩

/-- The row behind k rounds. -/
def fullK (k j : Nat) : Value := .int .u64 (if j < k then 18446744073709551615 else 0)

theorem last_low (r : Nat) (h : r < 64) : IntKind.u64.wrap (IntKind.u64.wrap (2 ^ r) - 1) = low r := by
  have H : ∀ r : Fin 64, IntKind.u64.wrap (IntKind.u64.wrap (2 ^ r.val) - 1) = low r.val := by decide +kernel
  exact H ⟨r, h⟩
theorem low64 : low 64 = 18446744073709551615 := by decide +kernel

theorem fill_row (n P j : Nat) (hn : 0 < n) (hP : P = (n + 63) / 64) (hj : j < P) (h64 : ¬ n % 64 = 0) : (if j = P - 1 then Value.int .u64 (low (n % 64)) else fullK P j) = .int .u64 (low (wb n j)) := by
  unfold fullK wb
  by_cases h : j = P - 1
  · rw [if_pos h, show min 64 (n - 64 * j) = n % 64 from by omega]
  · rw [if_neg h, if_pos hj, show min 64 (n - 64 * j) = 64 from by omega, low64]
theorem fill_row0 (n P j : Nat) (hn : 0 < n) (hP : P = (n + 63) / 64) (hj : j < P) (h64 : n % 64 = 0) : fullK P j = .int .u64 (low (wb n j)) := by
  unfold fullK wb
  rw [if_pos hj, show min 64 (n - 64 * j) = 64 from by omega, low64]
theorem full_set (k j : Nat) : (if j = k then Value.int .u64 18446744073709551615 else fullK k j) = fullK (k + 1) j := by
  unfold fullK
  by_cases h : j = k
  · subst h; rw [if_pos rfl, if_pos (by omega)]
  · rw [if_neg h]
    by_cases h2 : j < k
    · rw [if_pos h2, if_pos (by omega)]
    · rw [if_neg h2, if_neg (by omega)]

set_option maxHeartbeats 400000 in
theorem filled_any (n P : Nat) (hn : 0 < n) (hn2 : n ≤ 300) (hP : P = (n + 63) / 64) (w : World) :
    Calls Ybad.prog 20 #[.slice none 0 0, .int .i64 n] w fun e w' => e = .returned (.slice (some ⟨w.heap.size, 0, none⟩) P P) ∧ w'.rowIs w.heap.size 83 P (fun j => .int .u64 (low (wb n j))) ∧ Below w.heap.size w w' ∧ w.heap.size < w'.heap.size := by
  have hPq : ((n : Int) + 63) / 64 = (P : Int) := by omega
  have hP0 : 0 < P := by omega
  have hP5 : P ≤ 5 := by omega
  have HP : Hid (P = (n + 63) / 64) := hP
  clear hP
  go_enter Ybad.func20, Ybad.ntmps20
  go_wp2_with fail
  refine (cleared_any P hP0 (by omega) _).mono ?_
  rintro e w1 ⟨rfl, rfl⟩
  go_wp2_with fail
  go_loopw [13] (fun i wr => ∃ k : Nat, k ≤ P ∧ i = .int .i64 k ∧ wr.rowIs w.heap.size 83 P (fullK k) ∧ Below w.heap.size w wr ∧ w.heap.size < wr.heap.size) (fun i _ => P - (intOf i).toNat)
  case atStart =>
    exact ⟨0, Nat.zero_le _, rfl, (World.rowIs_made w (.int .u64 0) P 83).congr fun j _ => rfl, (Below.refl _ _).alloc (Nat.le_refl _) _, by simp⟩
  case round =>
    obtain ⟨k, hk, rfl, hrow, hbel, hsz⟩ := hrel
    by_cases hkl : k < P
    · have e1 := hrow.cell (i := k) (by omega)
      have e2 := hrow.frozen k
      have HR : Hid (wr.rowIs w.heap.size 83 P (fullK k)) := hrow
      clear hrow
      go_wp2_with fail
      go_roundw
      case rel => exact ⟨k + 1, by omega, by go_num, (HR.out.set k _).congr fun j _ => full_set k j, hbel.setCell (Nat.le_refl _) _, by simpa using hsz⟩
      case measure => simp [intOf]; omega
    · have hkn : k = P := by omega
      subst hkn
      by_cases h64 : n % 64 = 0
      · have hd : (n : Int) % 64 = 0 := by omega
        have hd' : ((n : Int) % 64 != 0) = false := by simpa using hd
        have HR : Hid (wr.rowIs w.heap.size 83 k (fun j => .int .u64 (low (wb n j)))) := hrow.congr fun j hj => fill_row0 n k j hn HP.out hj h64
        clear hrow hd
        go_wp2_with fail
        go_ret
        exact ⟨rfl, HR.out, hbel, hsz⟩
      · have hd' : ((n : Int) % 64 != 0) = true := by rw [bne_iff_ne]; omega
        have e1 := hrow.cell (i := k - 1) (by omega)
        have e2 := hrow.frozen (k - 1)
        have HR : Hid (wr.rowIs w.heap.size 83 k (fullK k)) := hrow
        clear hrow
        go_wp2_with fail
        go_ret
        rw [last_low (n % 64) (by omega)]
        exact ⟨rfl, (HR.out.set (k - 1) _).congr fun j hj => fill_row n k j hn HP.out hj h64, hbel.setCell (Nat.le_refl _) _, by simpa using hsz⟩
end Go.Proofs.YbulkpfsDoor
