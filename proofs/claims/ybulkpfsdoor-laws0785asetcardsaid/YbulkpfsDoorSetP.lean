/- LawS0785ASet: what its walk leans on. -/
import Derived.Test.YbulkpfsDoorSetS0
import Derived.Test.YbulkpfsDoorSetS1
import Derived.Test.YbulkpfsDoorSetS2
import Derived.Test.YbulkpfsDoorSetS3
import Derived.Test.YbulkpfsDoorSetS4
import Derived.Test.YbulkpfsDoorSetS5
set_option linter.unusedVariables false
namespace Go.Proofs.YbulkpfsDoor
open Go.RowKit Go.Deep

theorem setSpan_any (M Pb C n P cc ac : Nat) (ca aa : Option Addr) (fr : Int) (free : Bool) (w : World) (h : SetSt w M Pb C n P cc ac ca aa fr free) (hMC : ¬ M = C) (hn2 : n ≤ 300) (hP : P = (n + 63) / 64) :
    Calls Ybad.prog 7 #[.pointer (some ⟨M, 0, none⟩), .int .i64 0, .int .i64 0, .slice none 0 0, .int .i64 0, .int .i64 0, .slice none 0 0] w fun e w' => ∃ Z, e = .returned (.tuple #[setV Z n P cc ca fr, .bool true]) ∧ w.heap.size ≤ Z ∧ w'.rowIs Z 83 (4 * P) (rowF free n P) ∧ Below M w w' := by
  have hc : (P = 0 ∧ n = 0) ∨ (0 < n ∧ (P = 1 ∨ P = 2 ∨ P = 3 ∨ P = 4 ∨ P = 5)) := by omega
  rcases hc with ⟨rfl, rfl⟩ | ⟨hn, rfl | rfl | rfl | rfl | rfl⟩
  · exact setSpan_0 M Pb C cc ac ca aa fr free w h hMC
  · exact setSpan_1 M Pb C n cc ac ca aa fr free w h hMC hn hn2 hP
  · exact setSpan_2 M Pb C n cc ac ca aa fr free w h hMC hn hn2 hP
  · exact setSpan_3 M Pb C n cc ac ca aa fr free w h hMC hn hn2 hP
  · exact setSpan_4 M Pb C n cc ac ca aa fr free w h hMC hn hn2 hP
  · exact setSpan_5 M Pb C n cc ac ca aa fr free w h hMC hn hn2 hP

theorem AllSt.header {w : World} {A base len : Nat} (h : AllSt w A base len) : ∃ aa ac, w.cell? ⟨A, 0, none⟩ = some (.slice aa len ac) := by
  obtain ⟨v, xs, ha, hf, hown, hw⟩ := h
  rcases hown.2 with ⟨rfl, rfl⟩ | ⟨g, cap, cur, rfl, _⟩
  · exact ⟨none, 0, ha⟩
  · exact ⟨_, _, ha⟩

theorem AllSt.setBelow {w : World} {A base len K i : Nat} (h : AllSt w A base len) (hK : K < base) (hKA : ¬ K = A) (v : Value) : AllSt (w.setCell ⟨K, i, none⟩ v) A base len := by
  obtain ⟨u, xs, ha, hf, hown, hw⟩ := h
  have hb : (w.setCell ⟨K, i, none⟩ v).heap[A]? = w.heap[A]? := Below.heap_setCell _ _ _ _ (fun e => hKA e.symm)
  exact ⟨u, xs, (World.cell?_of_block (w := w) (a := ⟨A, 0, none⟩) hb).trans ha, (World.frozen?_of_block (w := w) (a := ⟨A, 0, none⟩) hb).trans hf, ownsRow_setCell_below hown hK _, hw⟩

theorem AllSt.start (w : World) (base : Nat) : AllSt (w.alloc (.cells #[.slice none 0 0] 27)) w.heap.size base 0 :=
  ⟨.slice none 0 0, [], World.cell?_alloc_at _ _ _ _ rfl, by simp, World.ownsRow_nil _ _ _ _, fun v hv => by cases hv⟩

theorem sumG_zero (g : Nat → Nat) (h : ∀ j, g j = 0) : ∀ k, sumG g k = 0
  | 0 => rfl
  | k + 1 => by simp [sumG, sumG_zero g h k, h]
theorem sumG_wb (n : Nat) : ∀ k, sumG (wb n) k = min (64 * k) n
  | 0 => by simp [sumG]
  | k + 1 => by rw [sumG, sumG_wb n k]; unfold wb; omega
theorem low_zero : low 0 = 0 := rfl

/-- The three empty parts of the span count nought. -/
theorem count_zero (Z off n P : Nat) (free : Bool) (hoff : off = 0 ∨ off = 2 * P ∨ off = 3 * P) (hP5 : P ≤ 5) (w : World) (h : w.rowIs Z 83 (4 * P) (rowF free n P)) :
    Calls Ybad.prog 9 #[.slice (some ⟨Z, off, none⟩) P P] w fun e w' => e = .returned (.int .i64 0) ∧ w = w' := by
  have := count_any Z off P P (fun _ => 0) (fun _ => by omega) (by omega) w (fun j hj => by
    rw [h.cell (by omega)]
    unfold rowF
    rw [if_neg (show ¬ (P ≤ off + j ∧ off + j < 2 * P) from by omega), low_zero]
    simp)
  rw [sumG_zero _ (fun _ => rfl)] at this
  exact this

theorem count_free (Z n P : Nat) (hP : P = (n + 63) / 64) (hP5 : P ≤ 5) (w : World) (h : w.rowIs Z 83 (4 * P) (rowF true n P)) :
    Calls Ybad.prog 9 #[.slice (some ⟨Z, P, none⟩) P P] w fun e w' => e = .returned (.int .i64 0) ∧ w = w' := by
  have := count_any Z P P P (fun _ => 0) (fun _ => by omega) (by omega) w (fun j hj => by
    rw [h.cell (by omega)]
    unfold rowF
    rw [low_zero]
    simp)
  rw [sumG_zero _ (fun _ => rfl)] at this
  exact this

theorem count_full (Z n P : Nat) (hP : P = (n + 63) / 64) (hP5 : P ≤ 5) (w : World) (h : w.rowIs Z 83 (4 * P) (rowF false n P)) :
    Calls Ybad.prog 9 #[.slice (some ⟨Z, P, none⟩) P P] w fun e w' => e = .returned (.int .i64 (n : Int)) ∧ w = w' := by
  have := count_any Z P P P (wb n) (wb_le n) (by omega) w (fun j hj => by
    rw [h.cell (by omega)]
    unfold rowF
    rw [if_pos (show P ≤ P + j ∧ P + j < 2 * P from by omega), Nat.add_sub_cancel_left]
    simp)
  rw [sumG_wb, show min (64 * P) n = n from by omega] at this
  exact this

theorem has_full (Z n P k : Nat) (hk : k < n) (hn2 : n ≤ 300) (hP : P = (n + 63) / 64) (w : World) (h : w.rowIs Z 83 (4 * P) (rowF false n P)) :
    Calls Ybad.prog 10 #[.slice (some ⟨Z, P, none⟩) P P, .int .i64 k] w fun e w' => e = .returned (.bool true) ∧ ∃ n, w' = w.drewN n := by
  refine has_any Z P P P k (wb n (k / 64)) (wb_le _ _) (by unfold wb; omega) (by omega) (by omega) (by omega) w ?_
  rw [h.cell (by omega)]
  unfold rowF
  rw [if_pos (show P ≤ P + k / 64 ∧ P + k / 64 < 2 * P from by omega), Nat.add_sub_cancel_left]
  simp

theorem Ybad.info2 : (Ybad.prog.info? 2).map (fun i => (i.zero, i.size, i.bytes)) = some (some (.int .i64 0), 1, 8) := by kernel_rfl
end Go.Proofs.YbulkpfsDoor
