/- A slice of steps, opened. -/
import Derived.Test.YbulkpggCounts
import Derived.Deep.Slices
import Derived.Deep.Strs
import Derived.ProofKit
import Derived.OpenShut
namespace Go.Proofs.Ybulkpgg
open Go.ChangeShapes Go.WideShapes Go.ChangeAt Go.RowKit Go.Deep

theorem Yba.cells35 : Yba.prog.cellsOf 35 = 3 := by kernel_rfl
theorem Yba.cells5 : Yba.prog.cellsOf 5 = 1 := by kernel_rfl
theorem Yba.cells2 : Yba.prog.cellsOf 2 = 1 := by kernel_rfl
theorem Yba.cells4 : Yba.prog.cellsOf 4 = 1 := by kernel_rfl

theorem open_steps {H : Type} {enc : TypeId × Value → H} {w : World} {spare : Nat → Bool} {held : Bool} {fuel : Nat} {x : Option Addr} {len cap : Nat} {y : DataW H × List MemPlace}
    (h : DataW.trod enc Yba.prog w 0 spare held fuel 22 [.slice x len cap] = some y) : ∃ op d ab, IsSteps w x len op d ab := by
  rcases open_slice Yba.underlying22 h with ⟨h0, _⟩ | ⟨a, len', cap', m, n, D, Pl, h1, hb, hl, hm, hmm, _, hx⟩
  · simp at h0
    exact ⟨fun _ => 0, fun _ => 0, fun _ => false, .inl h0.2.1⟩
  · simp at h1
    obtain ⟨rfl, rfl, rfl⟩ := h1
    have hlm : len ≤ m := by rw [hmm]; split <;> omega
    have each : ∀ i, i < len → ∃ q : Int × Int × Bool, w.cell? (a.add (i * 3)) = some (.int .u8 q.1) ∧ w.cell? (a.add (i * 3 + 1)) = some (.int .i64 q.2.1) ∧ w.cell? (a.add (i * 3 + 2)) = some (.bool q.2.2) ∧ 0 ≤ q.1 ∧ q.1 ≤ 255 := by
      intro i hi
      obtain ⟨cs', g1, g2⟩ := hx i (by omega)
      rw [Yba.cells35] at g1
      obtain ⟨_, hlen, hcell⟩ := World.cells?_some g1
      obtain ⟨y0, y1, y2, k, _, _, t0, t1, t2⟩ := trod_struct3 Yba.underlying35 g2
      match cs', hlen with
      | [v0, v1, v2], _ =>
        simp [Yba.cells5, Yba.cells2, Yba.cells4] at t0 t1 t2
        have e0 := hcell 0 (by omega)
        have e1 := hcell 1 (by omega)
        have e2 := hcell 2 (by omega)
        rw [add_add] at e0 e1 e2
        obtain ⟨a0, q0, _, wa⟩ := DataW.trod_int Yba.underlying5 t0
        obtain ⟨a1, q1, _, _⟩ := DataW.trod_int Yba.underlying2 t1
        obtain ⟨a2, q2, _⟩ := DataW.trod_bool Yba.underlying4 t2
        simp at q0 q1 q2
        subst q0 q1 q2
        exact ⟨(a0, a1, a2), by simpa using e0, by simpa using e1, by simpa using e2, bounds_u8 wa⟩
    obtain ⟨q, hq⟩ := choose_lt each
    by_cases hl0 : len = 0
    · exact ⟨fun _ => 0, fun _ => 0, fun _ => false, .inl hl0⟩
    · obtain ⟨b, off, spot⟩ := a
      have hspot : spot = none := by simpa [Addr.add] using World.cell?_spot (hq 0 (by omega)).1
      subst hspot
      have hbl : b < w.heap.size := by
        have g := (hq 0 (by omega)).1
        simpa [Addr.add] using World.block_lt_of_cell? _ _ g
      refine ⟨fun i => (q i).1, fun i => (q i).2.1, fun i => (q i).2.2, .inr ⟨b, off, rfl, hbl, fun i hi => ?_⟩⟩
      have g := hq i hi
      simp only [add_plain] at g
      exact ⟨g.1, by simpa [Nat.add_assoc] using g.2.1, by simpa [Nat.add_assoc] using g.2.2.1, g.2.2.2⟩
end Go.Proofs.Ybulkpgg
