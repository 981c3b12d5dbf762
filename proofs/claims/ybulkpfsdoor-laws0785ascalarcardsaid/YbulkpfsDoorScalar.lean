/- LawS0785AScalar: the walk. -/
import Derived.Test.YbulkpfsDoorSpan
set_option linter.unusedVariables false
namespace Go.Proofs.YbulkpfsDoor
open Go.RowKit

set_option maxHeartbeats 400000 in
theorem scalar_true (n : Int) (hn0 : 0 ≤ n) (hn1 : n ≤ 65535) (w : World) :
    Calls Ybad.prog 3 #[.int .u16 n, .bool true] w fun e w' => e = .returned (.bool true) ∧ Below w.heap.size w w' := by
  go_enter Ybad.func3, Ybad.ntmps3
  go_wp2_with fail
  refine (one_any _ _ _ _ _ _ _ _ _ _ _ _ _ _ _ _).mono ?_
  rintro e w1 ⟨M, Pb, C, rfl, hb1, hO⟩
  have hs1 := hb1.size
  have h1 := hO.hC; have h2 := hO.hP; have h3 := hO.hM
  have m3 := hO.m3; have p3 := hO.p3; have p5 := hO.p5
  have c8 := hO.cell 8 _ rfl
  have c12 := hO.cell 12 _ rfl
  have HB := hb1
  clear hO
  go_wp2_with fail
  refine (valueSpan_free M Pb C _ _ _ _ _ m3 p5 p3 c8 c12 (by omega) (by omega) (by omega)).mono ?_
  rintro e w2 ⟨rfl, hb2⟩
  unfold spanV
  clear m3 p3 p5 c8 c12
  go_wp2_with fail
  go_ret
  simp at hs1
  have hs2 := hb2.size
  exact ⟨rfl, ((((Below.refl _ w).alloc (Nat.le_refl _) _).trans (HB.mono (by simp))).trans (hb2.mono (by omega))).alloc (by omega) _⟩

set_option maxHeartbeats 400000 in
theorem scalar_false (n : Int) (hn0 : 0 ≤ n) (hn1 : n ≤ 65535) (w : World) :
    Calls Ybad.prog 3 #[.int .u16 n, .bool false] w fun e w' => e = .returned (.bool true) ∧ Below w.heap.size w w' := by
  go_enter Ybad.func3, Ybad.ntmps3
  go_wp2_with fail
  refine (one_any _ _ _ _ _ _ _ _ _ _ _ _ _ _ _ _).mono ?_
  rintro e w1 ⟨M, Pb, C, rfl, hb1, hO⟩
  have hs1 := hb1.size
  have h1 := hO.hC; have h2 := hO.hP; have h3 := hO.hM
  have m3 := hO.m3; have p3 := hO.p3; have p5 := hO.p5
  have c8 := hO.cell 8 _ rfl
  have c12 := hO.cell 12 _ rfl
  have c9 := hO.cell 9 _ rfl
  have HB := hb1
  clear hO
  go_wp2_with fail
  refine (valueSpan_size M Pb C _ _ _ _ n hn0 hn1 _ m3 p5 p3 c8 c9 c12 (by omega) (by omega) (by omega)).mono ?_
  rintro e w2 ⟨rfl, hb2⟩
  unfold spanV
  clear m3 p3 p5 c8 c9 c12
  go_wp2_with fail
  go_ret
  simp at hs1
  have hs2 := hb2.size
  exact ⟨rfl, ((((Below.refl _ w).alloc (Nat.le_refl _) _).trans (HB.mono (by simp))).trans (hb2.mono (by omega))).alloc (by omega) _⟩
end Go.Proofs.YbulkpfsDoor
