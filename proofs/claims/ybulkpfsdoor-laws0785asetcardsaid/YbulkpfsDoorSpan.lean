/- valueSpan at a choice of a range: contracts. -/
import Derived.Test.YbulkpfsDoorProg
import Derived.WalkKit
import Derived.WalkSpells
import Derived.WalkLawsBesides
set_option linter.unusedVariables false
namespace Go.Proofs.YbulkpfsDoor
open Go.RowKit

/-- keeping, at a policy without updates. -/
theorem keeping_none (M Pb : Nat) (st kept : Value) (p q : Int) (w : World) (m3 : w.cell? ⟨M, 3, none⟩ = some (.slice (some ⟨Pb, 0, none⟩) 1 1)) (p5 : w.cell? ⟨Pb, 5, none⟩ = some (.slice none 0 0)) :
    Calls Ybad.prog 11 #[.pointer (some ⟨M, 0, none⟩), .int .i64 0, .int .i64 0, st, .int .i64 p, .int .i64 q, kept] w fun e w' => e = .returned (.tuple #[.int .i32 0, .bool false]) ∧ w = w' := by
  go_enter Ybad.func11, Ybad.ntmps11
  go_wp2_with fail
  go_loop [32] (fun i => i = .int .i64 0) (fun _ => 0)
  case atStart => rfl
  case round =>
    obtain rfl := hrel
    go_wp2_with fail
    go_ret2
    exact ⟨rfl, rfl⟩

/-- The zero span but for its two ends. -/
def spanV (a b : Int) : Value := .agg #[.bool false, .int .i32 a, .int .i32 b, .int .i32 0, .int .i64 0, .slice none 0 0, .slice none 0 0, .slice none 0 0, .slice none 0 0, .slice none 0 0, .bool false, .slice none 0 0, .pointer none, .slice none 0 0, .int .i64 0, .slice none 0 0]

set_option maxHeartbeats 400000 in
theorem valueSpan_free (M Pb C : Nat) (st kept : Value) (p q : Int) (w : World) (m3 : w.cell? ⟨M, 3, none⟩ = some (.slice (some ⟨Pb, 0, none⟩) 1 1)) (p5 : w.cell? ⟨Pb, 5, none⟩ = some (.slice none 0 0))
    (p3 : w.cell? ⟨Pb, 3, none⟩ = some (.slice (some ⟨C, 0, none⟩) 1 1)) (c8 : w.cell? ⟨C, 8, none⟩ = some (.bool false)) (c12 : w.cell? ⟨C, 12, none⟩ = some (.bool true)) (hM : M < w.heap.size) (hP : Pb < w.heap.size) (hC : C < w.heap.size) :
    Calls Ybad.prog 7 #[.pointer (some ⟨M, 0, none⟩), .int .i64 0, .int .i64 0, st, .int .i64 p, .int .i64 q, kept] w fun e w' => e = .returned (.tuple #[spanV 1 1, .bool true]) ∧ Below w.heap.size w w' := by
  go_enter Ybad.func7, Ybad.ntmps7
  go_wp2_with fail
  refine (keeping_none M Pb _ _ _ _ _ (by go_simp) (by go_simp)).mono ?_
  rintro e w' ⟨rfl, rfl⟩
  go_wp2_with fail
  exact bodyPost_ret (v := .tuple #[spanV 1 1, .bool true]) (by simp [results, Ybad.results7, go_sem, spanV]) rfl ⟨rfl, (Below.refl _ _).alloc (Nat.le_refl _) _⟩

set_option maxHeartbeats 400000 in
theorem valueSpan_size (M Pb C : Nat) (st kept : Value) (p q n : Int) (hn0 : 0 ≤ n) (hn1 : n ≤ 65535) (w : World) (m3 : w.cell? ⟨M, 3, none⟩ = some (.slice (some ⟨Pb, 0, none⟩) 1 1)) (p5 : w.cell? ⟨Pb, 5, none⟩ = some (.slice none 0 0))
    (p3 : w.cell? ⟨Pb, 3, none⟩ = some (.slice (some ⟨C, 0, none⟩) 1 1)) (c8 : w.cell? ⟨C, 8, none⟩ = some (.bool false)) (c9 : w.cell? ⟨C, 9, none⟩ = some (.int .i64 n)) (c12 : w.cell? ⟨C, 12, none⟩ = some (.bool false)) (hM : M < w.heap.size) (hP : Pb < w.heap.size) (hC : C < w.heap.size) :
    Calls Ybad.prog 7 #[.pointer (some ⟨M, 0, none⟩), .int .i64 0, .int .i64 0, st, .int .i64 p, .int .i64 q, kept] w fun e w' => e = .returned (.tuple #[spanV 1 n, .bool true]) ∧ Below w.heap.size w w' := by
  go_enter Ybad.func7, Ybad.ntmps7
  go_wp2_with fail
  refine (keeping_none M Pb _ _ _ _ _ (by go_simp) (by go_simp)).mono ?_
  rintro e w' ⟨rfl, rfl⟩
  go_wp2_with fail
  refine bodyPost_ret (v := .tuple #[spanV 1 n, .bool true]) (by simp [results, Ybad.results7, go_sem, spanV]) rfl ⟨rfl, (Below.refl _ _).alloc (Nat.le_refl _) _⟩

/-- What zzs0785aone lays: the machine at M, its one policy at Pb, that policy's one choice at C. -/
structure One (w' : World) (B M Pb C : Nat) (cs : List Value) : Prop where
  m0 : w'.cell? ⟨M, 0, none⟩ = some (.int .i64 1)
  m3 : w'.cell? ⟨M, 3, none⟩ = some (.slice (some ⟨Pb, 0, none⟩) 1 1)
  may : w'.cell? ⟨M, 27, none⟩ = some (.slice none 0 0)
  mayf : w'.frozen? ⟨M, 27, none⟩ = false
  p3 : w'.cell? ⟨Pb, 3, none⟩ = some (.slice (some ⟨C, 0, none⟩) 1 1)
  p5 : w'.cell? ⟨Pb, 5, none⟩ = some (.slice none 0 0)
  cell : ∀ i v, cs[i]? = some v → w'.cell? ⟨C, i, none⟩ = some v
  hC : B ≤ C ∧ C < Pb
  hP : Pb < M
  hM : M < w'.heap.size

set_option maxHeartbeats 400000 in
/-- zzs0785aone: the machine of one policy of one choice. -/
theorem one_any (c0 c1 c2 c3 c4 c5 c6 c7 c8 c9 c10 c11 c12 c13 c14 : Value) (w : World) :
    Calls Ybad.prog 6 #[.agg #[c0, c1, c2, c3, c4, c5, c6, c7, c8, c9, c10, c11, c12, c13, c14]] w fun e w' => ∃ M Pb C, e = .returned (.pointer (some ⟨M, 0, none⟩)) ∧ Below w.heap.size w w' ∧
      One w' w.heap.size M Pb C [c0, c1, c2, c3, c4, c5, c6, c7, c8, c9, c10, c11, c12, c13, c14] := by
  go_enter Ybad.func6, Ybad.ntmps6
  go_wp2_with fail
  go_ret
  refine ⟨w.heap.size + 1 + 1 + 1, w.heap.size + 1 + 1, w.heap.size + 1, rfl, ?_, ⟨?_, ?_, ?_, ?_, ?_, ?_, ?_, ?_, ?_, ?_⟩⟩
  · exact ((((Below.refl _ _).alloc (Nat.le_refl _) _).alloc (by simp) _).alloc (by simp; omega) _).alloc (by simp; omega) _
  · go_simp
  · go_simp
  · go_simp
  · go_simp
  · go_simp
  · go_simp
  · intro i v h
    rw [World.cell?_alloc_lt _ _ _ (by simp), World.cell?_alloc_lt _ _ _ (by simp), World.cell?_alloc_at _ _ _ _ (by simp)]
    simpa using h
  · omega
  · omega
  · simp
end Go.Proofs.YbulkpfsDoor
