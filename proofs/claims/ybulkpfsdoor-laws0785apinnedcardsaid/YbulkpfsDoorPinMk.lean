/- LawS0785APinned: the machine that it lays. -/
import Derived.Test.YbulkpfsDoorPinSpan
import Derived.Deep.OwnRows
set_option linter.unusedVariables false
namespace Go.Proofs.YbulkpfsDoor
open Go.RowKit Go.Deep

theorem pin_mk (wr : World) (T nst p : Nat) (al cl cs v : Int) (t : wr.cell? ⟨T, p, none⟩ = some (.int .i32 v)) (hp : p < nst) (hn : nst ≤ 1025) (hal : -128 ≤ al ∧ al ≤ 127) (hcl : -128 ≤ cl ∧ cl ≤ 127) (hcs : 0 ≤ cs ∧ cs ≤ 255) (hv : -2147483648 ≤ v ∧ v ≤ 2147483647) :
    Pin ((((((wr.alloc (.cells #[.int .i64 cl, .int .i64 (cl + cs), .slice none 0 0, .slice none 0 0, .slice none 0 0, .slice none 0 0, .bool false, .int .i64 0, .bool false, .int .i64 (cs + 1), .slice none 0 0, .slice none 0 0, .bool false, .slice none 0 0, .slice none 0 0] 33)).alloc (.cells #[.int .i64 al, .int .i64 (al + 1000), .slice none 0 0, .slice none 0 0, .slice none 0 0, .slice none 0 0, .bool false, .int .i64 0, .bool false] 29)).alloc (.cells #[.int .i64 cl, .int .i64 (cl + cs), .slice none 0 0, .slice none 0 0, .slice none 0 0, .slice none 0 0, .bool false, .int .i64 0, .bool false, .int .i64 (cs + 1), .slice none 0 0, .slice none 0 0, .bool false, .slice none 0 0, .slice none 0 0] 33)).alloc (.cells #[.int .i64 0, .int .i64 0, .int .i64 0, .int .i64 6, .int .i64 0, .int .i64 0, .int .i64 0, .int .i64 0, .int .i64 0, .slice none 0 0, .int .i64 0, .slice none 0 0] 55)).alloc (.cells #[.slice none 0 0, .slice none 0 0, .slice none 0 0, .slice (some ⟨wr.heap.size + 1 + 1, 0, none⟩) 1 1, .bool false, .slice (some ⟨wr.heap.size + 1 + 1 + 1, 0, none⟩) 1 1, .slice none 0 0, .bool false] 59)).alloc (.cells #[.int .i64 1, .bool false, .slice (some ⟨wr.heap.size + 1, 0, none⟩) 1 1, .slice (some ⟨wr.heap.size + 1 + 1 + 1 + 1, 0, none⟩) 1 1, .map none, .slice none 0 0, .slice none 0 0, .slice none 0 0, .map none, .map none, .slice none 0 0, .slice none 0 0, .slice none 0 0, .slice none 0 0, .slice none 0 0, .slice none 0 0, .slice none 0 0, .int .i64 0, .int .i64 0, .int .i64 0, .slice none 0 0, .slice none 0 0, .slice none 0 0, .slice none 0 0, .slice none 0 0, .slice none 0 0, .slice none 0 0, .slice none 0 0, .slice none 0 0] 72)) (wr.heap.size + 1 + 1 + 1 + 1 + 1) (wr.heap.size + 1 + 1 + 1 + 1) (wr.heap.size + 1 + 1) (wr.heap.size + 1 + 1 + 1) (wr.heap.size + 1) T nst p al cl (cl + cs) (cs + 1) v := {
  m0 := by rw [World.cell?_alloc_at _ _ _ _ (by simp)]; rfl
  m2 := by rw [World.cell?_alloc_at _ _ _ _ (by simp)]; rfl
  m3 := by rw [World.cell?_alloc_at _ _ _ _ (by simp)]; rfl
  p3 := by rw [World.cell?_alloc_lt _ _ _ (by simp), World.cell?_alloc_at _ _ _ _ (by simp)]; rfl
  p5 := by rw [World.cell?_alloc_lt _ _ _ (by simp), World.cell?_alloc_at _ _ _ _ (by simp)]; rfl
  u0 := by rw [World.cell?_alloc_lt _ _ _ (by simp), World.cell?_alloc_lt _ _ _ (by simp), World.cell?_alloc_at _ _ _ _ (by simp)]; rfl
  u1 := by rw [World.cell?_alloc_lt _ _ _ (by simp), World.cell?_alloc_lt _ _ _ (by simp), World.cell?_alloc_at _ _ _ _ (by simp)]; rfl
  u2 := by rw [World.cell?_alloc_lt _ _ _ (by simp), World.cell?_alloc_lt _ _ _ (by simp), World.cell?_alloc_at _ _ _ _ (by simp)]; rfl
  u3 := by rw [World.cell?_alloc_lt _ _ _ (by simp), World.cell?_alloc_lt _ _ _ (by simp), World.cell?_alloc_at _ _ _ _ (by simp)]; rfl
  u7 := by rw [World.cell?_alloc_lt _ _ _ (by simp), World.cell?_alloc_lt _ _ _ (by simp), World.cell?_alloc_at _ _ _ _ (by simp)]; rfl
  c0 := by rw [World.cell?_alloc_lt _ _ _ (by simp), World.cell?_alloc_lt _ _ _ (by simp), World.cell?_alloc_lt _ _ _ (by simp), World.cell?_alloc_at _ _ _ _ (by simp)]; rfl
  c1 := by rw [World.cell?_alloc_lt _ _ _ (by simp), World.cell?_alloc_lt _ _ _ (by simp), World.cell?_alloc_lt _ _ _ (by simp), World.cell?_alloc_at _ _ _ _ (by simp)]; rfl
  c2 := by rw [World.cell?_alloc_lt _ _ _ (by simp), World.cell?_alloc_lt _ _ _ (by simp), World.cell?_alloc_lt _ _ _ (by simp), World.cell?_alloc_at _ _ _ _ (by simp)]; rfl
  c8 := by rw [World.cell?_alloc_lt _ _ _ (by simp), World.cell?_alloc_lt _ _ _ (by simp), World.cell?_alloc_lt _ _ _ (by simp), World.cell?_alloc_at _ _ _ _ (by simp)]; rfl
  c9 := by rw [World.cell?_alloc_lt _ _ _ (by simp), World.cell?_alloc_lt _ _ _ (by simp), World.cell?_alloc_lt _ _ _ (by simp), World.cell?_alloc_at _ _ _ _ (by simp)]; rfl
  c12 := by rw [World.cell?_alloc_lt _ _ _ (by simp), World.cell?_alloc_lt _ _ _ (by simp), World.cell?_alloc_lt _ _ _ (by simp), World.cell?_alloc_at _ _ _ _ (by simp)]; rfl
  a0 := by rw [World.cell?_alloc_lt _ _ _ (by simp), World.cell?_alloc_lt _ _ _ (by simp), World.cell?_alloc_lt _ _ _ (by simp), World.cell?_alloc_lt _ _ _ (by simp), World.cell?_alloc_at _ _ _ _ (by simp)]; rfl
  a2 := by rw [World.cell?_alloc_lt _ _ _ (by simp), World.cell?_alloc_lt _ _ _ (by simp), World.cell?_alloc_lt _ _ _ (by simp), World.cell?_alloc_lt _ _ _ (by simp), World.cell?_alloc_at _ _ _ _ (by simp)]; rfl
  t := cell_alloc (cell_alloc (cell_alloc (cell_alloc (cell_alloc (cell_alloc (t) _) _) _) _) _) _
  hp := hp
  hn := hn
  ha := by omega
  hlo := by omega
  hhi := by omega
  hv := hv }

theorem pin_below (wr : World) (al cl cs : Int) : Below wr.heap.size wr ((((((wr.alloc (.cells #[.int .i64 cl, .int .i64 (cl + cs), .slice none 0 0, .slice none 0 0, .slice none 0 0, .slice none 0 0, .bool false, .int .i64 0, .bool false, .int .i64 (cs + 1), .slice none 0 0, .slice none 0 0, .bool false, .slice none 0 0, .slice none 0 0] 33)).alloc (.cells #[.int .i64 al, .int .i64 (al + 1000), .slice none 0 0, .slice none 0 0, .slice none 0 0, .slice none 0 0, .bool false, .int .i64 0, .bool false] 29)).alloc (.cells #[.int .i64 cl, .int .i64 (cl + cs), .slice none 0 0, .slice none 0 0, .slice none 0 0, .slice none 0 0, .bool false, .int .i64 0, .bool false, .int .i64 (cs + 1), .slice none 0 0, .slice none 0 0, .bool false, .slice none 0 0, .slice none 0 0] 33)).alloc (.cells #[.int .i64 0, .int .i64 0, .int .i64 0, .int .i64 6, .int .i64 0, .int .i64 0, .int .i64 0, .int .i64 0, .int .i64 0, .slice none 0 0, .int .i64 0, .slice none 0 0] 55)).alloc (.cells #[.slice none 0 0, .slice none 0 0, .slice none 0 0, .slice (some ⟨wr.heap.size + 1 + 1, 0, none⟩) 1 1, .bool false, .slice (some ⟨wr.heap.size + 1 + 1 + 1, 0, none⟩) 1 1, .slice none 0 0, .bool false] 59)).alloc (.cells #[.int .i64 1, .bool false, .slice (some ⟨wr.heap.size + 1, 0, none⟩) 1 1, .slice (some ⟨wr.heap.size + 1 + 1 + 1 + 1, 0, none⟩) 1 1, .map none, .slice none 0 0, .slice none 0 0, .slice none 0 0, .map none, .map none, .slice none 0 0, .slice none 0 0, .slice none 0 0, .slice none 0 0, .slice none 0 0, .slice none 0 0, .slice none 0 0, .int .i64 0, .int .i64 0, .int .i64 0, .slice none 0 0, .slice none 0 0, .slice none 0 0, .slice none 0 0, .slice none 0 0, .slice none 0 0, .slice none 0 0, .slice none 0 0, .slice none 0 0] 72)) :=
  ((((((Below.refl _ _).alloc (Nat.le_refl _) _).alloc (by simp) _).alloc (by simp; omega) _).alloc (by simp; omega) _).alloc (by simp; omega) _).alloc (by simp; omega) _
end Go.Proofs.YbulkpfsDoor
