/- waitQueue.setHead, link: contracts in cells. -/
import Derived.Test.YbulkpggAtom
set_option linter.unusedVariables false
namespace Go.Proofs.Ybulkpgg
open Go.RowKit

set_option maxHeartbeats 400000 in
theorem setHead_some (Q W : Nat) (s : Int) (u0 u2 : Value) (w : World) (hne : ¬ Q = W) (q0 : w.cell? ⟨Q, 0, none⟩ = some u0) (q2 : w.cell? ⟨Q, 2, none⟩ = some u2) (w1 : w.cell? ⟨W, 1, none⟩ = some (.int .i64 s))
    (f0 : w.frozen? ⟨Q, 0, none⟩ = false) (f2 : w.frozen? ⟨Q, 2, none⟩ = false) :
    Calls Yba.prog 26 #[.pointer (some ⟨Q, 0, none⟩), .pointer (some ⟨W, 0, none⟩)] w fun e w' => e = .returned (.tuple #[]) ∧
      (w.setCell ⟨Q, 0, none⟩ (.pointer (some ⟨W, 0, none⟩))).setCell ⟨Q, 2, none⟩ (.int .i64 (wrap64 (s + 1))) = w' := by
  go_enter Yba.func26, Yba.ntmps26
  go_wp2_with fail
  refine (store_any Q 2 _ u2 _ (by go_simp) (by go_simp)).mono ?_
  rintro e w' ⟨rfl, rfl⟩
  go_wp2
  go_end0
  exact ⟨rfl, rfl⟩

set_option maxHeartbeats 400000 in
theorem setHead_none (Q : Nat) (u0 u2 : Value) (w : World) (q0 : w.cell? ⟨Q, 0, none⟩ = some u0) (q2 : w.cell? ⟨Q, 2, none⟩ = some u2)
    (f0 : w.frozen? ⟨Q, 0, none⟩ = false) (f2 : w.frozen? ⟨Q, 2, none⟩ = false) :
    Calls Yba.prog 26 #[.pointer (some ⟨Q, 0, none⟩), .pointer none] w fun e w' => e = .returned (.tuple #[]) ∧
      (w.setCell ⟨Q, 0, none⟩ (.pointer none)).setCell ⟨Q, 2, none⟩ (.int .i64 0) = w' := by
  go_enter Yba.func26, Yba.ntmps26
  go_wp2_with fail
  refine (store_any Q 2 _ u2 _ (by go_simp) (by go_simp)).mono ?_
  rintro e w' ⟨rfl, rfl⟩
  go_wp2
  go_end0
  exact ⟨rfl, rfl⟩

/-- link at the front of an empty queue. -/
theorem link_nil_nil (Q W : Nat) (s : Int) (u1 u2 v2 v3 : Value) (w : World) (hne : ¬ Q = W) (q0 : w.cell? ⟨Q, 0, none⟩ = some (.pointer none)) (q1 : w.cell? ⟨Q, 1, none⟩ = some u1) (q2 : w.cell? ⟨Q, 2, none⟩ = some u2)
    (w1 : w.cell? ⟨W, 1, none⟩ = some (.int .i64 s)) (w2 : w.cell? ⟨W, 2, none⟩ = some v2) (w3 : w.cell? ⟨W, 3, none⟩ = some v3)
    (f0 : w.frozen? ⟨Q, 0, none⟩ = false) (f1 : w.frozen? ⟨Q, 1, none⟩ = false) (f2 : w.frozen? ⟨Q, 2, none⟩ = false) (g2 : w.frozen? ⟨W, 2, none⟩ = false) (g3 : w.frozen? ⟨W, 3, none⟩ = false) :
    Calls Yba.prog 13 #[.pointer (some ⟨Q, 0, none⟩), .pointer none, .pointer (some ⟨W, 0, none⟩)] w fun e w' => e = .returned (.tuple #[]) ∧
      ((((w.setCell ⟨W, 2, none⟩ (.pointer none)).setCell ⟨W, 3, none⟩ (.pointer none)).setCell ⟨Q, 0, none⟩ (.pointer (some ⟨W, 0, none⟩))).setCell ⟨Q, 2, none⟩ (.int .i64 (wrap64 (s + 1)))).setCell ⟨Q, 1, none⟩ (.pointer (some ⟨W, 0, none⟩)) = w' := by
  have hne' : ¬ W = Q := fun h => hne h.symm
  go_enter Yba.func13, Yba.ntmps13
  go_wp2_with fail
  refine (setHead_some Q W s _ _ _ hne (by go_simp; rfl) (by go_simp; rfl) (by go_simp) (by go_simp) (by go_simp)).mono ?_
  rintro e w' ⟨rfl, rfl⟩
  go_wp2
  go_end0
  exact ⟨rfl, rfl⟩

/-- link at the front, before X. -/
theorem link_nil_some (Q W X : Nat) (s : Int) (u2 v2 v3 x2 : Value) (w : World) (hne : ¬ Q = W) (hX : ¬ Q = X) (hWX : ¬ W = X) (q0 : w.cell? ⟨Q, 0, none⟩ = some (.pointer (some ⟨X, 0, none⟩))) (q2 : w.cell? ⟨Q, 2, none⟩ = some u2)
    (w1 : w.cell? ⟨W, 1, none⟩ = some (.int .i64 s)) (w2 : w.cell? ⟨W, 2, none⟩ = some v2) (w3 : w.cell? ⟨W, 3, none⟩ = some v3) (hx2 : w.cell? ⟨X, 2, none⟩ = some x2)
    (f0 : w.frozen? ⟨Q, 0, none⟩ = false) (f2 : w.frozen? ⟨Q, 2, none⟩ = false) (g2 : w.frozen? ⟨W, 2, none⟩ = false) (g3 : w.frozen? ⟨W, 3, none⟩ = false) (gx : w.frozen? ⟨X, 2, none⟩ = false) :
    Calls Yba.prog 13 #[.pointer (some ⟨Q, 0, none⟩), .pointer none, .pointer (some ⟨W, 0, none⟩)] w fun e w' => e = .returned (.tuple #[]) ∧
      ((((w.setCell ⟨W, 2, none⟩ (.pointer none)).setCell ⟨W, 3, none⟩ (.pointer (some ⟨X, 0, none⟩))).setCell ⟨Q, 0, none⟩ (.pointer (some ⟨W, 0, none⟩))).setCell ⟨Q, 2, none⟩ (.int .i64 (wrap64 (s + 1)))).setCell ⟨X, 2, none⟩ (.pointer (some ⟨W, 0, none⟩)) = w' := by
  have hne' : ¬ W = Q := fun h => hne h.symm
  have hX' : ¬ X = Q := fun h => hX h.symm
  have hWX' : ¬ X = W := fun h => hWX h.symm
  go_enter Yba.func13, Yba.ntmps13
  go_wp2_with fail
  refine (setHead_some Q W s _ _ _ hne (by go_simp; rfl) (by go_simp; rfl) (by go_simp) (by go_simp) (by go_simp)).mono ?_
  rintro e w' ⟨rfl, rfl⟩
  go_wp2
  go_end0
  exact ⟨rfl, rfl⟩

/-- link behind P, the last. -/
theorem link_some_nil (Q W R : Nat) (u1 v2 v3 : Value) (w : World) (hne : ¬ Q = W) (hR : ¬ Q = R) (hWR : ¬ W = R) (q1 : w.cell? ⟨Q, 1, none⟩ = some u1)
    (w2 : w.cell? ⟨W, 2, none⟩ = some v2) (w3 : w.cell? ⟨W, 3, none⟩ = some v3) (hr3 : w.cell? ⟨R, 3, none⟩ = some (.pointer none))
    (f1 : w.frozen? ⟨Q, 1, none⟩ = false) (g2 : w.frozen? ⟨W, 2, none⟩ = false) (g3 : w.frozen? ⟨W, 3, none⟩ = false) (gr : w.frozen? ⟨R, 3, none⟩ = false) :
    Calls Yba.prog 13 #[.pointer (some ⟨Q, 0, none⟩), .pointer (some ⟨R, 0, none⟩), .pointer (some ⟨W, 0, none⟩)] w fun e w' => e = .returned (.tuple #[]) ∧
      (((w.setCell ⟨W, 2, none⟩ (.pointer (some ⟨R, 0, none⟩))).setCell ⟨W, 3, none⟩ (.pointer none)).setCell ⟨R, 3, none⟩ (.pointer (some ⟨W, 0, none⟩))).setCell ⟨Q, 1, none⟩ (.pointer (some ⟨W, 0, none⟩)) = w' := by
  have hne' : ¬ W = Q := fun h => hne h.symm
  have hR' : ¬ R = Q := fun h => hR h.symm
  have hWR' : ¬ R = W := fun h => hWR h.symm
  go_enter Yba.func13, Yba.ntmps13
  go_wp2
  go_end0
  exact ⟨rfl, rfl⟩

/-- link behind P, before X. -/
theorem link_some_some (Q W R X : Nat) (v2 v3 x2 : Value) (w : World) (hne : ¬ Q = W) (hR : ¬ Q = R) (hX : ¬ Q = X) (hWR : ¬ W = R) (hWX : ¬ W = X) (hRX : ¬ R = X)
    (w2 : w.cell? ⟨W, 2, none⟩ = some v2) (w3 : w.cell? ⟨W, 3, none⟩ = some v3) (hr3 : w.cell? ⟨R, 3, none⟩ = some (.pointer (some ⟨X, 0, none⟩))) (hx2 : w.cell? ⟨X, 2, none⟩ = some x2)
    (g2 : w.frozen? ⟨W, 2, none⟩ = false) (g3 : w.frozen? ⟨W, 3, none⟩ = false) (gr : w.frozen? ⟨R, 3, none⟩ = false) (gx : w.frozen? ⟨X, 2, none⟩ = false) :
    Calls Yba.prog 13 #[.pointer (some ⟨Q, 0, none⟩), .pointer (some ⟨R, 0, none⟩), .pointer (some ⟨W, 0, none⟩)] w fun e w' => e = .returned (.tuple #[]) ∧
      (((w.setCell ⟨W, 2, none⟩ (.pointer (some ⟨R, 0, none⟩))).setCell ⟨W, 3, none⟩ (.pointer (some ⟨X, 0, none⟩))).setCell ⟨R, 3, none⟩ (.pointer (some ⟨W, 0, none⟩))).setCell ⟨X, 2, none⟩ (.pointer (some ⟨W, 0, none⟩)) = w' := by
  have hne' : ¬ W = Q := fun h => hne h.symm
  have hR' : ¬ R = Q := fun h => hR h.symm
  have hX' : ¬ X = Q := fun h => hX h.symm
  have hWR' : ¬ R = W := fun h => hWR h.symm
  have hWX' : ¬ X = W := fun h => hWX h.symm
  have hRX' : ¬ X = R := fun h => hRX h.symm
  go_enter Yba.func13, Yba.ntmps13
  go_wp2
  go_end0
  exact ⟨rfl, rfl⟩
end Go.Proofs.Ybulkpgg
