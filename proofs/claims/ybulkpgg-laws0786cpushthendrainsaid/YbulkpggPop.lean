/- waitQueue.unlink of the first waiter, popFront, empty, frontSince, pushBack, pushFront. -/
import Derived.Test.YbulkpggStages
import Derived.RegionTactic
import Derived.ChangeAlike
set_option linter.unusedVariables false
namespace Go.Proofs.Ybulkpgg
open Go.RowKit Go.Deep

set_option maxHeartbeats 400000 in
theorem unlink_last (Q X : Nat) (u0 u1 u2 : Value) (w : World) (hne : ¬ Q = X) (q0 : w.cell? ⟨Q, 0, none⟩ = some u0) (q1 : w.cell? ⟨Q, 1, none⟩ = some u1) (q2 : w.cell? ⟨Q, 2, none⟩ = some u2)
    (x2 : w.cell? ⟨X, 2, none⟩ = some (.pointer none)) (x3 : w.cell? ⟨X, 3, none⟩ = some (.pointer none))
    (f0 : w.frozen? ⟨Q, 0, none⟩ = false) (f1 : w.frozen? ⟨Q, 1, none⟩ = false) (f2 : w.frozen? ⟨Q, 2, none⟩ = false) (g2 : w.frozen? ⟨X, 2, none⟩ = false) (g3 : w.frozen? ⟨X, 3, none⟩ = false) :
    Calls Yba.prog 29 #[.pointer (some ⟨Q, 0, none⟩), .pointer (some ⟨X, 0, none⟩)] w fun e w' => e = .returned (.tuple #[]) ∧
      ((((w.setCell ⟨Q, 0, none⟩ (.pointer none)).setCell ⟨Q, 2, none⟩ (.int .i64 0)).setCell ⟨Q, 1, none⟩ (.pointer none)).setCell ⟨X, 2, none⟩ (.pointer none)).setCell ⟨X, 3, none⟩ (.pointer none) = w' := by
  have hne' : ¬ X = Q := fun h => hne h.symm
  go_enter Yba.func29, Yba.ntmps29
  go_wp2_with fail
  refine (setHead_none Q _ _ _ q0 q2 f0 f2).mono ?_
  rintro e w' ⟨rfl, rfl⟩
  go_wp2
  go_end0
  exact ⟨rfl, rfl⟩

set_option maxHeartbeats 400000 in
theorem unlink_more (Q X Y : Nat) (s : Int) (u0 u2 v2 : Value) (w : World) (hne : ¬ Q = X) (hQY : ¬ Q = Y) (hXY : ¬ X = Y) (q0 : w.cell? ⟨Q, 0, none⟩ = some u0) (q2 : w.cell? ⟨Q, 2, none⟩ = some u2)
    (x2 : w.cell? ⟨X, 2, none⟩ = some (.pointer none)) (x3 : w.cell? ⟨X, 3, none⟩ = some (.pointer (some ⟨Y, 0, none⟩))) (y1 : w.cell? ⟨Y, 1, none⟩ = some (.int .i64 s)) (y2 : w.cell? ⟨Y, 2, none⟩ = some v2)
    (f0 : w.frozen? ⟨Q, 0, none⟩ = false) (f2 : w.frozen? ⟨Q, 2, none⟩ = false) (g2 : w.frozen? ⟨X, 2, none⟩ = false) (g3 : w.frozen? ⟨X, 3, none⟩ = false) (gy : w.frozen? ⟨Y, 2, none⟩ = false) :
    Calls Yba.prog 29 #[.pointer (some ⟨Q, 0, none⟩), .pointer (some ⟨X, 0, none⟩)] w fun e w' => e = .returned (.tuple #[]) ∧
      (((((w.setCell ⟨Q, 0, none⟩ (.pointer (some ⟨Y, 0, none⟩))).setCell ⟨Q, 2, none⟩ (.int .i64 (wrap64 (s + 1)))).setCell ⟨Y, 2, none⟩ (.pointer none)).setCell ⟨X, 2, none⟩ (.pointer none)).setCell ⟨X, 3, none⟩ (.pointer none)).drew = w' := by
  have hne' : ¬ X = Q := fun h => hne h.symm
  have hQY' : ¬ Y = Q := fun h => hQY h.symm
  have hXY' : ¬ Y = X := fun h => hXY h.symm
  go_enter Yba.func29, Yba.ntmps29
  go_wp2_with fail
  refine (setHead_some Q Y s _ _ _ hQY q0 q2 y1 f0 f2).mono ?_
  rintro e w' ⟨rfl, rfl⟩
  go_wp2
  go_region
  go_wp2
  go_end0
  exact ⟨rfl, rfl⟩

theorem hide {p : Prop} (h : p) : Hid p := h
theorem unhide {p : Prop} (h : Hid p) : p := h

theorem popFront_of (Q X : Nat) (w : World) (R : World → Prop) (q0 : w.cell? ⟨Q, 0, none⟩ = some (.pointer (some ⟨X, 0, none⟩)))
    (h : Calls Yba.prog 29 #[.pointer (some ⟨Q, 0, none⟩), .pointer (some ⟨X, 0, none⟩)] w fun e w' => e = .returned (.tuple #[]) ∧ R w') :
    Calls Yba.prog 19 #[.pointer (some ⟨Q, 0, none⟩)] w fun e w' => e = .returned (.pointer (some ⟨X, 0, none⟩)) ∧ R w' := by
  have H := hide h
  clear h
  go_enter Yba.func19, Yba.ntmps19
  go_wp2_with fail
  refine (unhide H).mono ?_
  rintro e w' ⟨rfl, hr⟩
  have HR := hide hr
  clear hr
  go_wp2
  go_ret
  exact ⟨rfl, unhide HR⟩

theorem pop_any (Q : Nat) (A : Nat → Nat) (S : Nat → Int) (x : Nat) (r : List Nat) (w : World) (hQ : Que w Q A S (x :: r)) :
    Calls Yba.prog 19 #[.pointer (some ⟨Q, 0, none⟩)] w fun e w' => e = .returned (.pointer (some ⟨A x, 0, none⟩)) ∧ (Que w' Q A S r ∧ w'.rowIs (A x) 56 4 (nF (S x) (.pointer none) (.pointer none)) ∧ Only (Mine Q A x r) w w') := by
  have mQ : Mine Q A x r Q := .inl rfl
  have mX : Mine Q A x r (A x) := .inr (.inl rfl)
  have mL : ∀ i, i ∈ r → Mine Q A x r (A i) := fun i h => .inr (.inr ⟨i, h, rfl⟩)
  have hX := hQ.node 0 x rfl
  have hQx := hQ.ne 0 x rfl
  have q0 := hQ.q.cell (i := 0) (by omega)
  have q1 := hQ.q.cell (i := 1) (by omega)
  have q2 := hQ.q.cell (i := 2) (by omega)
  have x2 := hX.cell (i := 2) (by omega)
  have x3 := hX.cell (i := 3) (by omega)
  simp [qF, nF, prv_zero, ptr_none, ptr_some] at q0 q1 q2 x2 x3
  refine popFront_of Q (A x) w _ q0 ?_
  cases r with
  | nil =>
    simp [ptr_none] at x3
    refine (unlink_last Q (A x) _ _ _ w hQx q0 q1 q2 x2 x3 (hQ.q.frozen _) (hQ.q.frozen _) (hQ.q.frozen _) (hX.frozen _) (hX.frozen _)).mono ?_
    rintro e w' ⟨rfl, rfl⟩
    refine ⟨rfl, ⟨?_, ?_, ?_, ?_⟩, ?_, ?_⟩
    · refine ((row_tail (row_since (row_head hQ.q _) _) _).setOther hQx _).setOther hQx _
    · intro j i h; simp at h
    · intro j i h; simp at h
    · intro j _ i _ h; simp at h
    · exact row_next (row_prev (((hX.setOther (Ne.symm hQx) _).setOther (Ne.symm hQx) _).setOther (Ne.symm hQx) _) _) _
    · exact (((((Only.refl _ _).setCell mQ _).setCell mQ _).setCell mQ _).setCell mX _).setCell mX _
  | cons y r' =>
    have hY := hQ.node 1 y rfl
    have hQy := hQ.ne 1 y rfl
    have hXY : ¬ A x = A y := fun e => by have := hQ.inj 0 1 x y rfl rfl e; omega
    have y1 := hY.cell (i := 1) (by omega)
    have y2 := hY.cell (i := 2) (by omega)
    simp [nF] at y1 y2
    simp [ptr_some] at x3
    refine (unlink_more Q (A x) (A y) (S y) _ _ _ w hQx hQy hXY q0 q2 x2 x3 y1 y2 (hQ.q.frozen _) (hQ.q.frozen _) (hX.frozen _) (hX.frozen _) (hY.frozen _)).mono ?_
    rintro e w' ⟨rfl, rfl⟩
    refine ⟨rfl, ⟨?_, ?_, ?_, ?_⟩, ?_, ?_⟩
    · refine ((((row_since (row_head hQ.q _) _).setOther hQy _).setOther hQx _).setOther hQx _).drew
    · intro j i h
      by_cases hj : j = 0
      · subst hj
        obtain rfl : y = i := by simpa using h
        exact (((row_prev ((hY.setOther (Ne.symm hQy) _).setOther (Ne.symm hQy) _) _).setOther (Ne.symm hXY) _).setOther (Ne.symm hXY) _).drew
      · have h' : (x :: y :: r')[j + 1]? = some i := by simpa using h
        have hN := hQ.node (j + 1) i h'
        have hQi := hQ.ne (j + 1) i h'
        have hiy : A i ≠ A y := fun e => by have := hQ.inj (j + 1) 1 i y h' rfl e; omega
        have hix : A i ≠ A x := fun e => by have := hQ.inj (j + 1) 0 i x h' rfl e; omega
        have ep : prv (x :: y :: r') (j + 1) = prv (y :: r') j := by
          rw [prv_pos _ _ (by omega), prv_pos _ _ (by omega), Nat.add_sub_cancel]
          rw [show j = (j - 1) + 1 from by omega, List.getElem?_cons_succ, Nat.add_sub_cancel]
        rw [ep] at hN
        exact (((((hN.setOther (Ne.symm hQi) _).setOther (Ne.symm hQi) _).setOther hiy _).setOther hix _).setOther hix _).drew
    · intro j i h; exact hQ.ne (j + 1) i (by simpa using h)
    · intro j j' i i' h h' e
      have := hQ.inj (j + 1) (j' + 1) i i' (by simpa using h) (by simpa using h') e
      omega
    · exact (row_next (row_prev (((hX.setOther (Ne.symm hQx) _).setOther (Ne.symm hQx) _).setOther hXY _) _) _).drew
    · exact ((((((Only.refl _ _).setCell mQ _).setCell mQ _).setCell (mL y (by simp)) _).setCell mX _).setCell mX _).drew

set_option maxHeartbeats 400000 in
theorem empty_any (Q : Nat) (o : Option Addr) (w : World) (q0 : w.cell? ⟨Q, 0, none⟩ = some (.pointer o)) :
    Calls Yba.prog 18 #[.pointer (some ⟨Q, 0, none⟩)] w fun e w' => e = .returned (.bool o.isNone) ∧ w = w' := by
  go_enter Yba.func18, Yba.ntmps18
  go_wp2
  go_ret
  exact ⟨rfl, rfl⟩

set_option maxHeartbeats 400000 in
theorem frontSince_zero (Q : Nat) (w : World) (q2 : w.cell? ⟨Q, 2, none⟩ = some (.int .i64 0)) :
    Calls Yba.prog 20 #[.pointer (some ⟨Q, 0, none⟩)] w fun e w' => (∃ v, e = .returned (.tuple #[.int .i64 v, .bool false])) ∧ w = w' := by
  go_enter Yba.func20, Yba.ntmps20
  go_wp2_with fail
  refine (loadi_any Q 2 _ _ q2).mono ?_
  rintro e w' ⟨rfl, rfl⟩
  go_wp2
  go_ret2
  exact ⟨⟨_, rfl⟩, rfl⟩

theorem pushBack_of (Q X : Nat) (t : Value) (w : World) (R : World → Prop) (q1 : w.cell? ⟨Q, 1, none⟩ = some t) (ht : ∃ o, t = .pointer o)
    (h : Calls Yba.prog 13 #[.pointer (some ⟨Q, 0, none⟩), t, .pointer (some ⟨X, 0, none⟩)] w fun e w' => e = .returned (.tuple #[]) ∧ R w') :
    Calls Yba.prog 16 #[.pointer (some ⟨Q, 0, none⟩), .pointer (some ⟨X, 0, none⟩)] w fun e w' => e = .returned (.tuple #[]) ∧ R w' := by
  obtain ⟨o, rfl⟩ := ht
  have H := hide h
  clear h
  go_enter Yba.func16, Yba.ntmps16
  go_wp2_with fail
  refine (unhide H).mono ?_
  rintro e w' ⟨rfl, hr⟩
  have HR := hide hr
  clear hr
  go_wp2
  go_end0
  exact ⟨rfl, unhide HR⟩

theorem pushFront_of (Q X : Nat) (w : World) (R : World → Prop)
    (h : Calls Yba.prog 13 #[.pointer (some ⟨Q, 0, none⟩), .pointer none, .pointer (some ⟨X, 0, none⟩)] w fun e w' => e = .returned (.tuple #[]) ∧ R w') :
    Calls Yba.prog 17 #[.pointer (some ⟨Q, 0, none⟩), .pointer (some ⟨X, 0, none⟩)] w fun e w' => e = .returned (.tuple #[]) ∧ R w' := by
  have H := hide h
  clear h
  go_enter Yba.func17, Yba.ntmps17
  go_wp2_with fail
  refine (unhide H).mono ?_
  rintro e w' ⟨rfl, hr⟩
  have HR := hide hr
  clear hr
  go_wp2
  go_end0
  exact ⟨rfl, unhide HR⟩
end Go.Proofs.Ybulkpgg
