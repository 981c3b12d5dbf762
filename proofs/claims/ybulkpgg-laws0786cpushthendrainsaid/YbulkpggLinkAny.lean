/- link, at every queue. -/
import Derived.Test.YbulkpggQue
set_option linter.unusedVariables false
namespace Go.Proofs.Ybulkpgg
open Go.RowKit

theorem row_prev {w : World} {b : Nat} {s : Int} {p n : Value} (h : w.rowIs b 56 4 (nF s p n)) (v : Value) : (w.setCell ⟨b, 2, none⟩ v).rowIs b 56 4 (nF s v n) :=
  (h.set 2 v).congr fun j hj => by unfold nF; match j, hj with | 0, _ => rfl | 1, _ => rfl | 2, _ => rfl | 3, _ => rfl
theorem row_next {w : World} {b : Nat} {s : Int} {p n : Value} (h : w.rowIs b 56 4 (nF s p n)) (v : Value) : (w.setCell ⟨b, 3, none⟩ v).rowIs b 56 4 (nF s p v) :=
  (h.set 3 v).congr fun j hj => by unfold nF; match j, hj with | 0, _ => rfl | 1, _ => rfl | 2, _ => rfl | 3, _ => rfl
theorem row_head {w : World} {b : Nat} {h t s : Value} (hr : w.rowIs b 51 3 (qF h t s)) (v : Value) : (w.setCell ⟨b, 0, none⟩ v).rowIs b 51 3 (qF v t s) :=
  (hr.set 0 v).congr fun j hj => by unfold qF; match j, hj with | 0, _ => rfl | 1, _ => rfl | 2, _ => rfl
theorem row_tail {w : World} {b : Nat} {h t s : Value} (hr : w.rowIs b 51 3 (qF h t s)) (v : Value) : (w.setCell ⟨b, 1, none⟩ v).rowIs b 51 3 (qF h v s) :=
  (hr.set 1 v).congr fun j hj => by unfold qF; match j, hj with | 0, _ => rfl | 1, _ => rfl | 2, _ => rfl
theorem row_since {w : World} {b : Nat} {h t s : Value} (hr : w.rowIs b 51 3 (qF h t s)) (v : Value) : (w.setCell ⟨b, 2, none⟩ v).rowIs b 51 3 (qF h t v) :=
  (hr.set 2 v).congr fun j hj => by unfold qF; match j, hj with | 0, _ => rfl | 1, _ => rfl | 2, _ => rfl

theorem prv_zero (l : List Nat) : prv l 0 = none := rfl
theorem prv_pos (l : List Nat) (p : Nat) (h : 0 < p) : prv l p = l[p - 1]? := by unfold prv; rw [if_neg (by omega)]

/-- The blocks that link may write. -/
def Mine (Q : Nat) (A : Nat → Nat) (x : Nat) (l : List Nat) (b : Nat) : Prop := b = Q ∨ b = A x ∨ ∃ i ∈ l, b = A i

theorem link_any (Q : Nat) (A : Nat → Nat) (S : Nat → Int) (l : List Nat) (p x : Nat) (v2 v3 : Value) (w : World) (hQ : Que w Q A S l) (hp : p ≤ l.length) (hx : w.rowIs (A x) 56 4 (nF (S x) v2 v3))
    (hxQ : ¬ Q = A x) (hxl : ∀ i ∈ l, ¬ A i = A x) :
    Calls Yba.prog 13 #[.pointer (some ⟨Q, 0, none⟩), ptr A (prv l p), .pointer (some ⟨A x, 0, none⟩)] w fun e w' => e = .returned (.tuple #[]) ∧ Linked w w' Q A S l p x ∧ Only (Mine Q A x l) w w' := by
  have memb : ∀ (j i : Nat), l[j]? = some i → i ∈ l := fun j i h => List.mem_of_getElem? h
  have mQ : Mine Q A x l Q := .inl rfl
  have mX : Mine Q A x l (A x) := .inr (.inl rfl)
  have mL : ∀ i, i ∈ l → Mine Q A x l (A i) := fun i h => .inr (.inr ⟨i, h, rfl⟩)
  have q0 := hQ.q.cell (i := 0) (by omega)
  have q1 := hQ.q.cell (i := 1) (by omega)
  have q2 := hQ.q.cell (i := 2) (by omega)
  have w1 := hx.cell (i := 1) (by omega)
  have w2 := hx.cell (i := 2) (by omega)
  have w3 := hx.cell (i := 3) (by omega)
  simp [qF, nF] at q0 q1 q2 w1 w2 w3
  by_cases h0 : p = 0
  · subst h0
    rw [prv_zero, ptr_none]
    cases hl : l[0]? with
    | none =>
      have hnil : l = [] := by simpa using hl
      subst hnil
      rw [hl, ptr_none] at q0
      refine (link_nil_nil Q (A x) (S x) _ _ _ _ w hxQ q0 q1 q2 w1 w2 w3 (hQ.q.frozen _) (hQ.q.frozen _) (hQ.q.frozen _) (hx.frozen _) (hx.frozen _)).mono ?_
      rintro e w' ⟨rfl, rfl⟩
      refine ⟨rfl, ⟨?_, ?_, ?_, ?_, ?_⟩, ?_⟩
      · exact (((row_next (row_prev hx _) _).setOther (Ne.symm hxQ) _).setOther (Ne.symm hxQ) _).setOther (Ne.symm hxQ) _
      · intro i h; omega
      · intro i h; simp at h
      · intro j i h; simp at h
      · refine (row_tail (row_since (row_head ((hQ.q.setOther hxQ _).setOther hxQ _) _) _) _).congr fun j hj => ?_
        simp [hsOf, ptr_some]
      · exact (((((Only.refl _ _).setCell mX _).setCell mX _).setCell mQ _).setCell mQ _).setCell mQ _
    | some y =>
      have hy := memb 0 y hl
      have hnY := hQ.node 0 y hl
      have hQy := hQ.ne 0 y hl
      have hxy : ¬ A x = A y := fun h => hxl y hy h.symm
      have y2 := hnY.cell (i := 2) (by omega)
      simp [nF] at y2
      rw [hl, ptr_some] at q0
      refine (link_nil_some Q (A x) (A y) (S x) _ _ _ _ w hxQ hQy hxy q0 q2 w1 w2 w3 y2 (hQ.q.frozen _) (hQ.q.frozen _) (hx.frozen _) (hx.frozen _) (hnY.frozen _)).mono ?_
      rintro e w' ⟨rfl, rfl⟩
      refine ⟨rfl, ⟨?_, ?_, ?_, ?_, ?_⟩, ?_⟩
      · rw [prv_zero, hl, ptr_none, ptr_some]
        exact (((row_next (row_prev hx _) _).setOther (Ne.symm hxQ) _).setOther (Ne.symm hxQ) _).setOther hxy _
      · intro i h; omega
      · intro i h
        obtain rfl : y = i := by simpa [hl] using h
        exact row_prev ((((hnY.setOther (Ne.symm hxy) _).setOther (Ne.symm hxy) _).setOther (Ne.symm hQy) _).setOther (Ne.symm hQy) _) _
      · intro j i h _ hj0
        have hi := memb j i h
        have hiy : A i ≠ A y := fun e => hj0 (hQ.inj j 0 i y h hl e)
        exact (((((hQ.node j i h).setOther (hxl i hi) _).setOther (hxl i hi) _).setOther (Ne.symm (hQ.ne j i h)) _).setOther (Ne.symm (hQ.ne j i h)) _).setOther hiy _
      · refine ((row_since (row_head ((hQ.q.setOther hxQ _).setOther hxQ _) _) _).setOther hQy _).congr fun j hj => ?_
        simp [hsOf, ptr_some, hl]
      · exact (((((Only.refl _ _).setCell mX _).setCell mX _).setCell mQ _).setCell mQ _).setCell (mL y hy) _
  · have hpos : 0 < p := by omega
    obtain ⟨r, hr⟩ : ∃ r, l[p - 1]? = some r := ⟨_, List.getElem?_eq_getElem (by omega)⟩
    have hrm := memb _ _ hr
    have hnR := hQ.node _ _ hr
    have hQr := hQ.ne _ _ hr
    have hxr : ¬ A x = A r := fun h => hxl r hrm h.symm
    have r3 := hnR.cell (i := 3) (by omega)
    simp [nF] at r3
    rw [show p - 1 + 1 = p from by omega] at r3 hnR
    rw [prv_pos l p hpos, hr, ptr_some]
    cases hl : l[p]? with
    | none =>
      rw [hl, ptr_none] at r3
      refine (link_some_nil Q (A x) (A r) _ _ _ w hxQ hQr hxr q1 w2 w3 r3 (hQ.q.frozen _) (hx.frozen _) (hx.frozen _) (hnR.frozen _)).mono ?_
      rintro e w' ⟨rfl, rfl⟩
      refine ⟨rfl, ⟨?_, ?_, ?_, ?_, ?_⟩, ?_⟩
      · rw [prv_pos l p hpos, hr, hl, ptr_none, ptr_some]
        exact ((row_next (row_prev hx _) _).setOther hxr _).setOther (Ne.symm hxQ) _
      · intro i _ h
        obtain rfl : r = i := by simpa [hr] using h
        exact (row_next ((hnR.setOther (Ne.symm hxr) _).setOther (Ne.symm hxr) _) _).setOther (Ne.symm hQr) _
      · intro i h; simp [hl] at h
      · intro j i h hjr hj0
        have hi := memb j i h
        have hir : A i ≠ A r := fun e => hjr hpos (hQ.inj j (p - 1) i r h hr e)
        exact ((((hQ.node j i h).setOther (hxl i hi) _).setOther (hxl i hi) _).setOther hir _).setOther (Ne.symm (hQ.ne j i h)) _
      · refine (row_tail (((hQ.q.setOther hxQ _).setOther hxQ _).setOther hQr _) _).congr fun j hj => ?_
        simp [ptr_some, hl, h0]
      · exact ((((Only.refl _ _).setCell mX _).setCell mX _).setCell (mL r hrm) _).setCell mQ _
    | some y =>
      have hy := memb p y hl
      have hnY := hQ.node p y hl
      have hQy := hQ.ne p y hl
      have hxy : ¬ A x = A y := fun h => hxl y hy h.symm
      have hry : ¬ A r = A y := fun e => by have := hQ.inj (p - 1) p r y hr hl e; omega
      have y2 := hnY.cell (i := 2) (by omega)
      simp [nF] at y2
      rw [hl, ptr_some] at r3
      refine (link_some_some Q (A x) (A r) (A y) _ _ _ w hxQ hQr hQy hxr hxy hry w2 w3 r3 y2 (hx.frozen _) (hx.frozen _) (hnR.frozen _) (hnY.frozen _)).mono ?_
      rintro e w' ⟨rfl, rfl⟩
      refine ⟨rfl, ⟨?_, ?_, ?_, ?_, ?_⟩, ?_⟩
      · rw [prv_pos l p hpos, hr, hl, ptr_some, ptr_some]
        exact ((row_next (row_prev hx _) _).setOther hxr _).setOther hxy _
      · intro i _ h
        obtain rfl : r = i := by simpa [hr] using h
        exact (row_next ((hnR.setOther (Ne.symm hxr) _).setOther (Ne.symm hxr) _) _).setOther hry _
      · intro i h
        obtain rfl : y = i := by simpa [hl] using h
        exact row_prev (((hnY.setOther (Ne.symm hxy) _).setOther (Ne.symm hxy) _).setOther (Ne.symm hry) _) _
      · intro j i h hjr hj0
        have hi := memb j i h
        have hir : A i ≠ A r := fun e => hjr hpos (hQ.inj j (p - 1) i r h hr e)
        have hiy : A i ≠ A y := fun e => hj0 (hQ.inj j p i y h hl e)
        exact ((((hQ.node j i h).setOther (hxl i hi) _).setOther (hxl i hi) _).setOther hir _).setOther hiy _
      · refine ((((hQ.q.setOther hxQ _).setOther hxQ _).setOther hQr _).setOther hQy _).congr fun j hj => ?_
        simp [hl, h0]
      · exact ((((Only.refl _ _).setCell mX _).setCell mX _).setCell (mL r hrm) _).setCell (mL y hy) _
end Go.Proofs.Ybulkpgg
