/- The queue's shape in memory, and what link makes of it. -/
import Derived.Test.YbulkpggLink
import Derived.Deep.OwnRows
set_option linter.unusedVariables false
namespace Go.Proofs.Ybulkpgg
open Go.RowKit

/-- A pointer to waiter i, whose block is A i; or nil. -/
def ptr (A : Nat → Nat) (o : Option Nat) : Value := .pointer (o.map fun i => ⟨A i, 0, none⟩)
theorem ptr_none (A : Nat → Nat) : ptr A none = .pointer none := rfl
theorem ptr_some (A : Nat → Nat) (i : Nat) : ptr A (some i) = .pointer (some ⟨A i, 0, none⟩) := rfl
def hsOf (S : Nat → Int) : Option Nat → Int
  | none => 0
  | some i => wrap64 (S i + 1)
def qF (h t s : Value) : Nat → Value := fun j => if j = 0 then h else if j = 1 then t else s
def nF (s : Int) (p n : Value) : Nat → Value := fun j => if j = 0 then .chan none else if j = 1 then .int .i64 s else if j = 2 then p else n
def prv (l : List Nat) (j : Nat) : Option Nat := if j = 0 then none else l[j - 1]?

structure Que (w : World) (Q : Nat) (A : Nat → Nat) (S : Nat → Int) (l : List Nat) : Prop where
  q : w.rowIs Q 51 3 (qF (ptr A l[0]?) (ptr A l[l.length - 1]?) (.int .i64 (hsOf S l[0]?)))
  node : ∀ (j i : Nat), l[j]? = some i → w.rowIs (A i) 56 4 (nF (S i) (ptr A (prv l j)) (ptr A l[j + 1]?))
  ne : ∀ (j i : Nat), l[j]? = some i → ¬ Q = A i
  inj : ∀ (j j' i i' : Nat), l[j]? = some i → l[j']? = some i' → A i = A i' → j = j'

/-- w' is w but for the blocks of which bs holds. -/
structure Only (bs : Nat → Prop) (w w' : World) : Prop where
  os : w'.os = w.os
  tape : w'.tape = w.tape
  output : w'.output = w.output
  size : w'.heap.size = w.heap.size
  block : ∀ b, ¬ bs b → w'.heap[b]? = w.heap[b]?

theorem Only.refl (bs : Nat → Prop) (w : World) : Only bs w w := ⟨rfl, rfl, rfl, rfl, fun _ _ => rfl⟩
theorem Only.setCell {bs : Nat → Prop} {a w : World} (h : Only bs a w) {p : Addr} (hp : bs p.block) (u : Value) : Only bs a (w.setCell p u) :=
  ⟨h.os, h.tape, h.output, by simpa [World.setCell] using h.size, fun b hb => (Below.heap_setCell w p u b (fun e => hb (e ▸ hp))).trans (h.block b hb)⟩
theorem Only.below {bs : Nat → Prop} {w w' : World} (h : Only bs w w') {B : Nat} (hB : ∀ b, b < B → ¬ bs b) : Below B w w' :=
  ⟨h.os, h.tape, h.output, Nat.le_of_eq h.size.symm, fun b hb => h.block b (hB b hb)⟩
theorem Only.row {bs : Nat → Prop} {w w' : World} (h : Only bs w w') {b : Nat} {t : TypeId} {n : Nat} {f : Nat → Value} (hb : ¬ bs b) (hr : w.rowIs b t n f) : w'.rowIs b t n f := hr.of_block (h.block b hb)

/-- l with x put at place p. -/
def ins (l : List Nat) (p x : Nat) : List Nat := l.take p ++ x :: l.drop p

theorem ins_length (l : List Nat) (p x : Nat) (h : p ≤ l.length) : (ins l p x).length = l.length + 1 := by simp [ins]; omega
theorem ins_lt (l : List Nat) (p x j : Nat) (h : p ≤ l.length) (hj : j < p) : (ins l p x)[j]? = l[j]? := by
  rw [ins, List.getElem?_append_left (by simp; omega), List.getElem?_take, if_pos hj]
theorem ins_eq (l : List Nat) (p x : Nat) (h : p ≤ l.length) : (ins l p x)[p]? = some x := by
  simp [ins, Nat.min_eq_left h]
theorem ins_gt (l : List Nat) (p x j : Nat) (h : p ≤ l.length) (hj : p ≤ j) : (ins l p x)[j + 1]? = l[j]? := by
  rw [ins, List.getElem?_append_right (by simp; omega)]
  simp only [List.length_take, Nat.min_eq_left h]
  rw [show j + 1 - p = (j - p) + 1 from by omega, List.getElem?_cons_succ, List.getElem?_drop]
  congr 1; omega

/-- What link has done. -/
structure Linked (w w' : World) (Q : Nat) (A : Nat → Nat) (S : Nat → Int) (l : List Nat) (p x : Nat) : Prop where
  n : w'.rowIs (A x) 56 4 (nF (S x) (ptr A (prv l p)) (ptr A l[p]?))
  r : ∀ i, 0 < p → l[p - 1]? = some i → w'.rowIs (A i) 56 4 (nF (S i) (ptr A (prv l (p - 1))) (ptr A (some x)))
  y : ∀ i, l[p]? = some i → w'.rowIs (A i) 56 4 (nF (S i) (ptr A (some x)) (ptr A l[p + 1]?))
  o : ∀ (j i : Nat), l[j]? = some i → (0 < p → j ≠ p - 1) → j ≠ p → w'.rowIs (A i) 56 4 (nF (S i) (ptr A (prv l j)) (ptr A l[j + 1]?))
  q : w'.rowIs Q 51 3 (qF (if p = 0 then ptr A (some x) else ptr A l[0]?) (if l[p]? = none then ptr A (some x) else ptr A l[l.length - 1]?) (.int .i64 (if p = 0 then hsOf S (some x) else hsOf S l[0]?)))

theorem Linked.que {w w' : World} {Q : Nat} {A : Nat → Nat} {S : Nat → Int} {l : List Nat} {p x : Nat} (hL : Linked w w' Q A S l p x) (hQ : Que w Q A S l) (hp : p ≤ l.length)
    (hxQ : ¬ Q = A x) (hxl : ∀ i ∈ l, ¬ A i = A x) : Que w' Q A S (ins l p x) := by
  have i0 := ins_lt l p x
  have i1 := ins_eq l p x hp
  have i2 := ins_gt l p x
  have memb : ∀ (j i : Nat), l[j]? = some i → i ∈ l := fun j i h => List.mem_of_getElem? h
  refine ⟨?_, ?_, ?_, ?_⟩
  · refine hL.q.congr fun j hj => ?_
    have e0 : (if p = 0 then ptr A (some x) else ptr A l[0]?) = ptr A (ins l p x)[0]? := by
      by_cases h : p = 0
      · subst h; rw [if_pos rfl, i1]
      · rw [if_neg h, i0 0 hp (by omega)]
    have e1 : (if l[p]? = none then ptr A (some x) else ptr A l[l.length - 1]?) = ptr A (ins l p x)[(ins l p x).length - 1]? := by
      rw [ins_length l p x hp, Nat.add_sub_cancel]
      by_cases h : p = l.length
      · subst h; rw [if_pos (by simp), i1]
      · have hlt : p < l.length := by omega
        rw [if_neg (by simp; omega)]
        have := i2 (l.length - 1) hp (by omega)
        rw [show l.length - 1 + 1 = l.length from by omega] at this
        rw [this]
    have e2 : (if p = 0 then hsOf S (some x) else hsOf S l[0]?) = hsOf S (ins l p x)[0]? := by
      by_cases h : p = 0
      · subst h; rw [if_pos rfl, i1]
      · rw [if_neg h, i0 0 hp (by omega)]
    rw [e0, e1, e2]
  · intro j i hj
    rcases Nat.lt_trichotomy j p with hlt | heq | hgt
    · rw [i0 j hp hlt] at hj
      have ep : prv (ins l p x) j = prv l j := by
        unfold prv
        by_cases h : j = 0
        · rw [if_pos h, if_pos h]
        · rw [if_neg h, if_neg h, i0 (j - 1) hp (by omega)]
      rw [ep]
      by_cases hl : j + 1 = p
      · have hr := hL.r i (by omega) (by rw [show p - 1 = j from by omega]; exact hj)
        rw [show p - 1 = j from by omega] at hr
        rw [hl, i1]; exact hr
      · rw [i0 (j + 1) hp (by omega)]
        exact hL.o j i hj (fun _ => by omega) (by omega)
    · subst heq
      rw [i1] at hj
      obtain rfl : x = i := by simpa using hj
      have ep : prv (ins l j x) j = prv l j := by
        unfold prv
        by_cases h : j = 0
        · rw [if_pos h, if_pos h]
        · rw [if_neg h, if_neg h, i0 (j - 1) hp (by omega)]
      rw [ep, i2 j hp (Nat.le_refl _)]
      exact hL.n
    · obtain ⟨m, rfl⟩ : ∃ m, j = m + 1 := ⟨j - 1, by omega⟩
      rw [i2 m hp (by omega)] at hj
      rw [i2 (m + 1) hp (by omega)]
      by_cases hm : m = p
      · subst hm
        have ep : prv (ins l m x) (m + 1) = some x := by unfold prv; simp [i1]
        rw [ep]
        exact hL.y i hj
      · have ep : prv (ins l p x) (m + 1) = prv l m := by
          unfold prv
          rw [if_neg (by omega), if_neg (by omega), Nat.add_sub_cancel]
          have := i2 (m - 1) hp (by omega)
          rw [show m - 1 + 1 = m from by omega] at this
          exact this
        rw [ep]
        exact hL.o m i hj (fun _ => by omega) hm
  · intro j i hj
    rcases Nat.lt_trichotomy j p with hlt | heq | hgt
    · rw [i0 j hp hlt] at hj; exact hQ.ne j i hj
    · subst heq; rw [i1] at hj; obtain rfl : x = i := by simpa using hj
      exact hxQ
    · obtain ⟨m, rfl⟩ : ∃ m, j = m + 1 := ⟨j - 1, by omega⟩
      rw [i2 m hp (by omega)] at hj; exact hQ.ne m i hj
  · have cl : ∀ (j i : Nat), (ins l p x)[j]? = some i → (j = p ∧ i = x) ∨ (j < p ∧ l[j]? = some i) ∨ (p < j ∧ l[j - 1]? = some i) := by
      intro j i hj
      rcases Nat.lt_trichotomy j p with hlt | heq | hgt
      · rw [i0 j hp hlt] at hj; exact .inr (.inl ⟨hlt, hj⟩)
      · subst heq; rw [i1] at hj; exact .inl ⟨rfl, (by simpa using hj.symm)⟩
      · obtain ⟨m, rfl⟩ : ∃ m, j = m + 1 := ⟨j - 1, by omega⟩
        rw [i2 m hp (by omega)] at hj; exact .inr (.inr ⟨hgt, by simpa using hj⟩)
    intro j j' i i' hj hj' he
    rcases cl j i hj with ⟨rfl, rfl⟩ | ⟨h1, h2⟩ | ⟨h1, h2⟩ <;> rcases cl j' i' hj' with ⟨rfl, rfl⟩ | ⟨h3, h4⟩ | ⟨h3, h4⟩
    · rfl
    · exact absurd he.symm (hxl i' (memb _ _ h4))
    · exact absurd he.symm (hxl i' (memb _ _ h4))
    · exact absurd he (hxl i (memb _ _ h2))
    · exact hQ.inj j j' i i' h2 h4 he
    · have := hQ.inj j (j' - 1) i i' h2 h4 he; omega
    · exact absurd he (hxl i (memb _ _ h2))
    · have := hQ.inj (j - 1) j' i i' h2 h4 he; omega
    · have := hQ.inj (j - 1) (j' - 1) i i' h2 h4 he; omega
end Go.Proofs.Ybulkpgg
