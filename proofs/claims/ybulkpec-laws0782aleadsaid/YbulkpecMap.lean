/- A map of times: what it holds; what a range over it has collected. -/
import Derived.Test.YbulkpecNode
import Derived.Maps.Own
import Derived.Maps.OwnSet
import Derived.Maps.RangeWalk
import Derived.Deep.AppendLies
import Derived.KernelRfl
set_option linter.unusedVariables false
namespace Go.Proofs.Ybulkpec
open Go.RowKit Go.Maps

theorem T_inj {a b : Int} (h : T a = T b) : a = b := by
  have h1 : wallOf a = wallOf b ∧ extOf a = extOf b := by
    unfold T at h
    simpa using h
  rw [T_split a, T_split b, h1.1, h1.2]

open Classical in
/-- How an element reads: the offset of the time. -/
noncomputable def timeElem (v : Value) : Option (DataW Unit × List MemPlace) :=
  if h : ∃ c, v = T c then some (.lit (.int .i64 (Classical.choose h)), []) else none

theorem timeElem_T (c : Int) : timeElem (T c) = some (.lit (.int .i64 c), []) := by
  have h : ∃ c', T c = T c' := ⟨c, rfl⟩
  have e : Classical.choose h = c := (T_inj (Classical.choose_spec h)).symm
  unfold timeElem
  rw [dif_pos h, e]

theorem timeElem_inv {v : Value} {y : DataW Unit × List MemPlace} (h : timeElem v = some y) : ∃ c, v = T c ∧ y = (.lit (.int .i64 c), []) := by
  unfold timeElem at h
  split at h
  · rename_i hx
    obtain ⟨c, rfl⟩ := hx
    have := timeElem_T c
    unfold timeElem at this
    rw [dif_pos ⟨c, rfl⟩] at this
    refine ⟨c, rfl, ?_⟩
    rw [this] at h
    simpa using h.symm
  · cases h

theorem law22 : Keyed Yba.prog 22 := int_keyed Yba.underlying22

def key (i : Nat) : Lit := .int .u16 ((i + 1 : Nat) : Int)

theorem key_inj {i j : Nat} (h : key i = key j) : i = j := by
  unfold key at h
  injection h with _ h
  omega

theorem key_isKey (i : Nat) : WideAt.IsKeyLit (key i) := trivial

theorem keyOf_key (i : Nat) (h : i < 65535) : keyOf Yba.prog 22 (.int .u16 ((i + 1 : Nat) : Int)) = some (key i) := keyOf_int_mk Yba.underlying22 (by simp [Lit.wf, IntKind.min, IntKind.max, IntKind.bits, IntKind.signed]; omega)

/-- The map holds val i at key i + 1, for i < n, and nothing else. -/
structure Filled (D : DataW Unit) (n : Nat) (val : Nat → Int) : Prop where
  only : ∀ kl, Maps.has D kl = true → ∃ i, i < n ∧ kl = key i
  atk : ∀ i, i < n → ∀ zd, D.atKey (key i) zd = .lit (.int .i64 (val i))
  has : ∀ i, i < n → Maps.has D (key i) = true
  size : Maps.size D = n
  tidy : Tidy D
  isMap : IsMap D

theorem Filled.step {D : DataW Unit} {n : Nat} {val : Nat → Int} (h : Filled D n val) (ht : Tidy (D.put (key n) (.lit (.int .i64 (val n))))) (hm : IsMap (D.put (key n) (.lit (.int .i64 (val n))))) :
    Filled (D.put (key n) (.lit (.int .i64 (val n)))) (n + 1) val where
  only := fun kl hk => by
    by_cases e : kl = key n
    · exact ⟨n, by omega, e⟩
    · rw [has_put_other e] at hk
      obtain ⟨i, hi, rfl⟩ := h.only kl hk
      exact ⟨i, by omega, rfl⟩
  atk := fun i hi zd => by
    by_cases e : i = n
    · subst e
      exact atKey_put_same h.isMap (key_isKey _) _ _
    · rw [atKey_put_other (fun e' => e (key_inj e'))]
      exact h.atk i (by omega) zd
  has := fun i hi => by
    by_cases e : i = n
    · subst e
      exact has_put_same h.isMap (key_isKey _) _
    · rw [has_put_other (fun e' => e (key_inj e'))]
      exact h.has i (by omega)
  size := by
    have hn : Maps.has D (key n) = false := by
      cases hh : Maps.has D (key n) with
      | false => rfl
      | true =>
        obtain ⟨i, hi, e⟩ := h.only _ hh
        have := key_inj e
        omega
    rw [size_put h.tidy, hn, h.size]
    simp
  tidy := ht
  isMap := hm

/-- xs: the values met; the others are still to come. -/
structure Got (n : Nat) (val : Nat → Int) (left : Lit → Bool) (xs : List Int) : Prop where
  perm : (xs ++ ((List.range n).filter fun i => left (key i)).map val).Perm ((List.range n).map val)
  only : ∀ kl, left kl = true → ∃ i, i < n ∧ kl = key i

theorem Got.start {D : DataW Unit} {n : Nat} {val : Nat → Int} (h : Filled D n val) : Got n val (Maps.has D) [] where
  perm := by
    have e : ((List.range n).filter fun i => Maps.has D (key i)) = List.range n := by
      rw [List.filter_eq_self]
      intro i hi
      exact h.has i (List.mem_range.1 hi)
    rw [e]
    exact List.Perm.refl _
  only := h.only

theorem Got.step {n : Nat} {val : Nat → Int} {left : Lit → Bool} {xs : List Int} (h : Got n val left xs) (i : Nat) (hl : left (key i) = true) : Got n val (fun z => left z && !z.sameKey (key i)) (xs ++ [val i]) where
  perm := by
    have hi : i < n := by
      obtain ⟨j, hj, e⟩ := h.only _ hl
      rw [key_inj e]; exact hj
    refine List.Perm.trans ?_ h.perm
    have hnd : ((List.range n).filter fun j => left (key j)).Nodup := List.Pairwise.filter _ List.nodup_range
    have hmem : i ∈ (List.range n).filter fun j => left (key j) := List.mem_filter.2 ⟨List.mem_range.2 hi, hl⟩
    have e : ((List.range n).filter fun j => left (key j) && !(key j).sameKey (key i)) = ((List.range n).filter fun j => left (key j)).erase i := by
      rw [List.Nodup.erase_eq_filter hnd, List.filter_filter]
      apply List.filter_congr
      intro j hj
      by_cases e : j = i
      · subst e
        rw [WideAt.sameKey_self (key_isKey _)]; simp
      · rw [sameKey_ne (fun e' => e (key_inj e'))]; simp [e]
    rw [e, List.append_assoc]
    refine List.Perm.append_left _ ?_
    exact ((List.perm_cons_erase hmem).symm.map val)
  only := fun kl hk => h.only kl (by
    cases h' : left kl with
    | true => rfl
    | false => simp [h'] at hk)

theorem Got.done {n : Nat} {val : Nat → Int} {left : Lit → Bool} {xs : List Int} (h : Got n val left xs) (hl : ∀ kl, left kl = false) : xs.Perm ((List.range n).map val) := by
  have e : ((List.range n).filter fun i => left (key i)) = [] := by
    rw [List.filter_eq_nil_iff]
    intro i _
    rw [hl]; simp
  have := h.perm
  rw [e] at this
  simpa using this

theorem Got.length {n : Nat} {val : Nat → Int} {left : Lit → Bool} {xs : List Int} (h : Got n val left xs) : xs.length ≤ n := by
  have := h.perm.length_eq
  simp at this
  omega

theorem Got.lt {n : Nat} {val : Nat → Int} {left : Lit → Bool} {xs : List Int} (h : Got n val left xs) (i : Nat) (hl : left (key i) = true) : xs.length < n := by
  have := (h.step i hl).length
  simp at this
  omega

/-- The cells of a row of times. -/
def rowCells : List Int → List Value
  | [] => []
  | c :: r => .int .u64 (wallOf c) :: .int .i64 (extOf c) :: .pointer none :: rowCells r

theorem rowCells_append (xs : List Int) (c : Int) : rowCells xs ++ [.int .u64 (wallOf c), .int .i64 (extOf c), .pointer none] = rowCells (xs ++ [c]) := by
  induction xs with
  | nil => rfl
  | cons a r ih => simp [rowCells, ih]

theorem rowCells_get : ∀ (xs : List Int) (i : Nat) (h : i < xs.length), (rowCells xs)[i * 3]? = some (.int .u64 (wallOf xs[i])) ∧ (rowCells xs)[i * 3 + 1]? = some (.int .i64 (extOf xs[i])) ∧ (rowCells xs)[i * 3 + 2]? = some (.pointer none)
  | c :: r, 0, h => ⟨rfl, rfl, rfl⟩
  | c :: r, i + 1, h => by
    have := rowCells_get r i (by simpa using h)
    refine ⟨?_, ?_, ?_⟩
    · rw [show (i + 1) * 3 = i * 3 + 1 + 1 + 1 by omega]; exact this.1
    · rw [show (i + 1) * 3 + 1 = i * 3 + 1 + 1 + 1 + 1 by omega]; exact this.2.1
    · rw [show (i + 1) * 3 + 2 = i * 3 + 2 + 1 + 1 + 1 by omega]; exact this.2.2

theorem Row.of_owns {w : World} {base g cap : Nat} {xs : List Int} (h : w.ownsRow base 32 3 (.slice (some ⟨g, 0, none⟩) xs.length cap) xs.length (rowCells xs)) : Row w g xs.toArray := by
  obtain ⟨hl, ⟨e, _⟩ | ⟨g', cap', cur, e, hb, hg, h1, h2, h3, h4⟩⟩ := h
  · cases e
  have e1 : g = g' := by
    injection e with e _ _
    injection e with e
    injection e
  subst e1
  intro i hi
  have hi' : i < xs.length := by simpa using hi
  obtain ⟨a0, a1, a2⟩ := rowCells_get xs i hi'
  have hget : xs.toArray[i]! = xs[i] := by simp [hi']
  rw [hget]
  rw [← h4] at a0 a1 a2
  have take : ∀ k, k < xs.length * 3 → ∀ v, (cur.toList.take (xs.length * 3))[k]? = some v → w.cell? ⟨g, k, none⟩ = some v := by
    intro k hk v hv
    rw [List.getElem?_take, if_pos hk] at hv
    simp [World.cell?, hg]
    simpa using hv
  refine ⟨take _ (by omega) _ a0, take _ (by omega) _ a1, take _ (by omega) _ a2, ?_, ?_, ?_⟩ <;> simp [World.frozen?, hg]

theorem Yba.info32 : (Yba.prog.info? 32).map (fun i => (i.zero, i.size, i.bytes)) = some (some (.agg #[.int .u64 0, .int .i64 0, .pointer none]), 3, 24) := by kernel_rfl
theorem Yba.info55 : (Yba.prog.info? 55).map (fun i => (i.zero, i.size, i.bytes)) = some (some (.agg #[.int .u8 0, .int .u16 0, .int .u16 0, .int .u16 0, .int .u64 0, .int .i64 0]), 6, 24) := by kernel_rfl
end Go.Proofs.Ybulkpec
