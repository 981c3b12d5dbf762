/- Plain: a falling row is one; what was collected. -/
import Derived.Test.YbulkpecSort11
set_option linter.unusedVariables false
namespace Go.Proofs.Ybulkpec
open Go.Sort

theorem perm_falling_eq : ∀ (l l' : List Int), l.Perm l' → l.Pairwise (fun a b => b ≤ a) → l'.Pairwise (fun a b => b ≤ a) → l = l'
  | [], l', h, _, _ => (List.Perm.nil_eq h)
  | a :: r, [], h, _, _ => by simpa using h.length_eq
  | a :: r, b :: s, h, h1, h2 => by
    obtain ⟨a1, a2⟩ := List.pairwise_cons.1 h1
    obtain ⟨b1, b2⟩ := List.pairwise_cons.1 h2
    have e : a = b := by
      have ha : a ∈ b :: s := h.mem_iff.1 (List.mem_cons_self)
      have hb : b ∈ a :: r := h.mem_iff.2 (List.mem_cons_self)
      rcases List.mem_cons.1 ha with e | ha
      · exact e
      · rcases List.mem_cons.1 hb with e | hb
        · exact e.symm
        · have := a1 b hb
          have := b1 a ha
          omega
    subst e
    rw [perm_falling_eq r s (List.Perm.cons_inv h) a2 b2]

/-- The sort's own words on a whole row. -/
theorem falling_of_sorted (d : Array Int) (N : Nat) (hd : d.size = N) (h : SortedIn gt 0 N d) : d.toList.Pairwise (fun a b => b ≤ a) := by
  rw [List.pairwise_iff_getElem]
  intro i j hi hj hij
  have hi' : i < d.size := by simpa using hi
  have hj' : j < d.size := by simpa using hj
  have := h i j (Nat.zero_le _) hij (by omega)
  have e1 : d[i]! = d[i] := getElem!_pos d i hi'
  have e2 : d[j]! = d[j] := getElem!_pos d j hj'
  rw [e1, e2] at this
  simp only [gt, decide_eq_false_iff_not] at this
  simp only [Array.getElem_toList]
  omega
end Go.Proofs.Ybulkpec
