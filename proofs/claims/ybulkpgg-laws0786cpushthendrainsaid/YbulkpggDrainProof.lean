/- LawS0786CPushThenDrainSaid, proved. -/
import Derived.Test.YbulkpggRows
import Derived.Test.YbulkpggDrain
import Derived.Deep.Slices
import Derived.ProofKit
import Derived.OpenShut
import Derived.ChangeOld
import Derived.Below
namespace Go.Proofs.Ybulkpgg.lawS0786CPushThenDrain
open Go.ChangeShapes Go.WideShapes Go.ChangeAt Go.RowKit

theorem own : ownKnob Yba.prog.godebug = none := by kernel_rfl
theorem laidOut : laidOutB Yba.prog = true := by kernel_rfl

theorem cells4 : Yba.prog.cellsOf 4 = 1 := by kernel_rfl

theorem open_bools {H : Type} {enc : TypeId × Value → H} {w : World} {spare : Nat → Bool} {held : Bool} {fuel : Nat} {x : Option Addr} {len cap : Nat} {y : DataW H × List MemPlace}
    (h : DataW.trod enc Yba.prog w 0 spare held fuel 61 [.slice x len cap] = some y) : ∀ i, i < len → ∃ b0 o0 z, x = some ⟨b0, o0, none⟩ ∧ b0 < w.heap.size ∧ w.cell? ⟨b0, o0 + i, none⟩ = some (.bool z) := by
  rcases Go.Deep.open_slice Yba.underlying61 h with ⟨h0, _⟩ | ⟨a, len', cap', m, n, D, Pl, h1, hb, hl, hm, hmm, _, hx⟩
  · simp at h0
    intro i hi; omega
  · simp at h1
    obtain ⟨rfl, rfl, rfl⟩ := h1
    have hlm : len ≤ m := by rw [hmm]; split <;> omega
    intro i hi
    obtain ⟨cs', g1, g2⟩ := hx i (by omega)
    rw [cells4] at g1
    obtain ⟨_, hlen, hcell⟩ := World.cells?_some g1
    match cs', hlen with
    | [v0], _ =>
      have e0 := hcell 0 (by omega)
      rw [Go.Deep.add_add] at e0
      obtain ⟨z, q0, _⟩ := DataW.trod_bool Yba.underlying4 g2
      simp at q0
      subst q0
      simp at e0
      obtain ⟨b, off, spot⟩ := a
      have hspot : spot = none := by
        obtain ⟨cs0, k1, _⟩ := hx 0 (by omega)
        rw [cells4] at k1
        obtain ⟨_, _, hcell0⟩ := World.cells?_some k1
        have e1 := hcell0 0 (by omega)
        rw [Go.Deep.add_add] at e1
        obtain ⟨v, hv⟩ : ∃ v, w.cell? (Addr.add ⟨b, off, spot⟩ 0) = some v := by
          cases cs0 with
          | nil => simp at hcell0; simp_all
          | cons v _ => exact ⟨v, by simpa using e1⟩
        simpa [Addr.add] using World.cell?_spot hv
      subst hspot
      rw [add_plain] at e0
      exact ⟨b, off, z, rfl, World.block_lt_of_cell? w _ e0, e0⟩

set_option maxRecDepth 100000 in
theorem lifted (os : Os) (started : os.Started) (H : Type) (enc : TypeId × Value → H) :
    ReturnsInHanded {} Yba.checked os 6 .any (Rows.lawS0786CPushThenDrainSpec.pre6 enc Yba.prog Yba.f6 Rows.lawS0786CPushThenDrainRow.domain false) (Rows.lawS0786CPushThenDrainSpec.post enc Yba.prog Yba.f6 false true false false) := by
  refine returnsInHanded_of_change (C := Yba.checked) own started (by kernel_rfl) Yba.func6
    (ChangeSpec.witness6 (enc := enc) (C := Yba.checked) false ⟨#[], #[.slice none 0 0], []⟩ 8 (by kernel_rfl) (by kernel_rfl) (by kernel_rfl) (by kernel_rfl)) ?_
  intro W base args ds gs before hval0 hW hcnd _
  have hval : ∀ (j : Nat) t v, Yba.f6.params[j]? = some t → args[j]? = some v → Value.okWide Yba.prog W .any base t v := hval0
  have hW' := hW
  obtain ⟨p, q, hA0, hV, rfl, hfz, hnd⟩ := hW
  have hA : DataW.TrodAll enc Yba.prog W 0 (fun _ => true) true Yba.f6.params.toList args.toList ds p := hA0
  rw [Yba.params6] at hA hval
  obtain ⟨v0, vs0, d0, ds0, p0, q0, hargs, rfl, rfl, h0, r0⟩ := trodAll_cons hA
  obtain ⟨rfl, rfl, rfl⟩ := trodAll_nil r0
  obtain rfl : args = #[v0] := by cases args; simp_all
  obtain ⟨rfl, rfl⟩ := trodVars_none hV
  obtain ⟨a0, len0, cap0, rfl⟩ := okWide_slice Yba.underlying61 (hval 0 61 v0 rfl rfl)
  have k0 := h0
  have lt0 : ∀ x ∈ p0, x.block < W.heap.size := by obtain ⟨m, hm⟩ := k0; exact DataW.trod_lt m _ _ _ hm
  have hS : ∀ i, i < len0 → ∃ b0 o0 z, a0 = some ⟨b0, o0, none⟩ ∧ b0 < W.heap.size ∧ W.cell? ⟨b0, o0 + i, none⟩ = some (.bool z) := by
    obtain ⟨fuel, hf⟩ := h0
    exact open_bools hf
  clear hA0 hval0
  have hwalk : Calls Yba.prog 6 #[.slice a0 len0 cap0] W fun e w' => e = .returned (.bool true) ∧ Below W.heap.size W w' := by
    by_cases hl : 1024 < len0
    · exact drain_big a0 len0 cap0 W hl
    · exact drain_walk a0 len0 cap0 W (by omega) hS
  refine hwalk.mono fun e W' ⟨he, bel⟩ => ?_
  subst he
  exact ⟨_, rfl, _, _, _, [], _, [], hW', trodAll_mk1 (shut_bool Yba.underlying4 _), (trodAll_cons_mk (Below.trod laidOut (by kernel_rfl) (of_decide_eq_true (by kernel_rfl)) k0 bel lt0) trodAll_mk0), rfl, bel.frame _, fun h => by cases h⟩

theorem over : Rows.lawS0786CPushThenDrainRow.holds Yba.pinned (OpenSpec.ofChange Rows.lawS0786CPushThenDrainSpec) :=
  OpenClaim.holds_of_wide 6 Yba.f6 rfl rfl rfl rfl rfl rfl rfl ⟨rfl, rfl, rfl, rfl, rfl⟩ rfl rfl rfl rfl rfl (by kernel_rfl) Yba.func6 (by kernel_rfl)
    (of_decide_eq_true (by kernel_rfl)) (by unfold Func.isWrapper; first | (rw [if_pos (by decide +kernel)]; kernel_rfl) | (rw [if_neg (by decide +kernel)]; exact ⟨rfl, rfl⟩))
    (fun os started H enc _ => lifted os started H enc)

theorem proved : Rows.LawS0786CPushThenDrainSaid := over
#print axioms proved
end Go.Proofs.Ybulkpgg.lawS0786CPushThenDrain
