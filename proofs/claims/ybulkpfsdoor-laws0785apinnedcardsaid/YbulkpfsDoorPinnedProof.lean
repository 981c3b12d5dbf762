/- LawS0785APinnedCardSaid, proved: the row, then the tied card. -/
import Derived.Test.YbulkpfsDoorRows
import Derived.Test.YbulkpfsDoorTie
import Derived.Test.YbulkpfsDoorCards
import Derived.Test.YbulkpfsDoorPinnedZ
import Derived.Test.YbulkpfsDoorPinnedO
import Derived.Test.YbulkpfsDoorPinnedI
import Derived.ProofKit
import Derived.LaidMore
import Derived.OpenShut
import Derived.Stop.Joined
import Derived.SevenTiedAt
set_option linter.unusedVariables false
namespace Go.Proofs.YbulkpfsDoor.lawS0785APinned
open Go.ChangeShapes Go.WideShapes Go.ChangeAt Go.RowKit

theorem own : ownKnob Ybad.prog.godebug = none := by kernel_rfl
theorem laidOut : laidOutB Ybad.prog = true := by kernel_rfl

/-- The door's own heap meets the condition. -/
theorem door_met (os : Os) (args : Array Value) : laidMetH Ybad.prog Rows.lawS0785APinnedRow.laid ((World.doorLaid Ybad.prog 14 os).forCall (fun _ _ => 0) ⟨#[], args, []⟩).memory :=
  laidMetH_of_parts3 (fuel := 8) (laidMet_of_run' 8 (by kernel_rfl) (by kernel_rfl)) (by kernel_rfl) (by kernel_rfl)

set_option maxHeartbeats 400000 in
theorem pinned_big (x0 : Option Addr) (n c0 : Nat) (ps al cl cs : Int) (kb : Bool) (w : World) (hl : 1024 < n) :
    Calls Ybad.prog 4 #[.slice x0 n c0, .int .u8 ps, .bool kb, .int .i8 al, .int .i8 cl, .int .u8 cs] w fun e w' => e = .returned (.bool true) ∧ Below w.heap.size w w' := by
  have hl1 : (1024 : Int) < (n : Int) := by omega
  go_enter Ybad.func4, Ybad.ntmps4
  go_wp2_with fail
  go_ret
  exact ⟨rfl, Below.refl _ _⟩

theorem pinned_any (x0 : Option Addr) (n c0 : Nat) (z : Nat → Int) (ps al cl cs : Int) (kb : Bool) (w : World) (hn : n ≤ 1024) (hps0 : 0 ≤ ps ∧ ps ≤ 255) (hal : -128 ≤ al ∧ al ≤ 127) (hcl : -128 ≤ cl ∧ cl ≤ 127) (hcs : 0 ≤ cs ∧ cs ≤ 255)
    (hz : ∀ i, -2147483648 ≤ z i ∧ z i ≤ 2147483647)
    (h0 : ∀ i, i < n → ∃ b0 o0, x0 = some ⟨b0, o0, none⟩ ∧ b0 < w.heap.size ∧ w.cell? ⟨b0, o0 + i, none⟩ = some (.int .i32 (z i))) :
    Calls Ybad.prog 4 #[.slice x0 n c0, .int .u8 ps, .bool kb, .int .i8 al, .int .i8 cl, .int .u8 cs] w fun e w' => e = .returned (.bool true) ∧ Below w.heap.size w w' := by
  obtain ⟨p, hp, hpn⟩ : ∃ p : Nat, ps % ((n : Int) + 1) = (p : Int) ∧ p ≤ n := by
    have l1 := Int.emod_nonneg ps (show ((n : Int) + 1) ≠ 0 by omega)
    have l2 := Int.emod_lt_of_pos ps (show (0 : Int) < (n : Int) + 1 by omega)
    exact ⟨(ps % ((n : Int) + 1)).toNat, by omega, by omega⟩
  cases kb
  · exact pinned_false x0 n c0 z ps al cl cs w hn p hp hps0 hal hcl hcs hpn hz h0
  · obtain ⟨v, hv, hvb⟩ : ∃ v, stK z n p = .int .i32 v ∧ -2147483648 ≤ v ∧ v ≤ 2147483647 := by
      unfold stK
      by_cases h : p < n
      · rw [if_pos h]; exact ⟨_, rfl, hz p⟩
      · rw [if_neg h]; exact ⟨0, rfl, by omega⟩
    by_cases hv0 : v = 0
    · subst hv0
      exact pinned_zero x0 n c0 z ps al cl cs w hn p hp hps0 hal hcl hcs hv hpn hz h0
    · by_cases hlow : al + v - 1 < cl
      · exact pinned_low x0 n c0 z ps al cl cs w hn p hp hps0 hal hcl hcs v hv hvb hv0 hlow hpn hz h0
      · by_cases hhigh : cl + cs < al + v - 1
        · exact pinned_high x0 n c0 z ps al cl cs w hn p hp hps0 hal hcl hcs v hv hvb hv0 hlow hhigh hpn hz h0
        · exact pinned_in x0 n c0 z ps al cl cs w hn p hp hps0 hal hcl hcs v hv hvb hv0 hlow hhigh hpn hz h0

set_option maxRecDepth 100000 in
theorem lifted (os : Os) (started : os.Started) (H : Type) (enc : TypeId × Value → H) :
    ReturnsInHanded {} Ybad.checked os 4 .any (fun w args => (Rows.lawS0785APinnedSpec.pre enc Ybad.prog Ybad.f4 [] false w args ∧ laidMetH Ybad.prog Rows.lawS0785APinnedRow.laid w) ∧ sizedMet enc Ybad.prog Ybad.f4 (OpenSpec.ofChange Rows.lawS0785APinnedSpec) false w args)
      (Rows.lawS0785APinnedSpec.post enc Ybad.prog Ybad.f4 false true false false) := by
  refine returnsInHanded_of_change_and (C := Ybad.checked) (X := fun w _ => laidMetH Ybad.prog Rows.lawS0785APinnedRow.laid w) (fun _ _ _ hh h => h.of_heap hh) own started (by kernel_rfl) Ybad.func4
    (ChangeSpec.witness_shaped (enc := enc) (C := Ybad.checked) (os := os) (X := fun w _ => laidMetH Ybad.prog Rows.lawS0785APinnedRow.laid w) false (World.doorLaid Ybad.prog 14 os) #[.slice none 0 0, .int .u8 0, .bool false, .int .i8 0, .int .i8 0, .int .u8 0] 8 rfl (World.shaped_of_RefB (by kernel_rfl) (by kernel_rfl)) (by kernel_rfl) (by kernel_rfl) (by kernel_rfl) (door_met os _)) ?_
  intro W base args ds gs before hval0 hW _ _ hL _
  have hval : ∀ (j : Nat) t v, Ybad.f4.params[j]? = some t → args[j]? = some v → Value.okWide Ybad.prog W .any base t v := hval0
  have hW' := hW
  obtain ⟨p, q, hA0, hV, rfl, hfz, hnd⟩ := hW
  have hA : DataW.TrodAll enc Ybad.prog W 0 (fun _ => true) true Ybad.f4.params.toList args.toList ds p := hA0
  rw [Ybad.params4] at hA hval
  obtain ⟨v0, vs0, d0, ds0, p0, q0, hargs, rfl, rfl, h0, r0⟩ := trodAll_cons hA
  obtain ⟨v1, vs1, d1, ds1, p1, q1, rfl, rfl, rfl, h1, r1⟩ := trodAll_cons r0
  obtain ⟨v2, vs2, d2, ds2, p2, q2, rfl, rfl, rfl, h2, r2⟩ := trodAll_cons r1
  obtain ⟨v3, vs3, d3, ds3, p3, q3, rfl, rfl, rfl, h3, r3⟩ := trodAll_cons r2
  obtain ⟨v4, vs4, d4, ds4, p4, q4, rfl, rfl, rfl, h4, r4⟩ := trodAll_cons r3
  obtain ⟨v5, vs5, d5, ds5, p5, q5, rfl, rfl, rfl, h5, r5⟩ := trodAll_cons r4
  obtain ⟨rfl, rfl, rfl⟩ := trodAll_nil r5
  obtain rfl : args = #[v0, v1, v2, v3, v4, v5] := by cases args; simp_all
  obtain ⟨rfl, rfl⟩ := trodVars_none hV
  have k0 := h0; have k1 := h1; have k2 := h2; have k3 := h3; have k4 := h4; have k5 := h5
  have lt0 : ∀ x ∈ p0, x.block < W.heap.size := by obtain ⟨m, hm⟩ := k0; exact DataW.trod_lt m _ _ _ hm
  have lt1 : ∀ x ∈ p1, x.block < W.heap.size := by obtain ⟨m, hm⟩ := k1; exact DataW.trod_lt m _ _ _ hm
  have lt2 : ∀ x ∈ p2, x.block < W.heap.size := by obtain ⟨m, hm⟩ := k2; exact DataW.trod_lt m _ _ _ hm
  have lt3 : ∀ x ∈ p3, x.block < W.heap.size := by obtain ⟨m, hm⟩ := k3; exact DataW.trod_lt m _ _ _ hm
  have lt4 : ∀ x ∈ p4, x.block < W.heap.size := by obtain ⟨m, hm⟩ := k4; exact DataW.trod_lt m _ _ _ hm
  have lt5 : ∀ x ∈ p5, x.block < W.heap.size := by obtain ⟨m, hm⟩ := k5; exact DataW.trod_lt m _ _ _ hm
  obtain ⟨a0, len0, cap0, rfl⟩ := okWide_slice Ybad.underlying45 (hval 0 45 v0 rfl rfl)
  have hrow : ∃ z : Nat → Int, (∀ i, -2147483648 ≤ z i ∧ z i ≤ 2147483647) ∧ ∀ i, i < len0 → ∃ b0 o0, a0 = some ⟨b0, o0, none⟩ ∧ b0 < W.heap.size ∧ W.cell? ⟨b0, o0 + i, none⟩ = some (.int .i32 (z i)) := by
    obtain ⟨fuel, hf⟩ := h0
    rcases open_ints Ybad.underlying45 Ybad.underlying21 (by kernel_rfl) hf with ⟨hcs, _⟩ | ⟨x, l, c, zs, hcs, _, hl, hm, hz, _, hcell, hwz⟩
    · simp [Value.cells] at hcs
      exact ⟨fun _ => 0, fun _ => by simp, fun i hi => by omega⟩
    · simp [Value.cells] at hcs
      obtain ⟨rfl, rfl, rfl⟩ := hcs
      have hz' : zs.length = cap0 := by simpa using hz
      refine ⟨fun i => zs.getD i 0, fun i => ?_, fun i hi => ?_⟩
      · by_cases hi : i < zs.length
        · have hmem : zs.getD i 0 ∈ zs := by simp [hi]
          exact bounds_i32 (hwz _ hmem)
        · simp [hi]
      · obtain ⟨b, off, rfl, hc⟩ := ints_at hcell (by omega)
        exact ⟨b, off, rfl, World.block_lt_of_cell? W _ (hc i (by omega)), hc i (by omega)⟩
  obtain ⟨z, hz, hrow⟩ := hrow
  obtain ⟨ps, rfl, _, _, w1⟩ := open_int Ybad.underlying5 (hval 1 5 v1 rfl rfl) h1
  obtain ⟨kb, rfl, _, _⟩ := open_bool Ybad.underlying4 (hval 2 4 v2 rfl rfl) h2
  obtain ⟨al, rfl, _, _, w3⟩ := open_int Ybad.underlying46 (hval 3 46 v3 rfl rfl) h3
  obtain ⟨cl, rfl, _, _, w4⟩ := open_int Ybad.underlying46 (hval 4 46 v4 rfl rfl) h4
  obtain ⟨cs, rfl, _, _, w5⟩ := open_int Ybad.underlying5 (hval 5 5 v5 rfl rfl) h5
  have g1 := bounds_u8 w1; have g3 := bounds_i8 w3; have g4 := bounds_i8 w4; have g5 := bounds_u8 w5
  clear hA0 hval0
  have hwalk : Calls Ybad.prog 4 #[.slice a0 len0 cap0, .int .u8 ps, .bool kb, .int .i8 al, .int .i8 cl, .int .u8 cs] W fun e w' => e = .returned (.bool true) ∧ Below W.heap.size W w' := by
    by_cases hbig : 1024 < len0
    · exact pinned_big a0 len0 cap0 ps al cl cs kb W hbig
    · exact pinned_any a0 len0 cap0 z ps al cl cs kb W (by omega) g1 g3 g4 g5 hz hrow
  refine hwalk.mono fun e W' ⟨he, bel⟩ => ?_
  subst he
  exact ⟨_, rfl, _, _, _, [], _, [], hW', trodAll_mk1 (shut_bool Ybad.underlying4 _), (trodAll_cons_mk (Below.trod laidOut (by kernel_rfl) (of_decide_eq_true (by kernel_rfl)) k0 bel lt0) (trodAll_cons_mk (Below.trod laidOut (by kernel_rfl) (of_decide_eq_true (by kernel_rfl)) k1 bel lt1) (trodAll_cons_mk (Below.trod laidOut (by kernel_rfl) (of_decide_eq_true (by kernel_rfl)) k2 bel lt2) (trodAll_cons_mk (Below.trod laidOut (by kernel_rfl) (of_decide_eq_true (by kernel_rfl)) k3 bel lt3) (trodAll_cons_mk (Below.trod laidOut (by kernel_rfl) (of_decide_eq_true (by kernel_rfl)) k4 bel lt4) (trodAll_cons_mk (Below.trod laidOut (by kernel_rfl) (of_decide_eq_true (by kernel_rfl)) k5 bel lt5) trodAll_mk0)))))), rfl, bel.frame _, fun h => by cases h⟩

theorem over : Rows.LawS0785APinnedSaid :=
  OpenClaim.holds_of_wide 4 Ybad.f4 rfl rfl rfl rfl rfl rfl rfl ⟨rfl, rfl, rfl, rfl, rfl⟩ rfl rfl rfl rfl rfl (by kernel_rfl) Ybad.func4 (by kernel_rfl)
    (of_decide_eq_true (by kernel_rfl)) (by unfold Func.isWrapper; first | (rw [if_pos (by decide +kernel)]; kernel_rfl) | (rw [if_neg (by decide +kernel)]; exact ⟨rfl, rfl⟩))
    (fun os started H enc _ => lifted os started H enc)

theorem proved : Rows.LawS0785APinnedCardSaid :=
  Claim7.holds_tied_plain_at .later [] [.data] true Rows.lawS0785APinnedCard.stood.harness false
    over (fun _ h => by cases h) (by kernel_rfl) (fun _ h => by cases h) lawS0785APinned_row_tie rfl ⟨rfl, rfl⟩ (by kernel_rfl) rfl
    (fun f fn hf hfn => by
      obtain rfl : f = 4 := Option.some.inj ((show Ybad.prog.funcNamed Rows.lawS0785APinnedRow.func = some 4 by kernel_rfl).symm.trans hf) |>.symm
      obtain rfl : fn = Ybad.f4 := (Option.some.inj (Ybad.func4.symm.trans hfn)).symm
      exact ⟨by kernel_rfl, fun j t ht => by
        rw [Ybad.params4] at ht
        have hm : t ∈ [45, 5, 4, 46] := by
          have := Array.mem_of_getElem? ht
          simp at this
          simp
          rcases this with rfl | rfl | rfl | rfl | rfl | rfl <;> simp
        have hall : ([45, 5, 4, 46].all fun u => !Ybad.prog.wantsStandIn u) = true := by kernel_rfl
        exact (show Ybad.prog.wantsStandIn t = false by simpa using List.all_eq_true.1 hall t hm)⟩)
    (by kernel_rfl)
#print axioms proved
end Go.Proofs.YbulkpfsDoor.lawS0785APinned
