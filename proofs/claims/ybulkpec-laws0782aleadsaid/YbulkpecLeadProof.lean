/- LawS0782ALeadSaid, proved. -/
import Derived.Test.YbulkpecRows
import Derived.Test.YbulkpecLaw
import Derived.Test.YbulkpecBig
import Derived.Deep.Slices
import Derived.ProofKit
import Derived.OpenShut
import Derived.ChangeOld
import Derived.Below
namespace Go.Proofs.Ybulkpec.lawS0782ALead
open Go.ChangeShapes Go.WideShapes Go.ChangeAt Go.RowKit
set_option linter.unusedVariables false

theorem own : ownKnob Yba.prog.godebug = none := by kernel_rfl
theorem laidOut : laidOutB Yba.prog = true := by kernel_rfl
theorem cells27 : Yba.prog.cellsOf 27 = 10 := by kernel_rfl
theorem cells22 : Yba.prog.cellsOf 22 = 1 := by kernel_rfl
theorem cells23 : Yba.prog.cellsOf 23 = 1 := by kernel_rfl
theorem cells24 : Yba.prog.cellsOf 24 = 1 := by kernel_rfl
theorem cells25 : Yba.prog.cellsOf 25 = 1 := by kernel_rfl
theorem cells2 : Yba.prog.cellsOf 2 = 1 := by kernel_rfl
theorem cells4 : Yba.prog.cellsOf 4 = 1 := by kernel_rfl

/-- A slice of integers that came in. -/
theorem open_src {H : Type} {enc : TypeId × Value → H} {w : World} {spare : Nat → Bool} {held : Bool} {fuel : Nat} {t e : TypeId} {k : IntKind} {v : Value} {y : DataW H × List MemPlace} (ht : Yba.prog.underlying t = some (.slice e)) (he : Yba.prog.underlying e = some (.int k)) (hc : Yba.prog.cellsOf e = 1)
    (h : DataW.trod enc Yba.prog w 0 spare held fuel t [v] = some y) : ∃ a n c, ∃ g : Nat → Int, v = .slice a n c ∧ n ≤ c ∧ c ≤ maxLen ∧ Src w a n fun i => .int k (g i) := by
  rcases open_ints ht he hc h with ⟨hcs, _⟩ | ⟨x, l, c, zs, hcs, _, hl, hm, hz, _, hcell, _⟩
  · simp at hcs
    exact ⟨none, 0, 0, fun _ => 0, hcs, Nat.le_refl _, Nat.zero_le _, .inl rfl⟩
  · simp at hcs
    by_cases h0 : l = 0
    · exact ⟨some x, l, c, fun _ => 0, hcs, hl, hm, .inl h0⟩
    · have hll : l ≤ zs.length := by rw [hz]; split <;> omega
      obtain ⟨b, off, rfl, hc⟩ := ints_at hcell (by omega)
      exact ⟨_, l, c, fun i => zs.getD i 0, hcs, hl, hm, .inr ⟨b, off, rfl, World.block_lt_of_cell? w _ (hc 0 (by omega)), fun i hi => hc i (by omega)⟩⟩

set_option maxRecDepth 100000 in
/-- The argument. -/
theorem open_arg {H : Type} {enc : TypeId × Value → H} {w : World} {spare : Nat → Bool} {held : Bool} {fuel : Nat} {cs : List Value} {y : DataW H × List MemPlace} (h : DataW.trod enc Yba.prog w 0 spare held fuel 27 cs = some y) :
    ∃ (id : Int) (am : Option Addr) (M Mc : Nat) (ao : Option Addr) (N Nc : Nat) (term nowO campO leaseO hbO ltO : Int) (pv : Bool) (mem off : Nat → Int),
      cs = [.int .u16 id, .slice am M Mc, .slice ao N Nc, .int .u64 term, .int .i64 nowO, .int .i64 campO, .int .i64 leaseO, .int .i64 hbO, .int .i64 ltO, .bool pv] ∧ (Lit.int .u16 id).wf = true ∧ M ≤ Mc ∧ Mc ≤ maxLen ∧
      (Src w am M fun i => .int .u16 (mem i)) ∧ (Src w ao N fun i => .int .i64 (off i)) := by
  obtain ⟨xs, n, _, _, hl, hxl, hf⟩ := DataW.trod_struct Yba.underlying27 h
  rw [cells27] at hl
  match cs, hl with
  | [c0, c1, c2, c3, c4, c5, c6, c7, c8, c9], _ =>
    have t0 := hf 0 _ rfl
    have t1 := hf 1 _ rfl
    have t2 := hf 2 _ rfl
    have t3 := hf 3 _ rfl
    have t4 := hf 4 _ rfl
    have t5 := hf 5 _ rfl
    have t6 := hf 6 _ rfl
    have t7 := hf 7 _ rfl
    have t8 := hf 8 _ rfl
    have t9 := hf 9 _ rfl
    match xs, hxl with
    | [y0, y1, y2, y3, y4, y5, y6, y7, y8, y9], _ =>
      simp [cells22, cells23, cells24, cells25, cells2, cells4] at t0 t1 t2 t3 t4 t5 t6 t7 t8 t9
      obtain ⟨id, e0, _, wid⟩ := DataW.trod_int Yba.underlying22 t0
      obtain ⟨am, M, Mc, mem, e1, hMc, hMm, hms⟩ := open_src Yba.underlying23 Yba.underlying22 cells22 t1
      obtain ⟨ao, N, Nc, off, e2, _, _, hos⟩ := open_src Yba.underlying24 Yba.underlying2 cells2 t2
      obtain ⟨term, e3, _, _⟩ := DataW.trod_int Yba.underlying25 t3
      obtain ⟨a4, e4, _, _⟩ := DataW.trod_int Yba.underlying2 t4
      obtain ⟨a5, e5, _, _⟩ := DataW.trod_int Yba.underlying2 t5
      obtain ⟨a6, e6, _, _⟩ := DataW.trod_int Yba.underlying2 t6
      obtain ⟨a7, e7, _, _⟩ := DataW.trod_int Yba.underlying2 t7
      obtain ⟨a8, e8, _, _⟩ := DataW.trod_int Yba.underlying2 t8
      obtain ⟨a9, e9, _⟩ := DataW.trod_bool Yba.underlying4 t9
      simp at e0 e3 e4 e5 e6 e7 e8 e9
      subst e0 e1 e2 e3 e4 e5 e6 e7 e8 e9
      exact ⟨id, am, M, Mc, ao, N, Nc, term, a4, a5, a6, a7, a8, a9, mem, off, rfl, wid, hMc, hMm, hms, hos⟩

set_option maxRecDepth 100000 in
theorem lifted (os : Os) (started : os.Started) (H : Type) (enc : TypeId × Value → H) :
    ReturnsInHanded {} Yba.checked os 3 .any (Rows.lawS0782ALeadSpec.pre6 enc Yba.prog Yba.f3 Rows.lawS0782ALeadRow.domain false) (Rows.lawS0782ALeadSpec.post enc Yba.prog Yba.f3 false true false false) := by
  refine returnsInHanded_of_change (C := Yba.checked) own started (by kernel_rfl) Yba.func3
    (ChangeSpec.witness6 (enc := enc) (C := Yba.checked) false ⟨#[], #[.agg #[.int .u16 0, .slice none 0 0, .slice none 0 0, .int .u64 0, .int .i64 0, .int .i64 0, .int .i64 0, .int .i64 0, .int .i64 0, .bool false]], []⟩ 8 (by kernel_rfl) (by kernel_rfl) (by kernel_rfl) (by kernel_rfl)) ?_
  intro W base args ds gs before hval0 hW hcnd _
  have hval : ∀ (j : Nat) t v, Yba.f3.params[j]? = some t → args[j]? = some v → Value.okWide Yba.prog W .any base t v := hval0
  have hW' := hW
  obtain ⟨p, q, hA0, hV, rfl, hfz, hnd⟩ := hW
  have hA : DataW.TrodAll enc Yba.prog W 0 (fun _ => true) true Yba.f3.params.toList args.toList ds p := hA0
  rw [Yba.params3] at hA hval
  obtain ⟨v0, vs0, d0, ds0, p0, q0, hargs, rfl, rfl, h0, r0⟩ := trodAll_cons hA
  obtain ⟨rfl, rfl, rfl⟩ := trodAll_nil r0
  obtain rfl : args = #[v0] := by cases args; simp_all
  obtain ⟨rfl, rfl⟩ := trodVars_none hV
  obtain ⟨cs, rfl, hsz⟩ := okWide_struct Yba.underlying27 (hval 0 27 v0 rfl rfl)
  have k0 := h0
  have lt0 : ∀ x ∈ p0, x.block < W.heap.size := by obtain ⟨m, hm⟩ := k0; exact DataW.trod_lt m _ _ _ hm
  clear hA0 hval0
  have hwalk : Calls Yba.prog 3 #[.agg cs] W fun e w' => e = .returned (.bool true) ∧ Below W.heap.size W w' := by
    obtain ⟨fuel, hf⟩ := h0
    obtain ⟨id, am, M, Mc, ao, N, Nc, term, nowO, campO, leaseO, hbO, ltO, pv, mem, off, hcs, wid, hMc, hMm, hms, hos⟩ := open_arg hf
    obtain rfl : cs = #[.int .u16 id, .slice am M Mc, .slice ao N Nc, .int .u64 term, .int .i64 nowO, .int .i64 campO, .int .i64 leaseO, .int .i64 hbO, .int .i64 ltO, .bool pv] := by
      apply Array.ext'
      exact hcs
    by_cases hbig : 1024 < M ∨ 1024 < N
    · exact law_big id am M Mc ao N Nc term nowO campO leaseO hbO ltO pv W hbig
    · exact law_walk id am M Mc ao N Nc term nowO campO leaseO hbO ltO pv mem off W (by omega) (by omega) hMc (by unfold maxLen at hMm; omega) wid hms hos
  refine hwalk.mono fun e W' ⟨he, bel⟩ => ?_
  subst he
  exact ⟨_, rfl, _, _, _, [], _, [], hW', trodAll_mk1 (shut_bool Yba.underlying4 _), (trodAll_cons_mk (Below.trod laidOut (by kernel_rfl) (of_decide_eq_true (by kernel_rfl)) k0 bel lt0) trodAll_mk0), rfl, bel.frame _, fun h => by cases h⟩

theorem over : Rows.lawS0782ALeadRow.holds Yba.pinned (OpenSpec.ofChange Rows.lawS0782ALeadSpec) :=
  OpenClaim.holds_of_wide 3 Yba.f3 rfl rfl rfl rfl rfl rfl rfl ⟨rfl, rfl, rfl, rfl, rfl⟩ rfl rfl rfl rfl rfl (by kernel_rfl) Yba.func3 (by kernel_rfl)
    (of_decide_eq_true (by kernel_rfl)) (by unfold Func.isWrapper; first | (rw [if_pos (by decide +kernel)]; kernel_rfl) | (rw [if_neg (by decide +kernel)]; exact ⟨rfl, rfl⟩))
    (fun os started H enc _ => lifted os started H enc)

/-- ████ THE STATEMENT ████ -/
theorem proved : Rows.LawS0782ALeadSaid := over
#print axioms proved
end Go.Proofs.Ybulkpec.lawS0782ALead
