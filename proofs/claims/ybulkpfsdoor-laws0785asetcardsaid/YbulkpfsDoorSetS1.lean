/- valueSpan at a set choice: the walk, one theorem for each number of words. -/
import Derived.Test.YbulkpfsDoorSetU
set_option linter.unusedVariables false
namespace Go.Proofs.YbulkpfsDoor
open Go.RowKit Go.Deep

set_option maxRecDepth 100000 in
set_option maxHeartbeats 1000000 in
theorem setSpan_1 (M Pb C n cc ac : Nat) (ca aa : Option Addr) (fr : Int) (free : Bool) (w : World) (h : SetSt w M Pb C n 1 cc ac ca aa fr free) (hMC : ¬ M = C) (hn : 0 < n) (hn2 : n ≤ 300) (hP : 1 = (n + 63) / 64) :
    Calls Ybad.prog 7 #[.pointer (some ⟨M, 0, none⟩), .int .i64 0, .int .i64 0, .slice none 0 0, .int .i64 0, .int .i64 0, .slice none 0 0] w fun e w' => ∃ Z, e = .returned (.tuple #[setV Z n 1 cc ca fr, .bool true]) ∧ w.heap.size ≤ Z ∧ w'.rowIs Z 83 (4 * 1) (rowF free n 1) ∧ Below M w w' := by
  have m3 := h.m3; have m27 := h.m27; have m27f := h.m27f; have p3 := h.p3; have p5 := h.p5; have c2 := h.c2; have c5 := h.c5; have c7 := h.c7; have c8 := h.c8; have c12 := h.c12; have c13 := h.c13
  have l1 : M < w.heap.size := World.block_lt_of_cell? w _ m3
  have l2 : Pb < w.heap.size := World.block_lt_of_cell? w _ p3
  have l3 : C < w.heap.size := World.block_lt_of_cell? w _ c2
  have l1' : M < w.heap.size + 1 := by omega
  have l3' : C < w.heap.size + 1 := by omega
  have hPq : ((n : Int) + 63) / 64 = 1 := by omega
  have HP : Hid (1 = (n + 63) / 64) := hP
  have hmk := run_make_row' (P := Ybad.prog) 27 83 (.int .u64 0) 8 Ybad.underlying27 Ybad.info83 rfl .i64 .i64 4 (by omega) (by omega)
  rw [show ((4 : Nat) : Int) = 4 from rfl] at hmk
  have Hkeep : Hid (SetSt w M Pb C n 1 cc ac ca aa fr free) := h
  clear h hP m27 m27f c13
  go_enter Ybad.func7, Ybad.ntmps7
  go_wp2_with fail
  refine (keeping_none M Pb _ _ _ _ _ (by go_simp) (by go_simp)).mono ?_
  rintro e w' ⟨rfl, rfl⟩
  go_wp2_with fail
  rw [hPq]
  have k2 : IntKind.i64.wrap (2 * 1) = 2 := rfl
  have k3 : IntKind.i64.wrap (3 * 1) = 3 := rfl
  simp only [Int.reduceMul] at k2 k3
  clear hPq hmk c5 c8 p3 p5 m3
  go_region_held3 (fun w' => w'.cell? ⟨C, 2, none⟩ = some (.slice ca n cc) ∧ w'.cell? ⟨C, 7, none⟩ = some (.int .i64 fr)) (go_keep) (fail)
  rename_i hHeld
  clear hHeld k2 k3
  obtain ⟨hR, hS, hB1, hs1⟩ := set_world w (setCs (w.heap.size + 1) n 1 cc ca fr) 4
  change Exit.then _ _ _ _ (setW w (setCs (w.heap.size + 1) n 1 cc ca fr) 4)
  generalize setW w (setCs (w.heap.size + 1) n 1 cc ca fr) 4 = w1 at *
  have c12' := (hB1.cell (p := ⟨C, 12, none⟩) (by exact l3)).trans c12
  have q : SpanAt w1 w.heap.size (w.heap.size + 1) n 1 2 3 cc ca fr := SpanAt.of hS
  generalize hSd : w.heap.size = S at *
  generalize hZd : S + 1 = Z at *
  cases free
  · as_aux_lemma =>
      have HR : Hid (w1.rowIs Z 83 (4 * 1) (fun _ => .int .u64 0)) := hR
      have HK : Hid (BSt w1 M Pb C S Z n 1 cc ca) := by
        have h := Hkeep.out
        have hc : ∀ (b o : Nat) (v : Value), w.cell? ⟨b, o, none⟩ = some v → w1.cell? ⟨b, o, none⟩ = some v := fun b o v hv => (hB1.cell (p := ⟨b, o, none⟩) (by rw [← hSd]; exact World.block_lt_of_cell? w _ hv)).trans hv
        exact ⟨hc _ _ _ h.m3, hc _ _ _ h.m27, (hB1.frozen (p := ⟨M, 27, none⟩) (by exact l1)).trans h.m27f, hc _ _ _ h.p3, hc _ _ _ h.c2, hc _ _ _ h.c13, q.c5, q.c6, q.f6, hR⟩
      have HB : Hid (Below M w w1) := ⟨hB1.os, hB1.tape, hB1.output, hB1.size, fun b hb => hB1.block b (by omega)⟩
      have HS : Hid (w1.heap[S]? = some (.cells (setCs Z n 1 cc ca fr) 41 (0, 0))) := hS
      have n1 : Hid (M ≤ Z ∧ M ≤ S ∧ ¬ M = S ∧ ¬ M = Z ∧ ¬ S = Z) := ⟨by omega, by omega, by omega, by omega, by omega⟩
      have c0_ := q.c0; have f0_ := q.f0; have s0_ := q.s0; have c1_ := q.c1; have f1_ := q.f1; have s1_ := q.s1; have c2_ := q.c2; have f2_ := q.f2; have s2_ := q.s2; have c3_ := q.c3; have f3_ := q.f3; have s3_ := q.s3; have c4_ := q.c4; have f4_ := q.f4; have s4_ := q.s4; have c5_ := q.c5; have f5_ := q.f5; have s5_ := q.s5; have c6_ := q.c6; have f6_ := q.f6; have s6_ := q.s6; have c7_ := q.c7; have f7_ := q.f7; have s7_ := q.s7; have c8_ := q.c8; have f8_ := q.f8; have s8_ := q.s8; have c9_ := q.c9; have f9_ := q.f9; have s9_ := q.s9; have c10_ := q.c10; have f10_ := q.f10; have s10_ := q.s10; have c11_ := q.c11; have f11_ := q.f11; have s11_ := q.s11; have c12_ := q.c12; have f12_ := q.f12; have s12_ := q.s12; have c13_ := q.c13; have f13_ := q.f13; have s13_ := q.s13; have c14_ := q.c14; have f14_ := q.f14; have s14_ := q.s14; have c15_ := q.c15; have f15_ := q.f15; have s15_ := q.s15
      clear hR hB1 hs1 hS q c2 c7 c12 l1 l2 l3 l1' l3' Hkeep
      go_wp2_with fail
      go_region_held3 (fun w' => w'.cell? ⟨S, 0, none⟩ = some (.bool true) ∧ w'.cell? ⟨S, 1, none⟩ = some (.int .i32 0) ∧ w'.cell? ⟨S, 2, none⟩ = some (.int .i32 0) ∧ w'.cell? ⟨S, 3, none⟩ = some (.int .i32 0) ∧ w'.cell? ⟨S, 4, none⟩ = some (.int .i64 0) ∧ w'.cell? ⟨S, 5, none⟩ = some (.slice (some ⟨Z, 0, none⟩) 1 1) ∧ w'.cell? ⟨S, 6, none⟩ = some (.slice (some ⟨Z, 1, none⟩) 1 1) ∧ w'.cell? ⟨S, 7, none⟩ = some (.slice none 0 0) ∧ w'.cell? ⟨S, 8, none⟩ = some (.slice none 0 0) ∧ w'.cell? ⟨S, 9, none⟩ = some (.slice (some ⟨Z, 2, none⟩) 1 1) ∧ w'.cell? ⟨S, 10, none⟩ = some (.bool false) ∧ w'.cell? ⟨S, 11, none⟩ = some (.slice (some ⟨Z, 3, none⟩) 1 1) ∧ w'.cell? ⟨S, 12, none⟩ = some (.pointer none) ∧ w'.cell? ⟨S, 13, none⟩ = some (.slice ca n cc) ∧ w'.cell? ⟨S, 14, none⟩ = some (.int .i64 fr) ∧ w'.cell? ⟨S, 15, none⟩ = some (.slice none 0 0)) (first | exact ⟨d0_, d1_, d2_, d3_, d4_, d5_, d6_, d7_, d8_, d9_, d10_, d11_, d12_, d13_, d14_, d15_⟩ | exact ⟨c0_, c1_, c2_, c3_, c4_, c5_, c6_, c7_, c8_, c9_, c10_, c11_, c12_, c13_, c14_, c15_⟩ | go_keep)
        ((go_at_call 12; refine (bounds_any M Pb C S Z n 1 cc ca _ _ _ _ (HK.out.drew) hn hn2 HP.out M (Nat.le_refl _) n1.out.1 n1.out.2.1 n1.out.2.2.1 n1.out.2.2.2.1 n1.out.2.2.2.2 hMC).mono ?_; rintro e w2 ⟨rfl, hS2, hR2, hB2⟩; have q2 : SpanAt w2 S Z n 1 2 3 cc ca fr := SpanAt.of (hS2.trans HS.out); have d0_ := q2.c0; have g0_ := q2.f0; have t0_ := q2.s0; have d1_ := q2.c1; have g1_ := q2.f1; have t1_ := q2.s1; have d2_ := q2.c2; have g2_ := q2.f2; have t2_ := q2.s2; have d3_ := q2.c3; have g3_ := q2.f3; have t3_ := q2.s3; have d4_ := q2.c4; have g4_ := q2.f4; have t4_ := q2.s4; have d5_ := q2.c5; have g5_ := q2.f5; have t5_ := q2.s5; have d6_ := q2.c6; have g6_ := q2.f6; have t6_ := q2.s6; have d7_ := q2.c7; have g7_ := q2.f7; have t7_ := q2.s7; have d8_ := q2.c8; have g8_ := q2.f8; have t8_ := q2.s8; have d9_ := q2.c9; have g9_ := q2.f9; have t9_ := q2.s9; have d10_ := q2.c10; have g10_ := q2.f10; have t10_ := q2.s10; have d11_ := q2.c11; have g11_ := q2.f11; have t11_ := q2.s11; have d12_ := q2.c12; have g12_ := q2.f12; have t12_ := q2.s12; have d13_ := q2.c13; have g13_ := q2.f13; have t13_ := q2.s13; have d14_ := q2.c14; have g14_ := q2.f14; have t14_ := q2.s14; have d15_ := q2.c15; have g15_ := q2.f15; have t15_ := q2.s15))
      go_wp2_with fail
      exact bodyPost_ret (v := .tuple #[setV Z n 1 cc ca fr, .bool true]) (by simp [results, Ybad.results7, go_sem, setV, *]) rfl ⟨Z, rfl, by omega, hR2.congr (fun j hj => by simp [rowF]), HB.out.drew.trans hB2⟩
  · as_aux_lemma =>
      have HR : Hid (w1.rowIs Z 83 (4 * 1) (rowF true n 1)) := hR.congr (fun j hj => by simp [rowF])
      have HB : Hid (Below M w w1) := ⟨hB1.os, hB1.tape, hB1.output, hB1.size, fun b hb => hB1.block b (by omega)⟩
      have c0_ := q.c0; have f0_ := q.f0; have s0_ := q.s0; have c1_ := q.c1; have f1_ := q.f1; have s1_ := q.s1; have c2_ := q.c2; have f2_ := q.f2; have s2_ := q.s2; have c3_ := q.c3; have f3_ := q.f3; have s3_ := q.s3; have c4_ := q.c4; have f4_ := q.f4; have s4_ := q.s4; have c5_ := q.c5; have f5_ := q.f5; have s5_ := q.s5; have c6_ := q.c6; have f6_ := q.f6; have s6_ := q.s6; have c7_ := q.c7; have f7_ := q.f7; have s7_ := q.s7; have c8_ := q.c8; have f8_ := q.f8; have s8_ := q.s8; have c9_ := q.c9; have f9_ := q.f9; have s9_ := q.s9; have c10_ := q.c10; have f10_ := q.f10; have s10_ := q.s10; have c11_ := q.c11; have f11_ := q.f11; have s11_ := q.s11; have c12_ := q.c12; have f12_ := q.f12; have s12_ := q.s12; have c13_ := q.c13; have f13_ := q.f13; have s13_ := q.s13; have c14_ := q.c14; have f14_ := q.f14; have s14_ := q.s14; have c15_ := q.c15; have f15_ := q.f15; have s15_ := q.s15
      clear hR hB1 hs1 hS q c2 c7 c12 l1 l2 l3 l1' l3'
      go_wp2_with fail
      exact bodyPost_ret (v := .tuple #[setV Z n 1 cc ca fr, .bool true]) (by simp [results, Ybad.results7, go_sem, setV, *]) rfl ⟨Z, rfl, by omega, HR.out, HB.out⟩
end Go.Proofs.YbulkpfsDoor
