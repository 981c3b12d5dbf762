/- valueSpan at a pinned choice. -/
import Derived.Test.YbulkpfsDoorKeep
set_option linter.unusedVariables false
namespace Go.Proofs.YbulkpfsDoor
open Go.RowKit

theorem cell_alloc {w : World} {a : Addr} {v : Value} (h : w.cell? a = some v) (o : Obj) : (w.alloc o).cell? a = some v := by
  rw [World.cell?_alloc_lt _ _ _ (World.block_lt_of_cell? w a h)]; exact h

theorem Pin.alloc {w : World} {M Pb C U Ab T nst p : Nat} {alo lo hi sz v : Int} (h : Pin w M Pb C U Ab T nst p alo lo hi sz v) (o : Obj) : Pin (w.alloc o) M Pb C U Ab T nst p alo lo hi sz v :=
  ⟨cell_alloc h.m0 o, cell_alloc h.m2 o, cell_alloc h.m3 o, cell_alloc h.p3 o, cell_alloc h.p5 o, cell_alloc h.u0 o, cell_alloc h.u1 o, cell_alloc h.u2 o, cell_alloc h.u3 o, cell_alloc h.u7 o,
    cell_alloc h.c0 o, cell_alloc h.c1 o, cell_alloc h.c2 o, cell_alloc h.c8 o, cell_alloc h.c9 o, cell_alloc h.c12 o, cell_alloc h.a0 o, cell_alloc h.a2 o, cell_alloc h.t o, h.hp, h.hn, h.ha, h.hlo, h.hhi, h.hv⟩

theorem keeping_pin (M Pb C U Ab T nst p K : Nat) (alo lo hi sz v : Int) (w : World) (h : Pin w M Pb C U Ab T nst p alo lo hi sz v) (hk : w.cell? ⟨K, 0, none⟩ = some (.int .i64 p)) :
    Calls Ybad.prog 11 #[.pointer (some ⟨M, 0, none⟩), .int .i64 0, .int .i64 0, .slice (some ⟨T, 0, none⟩) nst nst, .int .i64 p, .int .i64 0, .slice (some ⟨K, 0, none⟩) 1 1] w fun e w' => e = .returned (.tuple #[.int .i32 (pinV alo lo hi v), .bool true]) ∧ ∃ n, w' = w.drewN n := by
  by_cases hv : v = 0
  · subst hv
    have e : pinV alo lo hi 0 = 0 := by simp [pinV]
    rw [e]
    exact keeping_zero M Pb C U Ab T nst p K alo lo hi sz w h hk
  · exact keeping_some M Pb C U Ab T nst p K alo lo hi sz v hv w h hk

theorem drewN_alloc (w : World) (o : Obj) (n : Nat) : (w.alloc o).drewN n = (w.drewN n).alloc o := rfl
theorem below_of_drewN (w : World) (n : Nat) : Below w.heap.size w (w.drewN n) := ⟨rfl, rfl, rfl, Nat.le_refl _, fun _ _ => rfl⟩

set_option maxHeartbeats 400000 in
theorem valueSpan_kept (M Pb C U Ab T nst p K : Nat) (alo lo hi sz v : Int) (w : World) (h : Pin w M Pb C U Ab T nst p alo lo hi sz v) (hk : w.cell? ⟨K, 0, none⟩ = some (.int .i64 p)) :
    Calls Ybad.prog 7 #[.pointer (some ⟨M, 0, none⟩), .int .i64 0, .int .i64 0, .slice (some ⟨T, 0, none⟩) nst nst, .int .i64 p, .int .i64 0, .slice (some ⟨K, 0, none⟩) 1 1] w fun e w' => e = .returned (.tuple #[spanV (pinV alo lo hi v) (pinV alo lo hi v), .bool (pinV alo lo hi v != 0)]) ∧ Below w.heap.size w w' := by
  have hK : ∀ o, Hid (Calls Ybad.prog 11 #[.pointer (some ⟨M, 0, none⟩), .int .i64 0, .int .i64 0, .slice (some ⟨T, 0, none⟩) nst nst, .int .i64 p, .int .i64 0, .slice (some ⟨K, 0, none⟩) 1 1] (w.alloc o) fun e w' => e = .returned (.tuple #[.int .i32 (pinV alo lo hi v), .bool true]) ∧ ∃ n, w' = (w.alloc o).drewN n) :=
    fun o => keeping_pin M Pb C U Ab T nst p K alo lo hi sz v (w.alloc o) (h.alloc o) (cell_alloc hk o)
  have m3 := h.m3; have p3 := h.p3
  have l1 := World.block_lt_of_cell? w _ m3
  have l2 := World.block_lt_of_cell? w _ p3
  simp only at l1 l2
  clear h hk
  generalize pinV alo lo hi v = x at *
  go_enter Ybad.func7, Ybad.ntmps7
  go_wp2_with fail
  refine (hK _).out.mono ?_
  rintro e w' ⟨rfl, n, rfl⟩
  clear hK
  rw [drewN_alloc]
  have hbw := below_of_drewN w n
  have hs : (w.drewN n).heap.size = w.heap.size := rfl

  generalize w.drewN n = w2 at *
  have HB : Hid (Below w.heap.size w w2) := hbw
  clear hbw
  go_wp2_with fail
  exact bodyPost_ret (v := .tuple #[spanV x x, .bool (x != 0)]) (by simp [results, Ybad.results7, go_sem, spanV, hs]) rfl ⟨rfl, HB.out.alloc (by rw [hs]; exact Nat.le_refl _) _⟩

set_option maxHeartbeats 400000 in
theorem valueSpan_unkept (M Pb C U Ab T nst p : Nat) (alo lo hi sz v : Int) (h0 : 0 ≤ sz) (h1 : sz ≤ 65535) (w : World) (h : Pin w M Pb C U Ab T nst p alo lo hi sz v) :
    Calls Ybad.prog 7 #[.pointer (some ⟨M, 0, none⟩), .int .i64 0, .int .i64 0, .slice (some ⟨T, 0, none⟩) nst nst, .int .i64 p, .int .i64 0, .slice none 0 0] w fun e w' => e = .returned (.tuple #[spanV 1 sz, .bool true]) ∧ Below w.heap.size w w' := by
  have hK : ∀ o, Hid (Calls Ybad.prog 11 #[.pointer (some ⟨M, 0, none⟩), .int .i64 0, .int .i64 0, .slice (some ⟨T, 0, none⟩) nst nst, .int .i64 p, .int .i64 0, .slice none 0 0] (w.alloc o) fun e w' => e = .returned (.tuple #[.int .i32 0, .bool false]) ∧ ∃ n, w' = (w.alloc o).drewN n) :=
    fun o => keeping_nil M Pb C U Ab T nst p alo lo hi sz v (w.alloc o) (h.alloc o)
  have m3 := h.m3; have p3 := h.p3; have c8 := h.c8; have c9 := h.c9; have c12 := h.c12
  have l1 := World.block_lt_of_cell? w _ m3
  have l2 := World.block_lt_of_cell? w _ p3
  have l3 := World.block_lt_of_cell? w _ c8
  simp only at l1 l2 l3
  clear h
  go_enter Ybad.func7, Ybad.ntmps7
  go_wp2_with fail
  refine (hK _).out.mono ?_
  rintro e w' ⟨rfl, n, rfl⟩
  clear hK
  rw [drewN_alloc]
  have hbw := below_of_drewN w n
  have hs : (w.drewN n).heap.size = w.heap.size := rfl
  have c8' : (w.drewN n).cell? ⟨C, 8, none⟩ = some (.bool false) := c8
  have c9' : (w.drewN n).cell? ⟨C, 9, none⟩ = some (.int .i64 sz) := c9
  have c12' : (w.drewN n).cell? ⟨C, 12, none⟩ = some (.bool false) := c12
  generalize w.drewN n = w2 at *
  have HB : Hid (Below w.heap.size w w2) := hbw
  clear hbw
  go_wp2_with fail
  exact bodyPost_ret (v := .tuple #[spanV 1 sz, .bool true]) (by simp [results, Ybad.results7, go_sem, spanV, hs]) rfl ⟨rfl, HB.out.alloc (by rw [hs]; exact Nat.le_refl _) _⟩
end Go.Proofs.YbulkpfsDoor
