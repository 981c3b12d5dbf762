/- machine.bounds at the empty set. -/
import Derived.Test.YbulkpfsDoorZero
set_option linter.unusedVariables false
namespace Go.Proofs.YbulkpfsDoor
open Go.RowKit Go.Deep

theorem append_nought (Z : Nat) (ty : TypeId) (w : World) : (Builtin.append_ #[27, 27] ty #[.slice (some ⟨Z, 0, none⟩) 0 0, .slice none 0 0]).run Ybad.prog w = .ok (.slice (some ⟨Z, 0, none⟩) 0 0) w := by
  obtain ⟨i0, hi, hz0, hz1, hz2⟩ := info_parts Ybad.info83
  simp [Builtin.append_, run_underlying Ybad.underlying27, sizeOf, typeInfo, hi, Builtin.lenOf, Builtin.firstCells, storeCells]

set_option maxRecDepth 100000 in
set_option maxHeartbeats 1000000 in
theorem bounds_nought (M Pb C S Z cc : Nat) (ca : Option Addr) (st : Value) (p q : Int) (w : World) (h : BSt w M Pb C S Z 0 0 cc ca) (hMC : ¬ M = C) :
    Calls Ybad.prog 12 #[.pointer (some ⟨M, 0, none⟩), .int .i64 0, .int .i64 0, st, .int .i64 p, .int .i64 q, .pointer (some ⟨S, 0, none⟩)] w fun e w' => e = .returned (.bool true) ∧ w'.heap[S]? = w.heap[S]? ∧ Below w.heap.size w w' := by
  have m3 := h.m3; have m27 := h.m27; have m27f := h.m27f; have p3 := h.p3; have c2 := h.c2; have c13 := h.c13; have s5 := h.s5; have s6 := h.s6; have s6f := h.s6f
  have l1 : M < w.heap.size := World.block_lt_of_cell? w _ m3
  have l2 : Pb < w.heap.size := World.block_lt_of_cell? w _ p3
  have l3 : C < w.heap.size := World.block_lt_of_cell? w _ c2
  have l4 : S < w.heap.size := World.block_lt_of_cell? w _ s5
  clear h
  go_enter Ybad.func12, Ybad.ntmps12
  go_wp2_with fail
  have m3' := ca1 (ca1 m3 (.cells #[.pointer (some ⟨S, 0, none⟩)] 81)) (.cells #[.pointer (some ⟨C, 0, none⟩)] 77)
  have m27' := ca1 (ca1 m27 (.cells #[.pointer (some ⟨S, 0, none⟩)] 81)) (.cells #[.pointer (some ⟨C, 0, none⟩)] 77)
  have m27f' := fa1 (ca1 m27 _) (fa1 m27 m27f (.cells #[.pointer (some ⟨S, 0, none⟩)] 81)) (.cells #[.pointer (some ⟨C, 0, none⟩)] 77)
  have c2' := ca1 (ca1 c2 (.cells #[.pointer (some ⟨S, 0, none⟩)] 81)) (.cells #[.pointer (some ⟨C, 0, none⟩)] 77)
  have c13' := ca1 (ca1 c13 (.cells #[.pointer (some ⟨S, 0, none⟩)] 81)) (.cells #[.pointer (some ⟨C, 0, none⟩)] 77)
  have s5' := ca1 (ca1 s5 (.cells #[.pointer (some ⟨S, 0, none⟩)] 81)) (.cells #[.pointer (some ⟨C, 0, none⟩)] 77)
  have s6' := ca1 (ca1 s6 (.cells #[.pointer (some ⟨S, 0, none⟩)] 81)) (.cells #[.pointer (some ⟨C, 0, none⟩)] 77)
  have s6f' := fa1 (ca1 s6 _) (fa1 s6 s6f (.cells #[.pointer (some ⟨S, 0, none⟩)] 81)) (.cells #[.pointer (some ⟨C, 0, none⟩)] 77)
  have d0 : ((w.alloc (.cells #[.pointer (some ⟨S, 0, none⟩)] 81)).alloc (.cells #[.pointer (some ⟨C, 0, none⟩)] 77)).cell? ⟨w.heap.size, 0, none⟩ = some (.pointer (some ⟨S, 0, none⟩)) := by go_simp
  have d1 : ((w.alloc (.cells #[.pointer (some ⟨S, 0, none⟩)] 81)).alloc (.cells #[.pointer (some ⟨C, 0, none⟩)] 77)).cell? ⟨w.heap.size + 1, 0, none⟩ = some (.pointer (some ⟨C, 0, none⟩)) := by go_simp
  have hb1 : Below w.heap.size w ((w.alloc (.cells #[.pointer (some ⟨S, 0, none⟩)] 81)).alloc (.cells #[.pointer (some ⟨C, 0, none⟩)] 77)) := ((Below.refl _ _).alloc (Nat.le_refl _) _).alloc (by simp) _
  have hs1 : ((w.alloc (.cells #[.pointer (some ⟨S, 0, none⟩)] 81)).alloc (.cells #[.pointer (some ⟨C, 0, none⟩)] 77)).heap.size = w.heap.size + 2 := by simp
  clear m3 m27 m27f p3 c2 c13 s5 s6 s6f
  generalize ((w.alloc (.cells #[.pointer (some ⟨S, 0, none⟩)] 81)).alloc (.cells #[.pointer (some ⟨C, 0, none⟩)] 77)) = w1 at *
  have HB : Hid (Below w.heap.size w w1) := hb1
  have hm := setCell_same m27'
  have hs6 := setCell_same s6'
  have l6 : w.heap.size + 1 < w1.heap.size := by omega
  have l7 : w.heap.size < w1.heap.size := by omega
  have l1' : M < w1.heap.size := by omega
  have l3' : C < w1.heap.size := by omega
  have l4' : S < w1.heap.size := by omega
  generalize hBd : w.heap.size = B at *
  clear hs1 hb1
  go_cut [13, 15] (fun a13 a15 wc => a13 = .pointer (some ⟨B, 0, none⟩) ∧ a15 = .pointer (some ⟨B + 1, 0, none⟩) ∧ wc = w1.drew)
  case first =>
    go_region_with (first | (go_at_call 20; refine (filled_nil _).mono ?_; rintro e w2 ⟨rfl, rfl⟩))
    all_goals
      go_wp2_with fail
      go_meet
      case rel => exact ⟨rfl, rfl, rfl⟩
  case rest =>
    obtain ⟨rfl, rfl, rfl⟩ := hcut
    have hb2 : Hid (Below B w w1.drew) := HB.out.drew
    have e1 : w1.drew.cell? ⟨M, 27, none⟩ = some (.slice none 0 0) := m27'
    have e2 : w1.drew.cell? ⟨C, 13, none⟩ = some (.slice none 0 0) := c13'
    have e3 : w1.drew.cell? ⟨S, 5, none⟩ = some (.slice (some ⟨Z, 0, none⟩) 0 0) := s5'
    have e4 : w1.drew.cell? ⟨S, 6, none⟩ = some (.slice (some ⟨Z, 0, none⟩) 0 0) := s6'
    have e5 : w1.drew.frozen? ⟨S, 6, none⟩ = false := s6f'
    have e6 : w1.drew.cell? ⟨B, 0, none⟩ = some (.pointer (some ⟨S, 0, none⟩)) := d0
    have e7 : w1.drew.cell? ⟨B + 1, 0, none⟩ = some (.pointer (some ⟨C, 0, none⟩)) := d1
    have g1 : B + 1 < w1.drew.heap.size := l6
    have g2 : B < w1.drew.heap.size := l7
    have g3 : S < w1.drew.heap.size := l4'
    have g4 : M < w1.drew.heap.size := l1'
    have g5 : C < w1.drew.heap.size := l3'
    clear m3' m27' m27f' c2' c13' s5' s6' s6f' d0 d1 HB hm hs6 l6 l7 l4' l1' l3'
    generalize w1.drew = wc at *
    go_wp2_with fail
    go_loopw [59] (fun i wr => i = .int .i64 0 ∧ Hid (wr = wc.alloc (.cells #[.slice none 0 0] 27))) (fun _ _ => 0)
    case atStart => exact ⟨rfl, rfl⟩
    case round =>
      obtain ⟨rfl, hw⟩ := hrel
      have hw' := hw.out
      subst hw'
      go_wp2_with fail
      have q1 := ca1 e6 (.cells #[.slice none 0 0] 27)
      have q2 := ca1 e4 (.cells #[.slice none 0 0] 27)
      have q5 := ca1 e3 (.cells #[.slice none 0 0] 27)
      have qf := fa1 e4 e5 (.cells #[.slice none 0 0] 27)
      have q3 : (wc.alloc (.cells #[.slice none 0 0] 27)).cell? ⟨wc.heap.size, 0, none⟩ = some (.slice none 0 0) := World.cell?_alloc_at _ _ _ _ rfl
      have qs : (wc.alloc (.cells #[.slice none 0 0] 27)).setCell ⟨S, 6, none⟩ (.slice (some ⟨Z, 0, none⟩) 0 0) = wc.alloc (.cells #[.slice none 0 0] 27) := setCell_same q2
      have qsd : (wc.alloc (.cells #[.slice none 0 0] 27)).drew.setCell ⟨S, 6, none⟩ (.slice (some ⟨Z, 0, none⟩) 0 0) = (wc.alloc (.cells #[.slice none 0 0] 27)).drew := setCell_same (w := (wc.alloc (.cells #[.slice none 0 0] 27)).drew) q2
      have HSe : Hid ((wc.alloc (.cells #[.slice none 0 0] 27)).heap[S]? = w.heap[S]?) := (Below.heap_alloc _ _ _ g3).trans (hb2.out.block S l4)
      have HBe : Hid (Below B w (wc.alloc (.cells #[.slice none 0 0] 27))) := hb2.out.alloc (by omega) _
      have hap := append_nought Z
      clear e1 e2 e3 e4 e5 e6 e7 hb2
      generalize hw3 : wc.alloc (.cells #[.slice none 0 0] 27) = w3 at *
      generalize wc.heap.size = D at *
      clear hw3 hw
      go_region_held3 (fun w' => w'.cell? ⟨B, 0, none⟩ = some (.pointer (some ⟨S, 0, none⟩)) ∧ w'.cell? ⟨S, 6, none⟩ = some (.slice (some ⟨Z, 0, none⟩) 0 0) ∧ w'.cell? ⟨D, 0, none⟩ = some (.slice none 0 0)) (first | exact ⟨q1, q2, q3⟩ | go_keep) (fail)
      have HQ : Hid (w3.drew.heap[S]? = w.heap[S]? ∧ Below B w w3.drew) := ⟨HSe.out, HBe.out.drew⟩
      have q1' : w3.drew.cell? ⟨B, 0, none⟩ = some (.pointer (some ⟨S, 0, none⟩)) := q1
      have q2' : w3.drew.cell? ⟨S, 6, none⟩ = some (.slice (some ⟨Z, 0, none⟩) 0 0) := q2
      have q3' : w3.drew.cell? ⟨D, 0, none⟩ = some (.slice none 0 0) := q3
      have q5' : w3.drew.cell? ⟨S, 5, none⟩ = some (.slice (some ⟨Z, 0, none⟩) 0 0) := q5
      clear q1 q2 q3 q5 qf qs qsd HSe HBe hap
      rename_i hHeld
      clear hHeld
      generalize w3.drew = w4 at *
      go_wp2_with fail
      go_quiet ((go_at_call 26; exact Calls.quiet_of_same (minus_nil Z _)))
      go_wp2_with fail
      have r1 : (w4.drewN nq).cell? ⟨B, 0, none⟩ = some (.pointer (some ⟨S, 0, none⟩)) := q1'
      have r3 : (w4.drewN nq).cell? ⟨D, 0, none⟩ = some (.slice none 0 0) := q3'
      have r5 : (w4.drewN nq).cell? ⟨S, 5, none⟩ = some (.slice (some ⟨Z, 0, none⟩) 0 0) := q5'
      have HQ5 : Hid ((w4.drewN nq).heap[S]? = w.heap[S]? ∧ Below B w (w4.drewN nq)) := ⟨HQ.out.1, HQ.out.2.trans ⟨rfl, rfl, rfl, Nat.le_refl _, fun _ _ => rfl⟩⟩
      clear q1' q2' q3' q5' HQ
      generalize w4.drewN nq = w5 at *
      go_quiet ((go_at_call 17; exact Calls.quiet_of_same (within_nil Z _)))
      go_wp2_with fail
      go_ret
      obtain ⟨hS5, hB5⟩ := HQ5.out
      exact ⟨rfl, hS5, by rw [hBd]; exact hB5.trans ⟨rfl, rfl, rfl, Nat.le_refl _, fun _ _ => rfl⟩⟩
end Go.Proofs.YbulkpfsDoor
