/- LawS0785APinned, kept: the walks. -/
import Derived.Test.YbulkpfsDoorPinned
set_option linter.unusedVariables false
namespace Go.Proofs.YbulkpfsDoor
open Go.RowKit Go.Deep

set_option maxRecDepth 100000 in
set_option maxHeartbeats 1000000 in
theorem pinned_low (x0 : Option Addr) (n c0 : Nat) (z : Nat → Int) (ps al cl cs : Int) (w : World) (hn : n ≤ 1024) (p : Nat) (hps : ps % ((n : Int) + 1) = (p : Int)) (hps0 : 0 ≤ ps ∧ ps ≤ 255) (hal : -128 ≤ al ∧ al ≤ 127) (hcl : -128 ≤ cl ∧ cl ≤ 127) (hcs : 0 ≤ cs ∧ cs ≤ 255)
    (v : Int) (hvs : stK z n p = .int .i32 v) (hvb : -2147483648 ≤ v ∧ v ≤ 2147483647) (hv0 : ¬ v = 0) (hx : al + v - 1 < cl)
    (hp : p ≤ n) (hz : ∀ i, -2147483648 ≤ z i ∧ z i ≤ 2147483647)
    (h0 : ∀ i, i < n → ∃ b0 o0, x0 = some ⟨b0, o0, none⟩ ∧ b0 < w.heap.size ∧ w.cell? ⟨b0, o0 + i, none⟩ = some (.int .i32 (z i))) :
    Calls Ybad.prog 4 #[.slice x0 n c0, .int .u8 ps, .bool true, .int .i8 al, .int .i8 cl, .int .u8 cs] w fun e w' => e = .returned (.bool true) ∧ Below w.heap.size w w' := by
  have hl1 : ¬ (1024 : Int) < (n : Int) := by omega
  have hmk := run_make_row' (P := Ybad.prog) 24 36 (.int .i32 0) 4 Ybad.underlying24 Ybad.info36 rfl .i64 .i64 (n + 1) (by omega) (by omega)
  have ec : ((n + 1 : Nat) : Int) = (n : Int) + 1 := by omega
  rw [ec] at hmk
  obtain ⟨q1, q2⟩ := hps0; obtain ⟨q3, q4⟩ := hal; obtain ⟨q5, q6⟩ := hcl; obtain ⟨q7, q8⟩ := hcs
  have HP : Hid (ps % ((n : Int) + 1) = (p : Int)) := hps
  have HVS : Hid (stK z n p = .int .i32 v) := hvs
  clear hps ec hvs
  have hv1 : (v == 0) = false := by simpa using hv0
  have HR0 : Hid (pinV al cl (cl + cs) v = 0) := by unfold pinV; show _ = _; rw [if_neg hv0, if_pos (.inl hx)]
  clear hv0
  obtain ⟨vb1, vb2⟩ := hvb
  go_enter Ybad.func4, Ybad.ntmps4
  go_wp2_with fail
  clear hmk
  go_loopw [36] (fun i wr => ∃ k : Nat, k ≤ n ∧ i = .int .i64 k ∧ wr.rowIs w.heap.size 36 (n + 1) (stK z k) ∧ Below w.heap.size w wr ∧ w.heap.size < wr.heap.size) (fun i _ => n - (intOf i).toNat)
  case atStart =>
    refine ⟨0, Nat.zero_le _, rfl, (World.rowIs_made w (.int .i32 0) (n + 1) 36).congr fun j _ => rfl, (Below.refl _ _).alloc (Nat.le_refl _) _, by simp⟩
  case round =>
    obtain ⟨k, hk, rfl, hrow, hbel, hsz⟩ := hrel
    by_cases hkl : k < n
    · obtain ⟨b0, o0, rfl, hb0, hc⟩ := h0 k hkl
      have e0 : wr.cell? ⟨b0, o0 + k, none⟩ = some (.int .i32 (z k)) := (hbel.cell (by exact hb0)).trans hc
      have e1 := hrow.cell (i := k) (by omega)
      have e2 := hrow.frozen k
      have hkn : (k : Int) < (n : Int) + 1 := by omega
      have HR : Hid (wr.rowIs w.heap.size 36 (n + 1) (stK z k)) := hrow
      clear hrow h0 hc
      go_wp2_with fail
      go_roundw
      case rel =>
        exact ⟨k + 1, by omega, by go_num, (HR.out.set k _).congr fun j _ => stK_set z k j, hbel.setCell (Nat.le_refl _) _, by simpa using hsz⟩
      case measure => simp [intOf]; omega
    · have hkn : k = n := by omega
      subst hkn
      have hps := HP.out
      clear h0
      go_wp2_with fail
      have hb2 := (pin_below wr al cl cs).alloc (by simp; omega) (.cells #[.int .i64 (p : Int)] 3)
      have ht : wr.cell? ⟨w.heap.size, p, none⟩ = some (.int .i32 v) := by rw [hrow.cell (by omega), HVS.out]
      have hPin := (pin_mk wr w.heap.size (k + 1) p al cl cs v ht (by omega) (by omega) ⟨q3, q4⟩ ⟨q5, q6⟩ ⟨q7, q8⟩ ⟨vb1, vb2⟩).alloc (.cells #[.int .i64 (p : Int)] 3)
      have hVS := valueSpan_kept _ _ _ _ _ _ _ _ (wr.heap.size + 1 + 1 + 1 + 1 + 1 + 1) _ _ _ _ _ _ hPin (World.cell?_alloc_at _ _ _ _ (by simp))
      rw [HR0.out] at hVS
      refine hVS.mono ?_
      clear hVS
      rintro e w2 ⟨rfl, hb3⟩
      unfold spanV
      have HB : Hid (Below w.heap.size w w2) := (hbel.trans (hb2.mono (by omega))).trans (hb3.mono (by simp; omega))
      have hs3 : w.heap.size ≤ w2.heap.size := by have := HB.out.size; omega
      have tc : w2.cell? ⟨w.heap.size, p, none⟩ = some (.int .i32 v) := (hb3.cell (by simp; omega)).trans hPin.t
      have hs4 : w.heap.size < w2.heap.size := World.block_lt_of_cell? w2 _ tc
      have hpk : (p : Int) < (k : Int) + 1 := by omega
      clear hb2 hb3 hbel hPin hrow ht
      go_wp2_with fail
      go_ret
      exact ⟨rfl, HB.out.alloc hs3 _⟩
set_option maxRecDepth 100000 in
set_option maxHeartbeats 1000000 in
theorem pinned_high (x0 : Option Addr) (n c0 : Nat) (z : Nat → Int) (ps al cl cs : Int) (w : World) (hn : n ≤ 1024) (p : Nat) (hps : ps % ((n : Int) + 1) = (p : Int)) (hps0 : 0 ≤ ps ∧ ps ≤ 255) (hal : -128 ≤ al ∧ al ≤ 127) (hcl : -128 ≤ cl ∧ cl ≤ 127) (hcs : 0 ≤ cs ∧ cs ≤ 255)
    (v : Int) (hvs : stK z n p = .int .i32 v) (hvb : -2147483648 ≤ v ∧ v ≤ 2147483647) (hv0 : ¬ v = 0) (hx0 : ¬ al + v - 1 < cl) (hx : cl + cs < al + v - 1)
    (hp : p ≤ n) (hz : ∀ i, -2147483648 ≤ z i ∧ z i ≤ 2147483647)
    (h0 : ∀ i, i < n → ∃ b0 o0, x0 = some ⟨b0, o0, none⟩ ∧ b0 < w.heap.size ∧ w.cell? ⟨b0, o0 + i, none⟩ = some (.int .i32 (z i))) :
    Calls Ybad.prog 4 #[.slice x0 n c0, .int .u8 ps, .bool true, .int .i8 al, .int .i8 cl, .int .u8 cs] w fun e w' => e = .returned (.bool true) ∧ Below w.heap.size w w' := by
  have hl1 : ¬ (1024 : Int) < (n : Int) := by omega
  have hmk := run_make_row' (P := Ybad.prog) 24 36 (.int .i32 0) 4 Ybad.underlying24 Ybad.info36 rfl .i64 .i64 (n + 1) (by omega) (by omega)
  have ec : ((n + 1 : Nat) : Int) = (n : Int) + 1 := by omega
  rw [ec] at hmk
  obtain ⟨q1, q2⟩ := hps0; obtain ⟨q3, q4⟩ := hal; obtain ⟨q5, q6⟩ := hcl; obtain ⟨q7, q8⟩ := hcs
  have HP : Hid (ps % ((n : Int) + 1) = (p : Int)) := hps
  have HVS : Hid (stK z n p = .int .i32 v) := hvs
  clear hps ec hvs
  have hv1 : (v == 0) = false := by simpa using hv0
  have HR0 : Hid (pinV al cl (cl + cs) v = 0) := by unfold pinV; show _ = _; rw [if_neg hv0, if_pos (.inr hx)]
  clear hv0
  obtain ⟨vb1, vb2⟩ := hvb
  go_enter Ybad.func4, Ybad.ntmps4
  go_wp2_with fail
  clear hmk
  go_loopw [36] (fun i wr => ∃ k : Nat, k ≤ n ∧ i = .int .i64 k ∧ wr.rowIs w.heap.size 36 (n + 1) (stK z k) ∧ Below w.heap.size w wr ∧ w.heap.size < wr.heap.size) (fun i _ => n - (intOf i).toNat)
  case atStart =>
    refine ⟨0, Nat.zero_le _, rfl, (World.rowIs_made w (.int .i32 0) (n + 1) 36).congr fun j _ => rfl, (Below.refl _ _).alloc (Nat.le_refl _) _, by simp⟩
  case round =>
    obtain ⟨k, hk, rfl, hrow, hbel, hsz⟩ := hrel
    by_cases hkl : k < n
    · obtain ⟨b0, o0, rfl, hb0, hc⟩ := h0 k hkl
      have e0 : wr.cell? ⟨b0, o0 + k, none⟩ = some (.int .i32 (z k)) := (hbel.cell (by exact hb0)).trans hc
      have e1 := hrow.cell (i := k) (by omega)
      have e2 := hrow.frozen k
      have hkn : (k : Int) < (n : Int) + 1 := by omega
      have HR : Hid (wr.rowIs w.heap.size 36 (n + 1) (stK z k)) := hrow
      clear hrow h0 hc
      go_wp2_with fail
      go_roundw
      case rel =>
        exact ⟨k + 1, by omega, by go_num, (HR.out.set k _).congr fun j _ => stK_set z k j, hbel.setCell (Nat.le_refl _) _, by simpa using hsz⟩
      case measure => simp [intOf]; omega
    · have hkn : k = n := by omega
      subst hkn
      have hps := HP.out
      clear h0
      go_wp2_with fail
      have hb2 := (pin_below wr al cl cs).alloc (by simp; omega) (.cells #[.int .i64 (p : Int)] 3)
      have ht : wr.cell? ⟨w.heap.size, p, none⟩ = some (.int .i32 v) := by rw [hrow.cell (by omega), HVS.out]
      have hPin := (pin_mk wr w.heap.size (k + 1) p al cl cs v ht (by omega) (by omega) ⟨q3, q4⟩ ⟨q5, q6⟩ ⟨q7, q8⟩ ⟨vb1, vb2⟩).alloc (.cells #[.int .i64 (p : Int)] 3)
      have hVS := valueSpan_kept _ _ _ _ _ _ _ _ (wr.heap.size + 1 + 1 + 1 + 1 + 1 + 1) _ _ _ _ _ _ hPin (World.cell?_alloc_at _ _ _ _ (by simp))
      rw [HR0.out] at hVS
      refine hVS.mono ?_
      clear hVS
      rintro e w2 ⟨rfl, hb3⟩
      unfold spanV
      have HB : Hid (Below w.heap.size w w2) := (hbel.trans (hb2.mono (by omega))).trans (hb3.mono (by simp; omega))
      have hs3 : w.heap.size ≤ w2.heap.size := by have := HB.out.size; omega
      have tc : w2.cell? ⟨w.heap.size, p, none⟩ = some (.int .i32 v) := (hb3.cell (by simp; omega)).trans hPin.t
      have hs4 : w.heap.size < w2.heap.size := World.block_lt_of_cell? w2 _ tc
      have hpk : (p : Int) < (k : Int) + 1 := by omega
      clear hb2 hb3 hbel hPin hrow ht
      go_wp2_with fail
      go_ret
      exact ⟨rfl, HB.out.alloc hs3 _⟩
end Go.Proofs.YbulkpfsDoor
