/- LawS0785APinned: the walk. -/
import Derived.Test.YbulkpfsDoorPinMk
import Derived.Deep.OwnRows
set_option linter.unusedVariables false
namespace Go.Proofs.YbulkpfsDoor
open Go.RowKit Go.Deep

theorem Ybad.info36 : (Ybad.prog.info? 36).map (fun i => (i.zero, i.size, i.bytes)) = some (some (.int .i32 0), 1, 4) := by kernel_rfl

/-- st behind k rounds. -/
def stK (z : Nat → Int) (k : Nat) (j : Nat) : Value := .int .i32 (if j < k then z j else 0)

theorem stK_set (z : Nat → Int) (k j : Nat) : (if j = k then Value.int .i32 (z k) else stK z k j) = stK z (k + 1) j := by
  unfold stK
  by_cases h : j = k
  · subst h; rw [if_pos rfl, if_pos (by omega)]
  · rw [if_neg h]
    by_cases h2 : j < k
    · rw [if_pos h2, if_pos (by omega)]
    · rw [if_neg h2, if_neg (by omega)]

set_option maxRecDepth 100000 in
set_option maxHeartbeats 1000000 in
theorem pinned_false (x0 : Option Addr) (n c0 : Nat) (z : Nat → Int) (ps al cl cs : Int) (w : World) (hn : n ≤ 1024) (p : Nat) (hps : ps % ((n : Int) + 1) = (p : Int)) (hps0 : 0 ≤ ps ∧ ps ≤ 255) (hal : -128 ≤ al ∧ al ≤ 127) (hcl : -128 ≤ cl ∧ cl ≤ 127) (hcs : 0 ≤ cs ∧ cs ≤ 255)
    (hp : p ≤ n) (hz : ∀ i, -2147483648 ≤ z i ∧ z i ≤ 2147483647)
    (h0 : ∀ i, i < n → ∃ b0 o0, x0 = some ⟨b0, o0, none⟩ ∧ b0 < w.heap.size ∧ w.cell? ⟨b0, o0 + i, none⟩ = some (.int .i32 (z i))) :
    Calls Ybad.prog 4 #[.slice x0 n c0, .int .u8 ps, .bool false, .int .i8 al, .int .i8 cl, .int .u8 cs] w fun e w' => e = .returned (.bool true) ∧ Below w.heap.size w w' := by
  have hl1 : ¬ (1024 : Int) < (n : Int) := by omega
  have hmk := run_make_row' (P := Ybad.prog) 24 36 (.int .i32 0) 4 Ybad.underlying24 Ybad.info36 rfl .i64 .i64 (n + 1) (by omega) (by omega)
  have ec : ((n + 1 : Nat) : Int) = (n : Int) + 1 := by omega
  rw [ec] at hmk
  obtain ⟨q1, q2⟩ := hps0; obtain ⟨q3, q4⟩ := hal; obtain ⟨q5, q6⟩ := hcl; obtain ⟨q7, q8⟩ := hcs
  have HP : Hid (ps % ((n : Int) + 1) = (p : Int)) := hps
  clear hps ec
  go_enter Ybad.func4, Ybad.ntmps4
  go_wp2_with fail
  clear hmk
  go_loopw [36] (fun i wr => ∃ k : Nat, k ≤ n ∧ i = .int .i64 k ∧ wr.rowIs w.heap.size 36 (n + 1) (stK z k) ∧ Below w.heap.size w wr ∧ w.heap.size < wr.heap.size) (fun i _ => n - (intOf i).toNat)
  case atStart =>
    refine ⟨0, Nat.zero_le _, rfl, (World.rowIs_made w (.int .i32 0) (n + 1) 36).congr fun j _ => rfl, (Below.refl _ _).alloc (Nat.le_refl _) _, by simp⟩
  case round =>
    obtain ⟨k, hk, rfl, hrow, hbel, hsz⟩ := hrel
    by_cases hkl : k < n
    · obtain ⟨b0, o0, rfl, hb0, hc⟩ := h0 k hkl
      have e0 : wr.cell? ⟨b0, o0 + k, none⟩ = some (.int .i32 (z k)) := (hbel.cell (by exact hb0)).trans hc
      have e1 := hrow.cell (i := k) (by omega)
      have e2 := hrow.frozen k
      have hkn : (k : Int) < (n : Int) + 1 := by omega
      have HR : Hid (wr.rowIs w.heap.size 36 (n + 1) (stK z k)) := hrow
      clear hrow h0 hc
      go_wp2_with fail
      go_roundw
      case rel =>
        exact ⟨k + 1, by omega, by go_num, (HR.out.set k _).congr fun j _ => stK_set z k j, hbel.setCell (Nat.le_refl _) _, by simpa using hsz⟩
      case measure => simp [intOf]; omega
    · have hkn : k = n := by omega
      subst hkn
      have hps := HP.out
      clear h0
      go_wp2_with fail
      have hb2 := pin_below wr al cl cs
      have hPin := pin_mk wr w.heap.size (k + 1) p al cl cs (if p < k then z p else 0) (hrow.cell (by omega)) (by omega) (by omega) ⟨q3, q4⟩ ⟨q5, q6⟩ ⟨q7, q8⟩ (by split; exact hz p; omega)
      refine (valueSpan_unkept _ _ _ _ _ _ _ _ _ _ _ _ _ (by omega) (by omega) _ hPin).mono ?_
      rintro e w2 ⟨rfl, hb3⟩
      unfold spanV
      clear hPin hps hrow
      have HB : Hid (Below w.heap.size w w2) := (hbel.trans (hb2.mono (by omega))).trans (hb3.mono (by simp; omega))
      have hs3 : w.heap.size ≤ w2.heap.size := by have := HB.out.size; omega
      clear hb2 hb3 hbel
      go_wp2_with fail
      go_ret
      exact ⟨rfl, HB.out.alloc hs3 _⟩
end Go.Proofs.YbulkpfsDoor
