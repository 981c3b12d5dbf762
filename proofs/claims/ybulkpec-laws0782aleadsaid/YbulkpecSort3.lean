/- sort.order2, sort.median, sort.medianAdjacent, sort.choosePivot over *latestFirst. -/
import Derived.Test.YbulkpecSort2
import Derived.Sort.LotD1
import Derived.Sort.LotD4
import Derived.Sort.Walk11
import Derived.Deep.RegionWith
set_option linter.unusedVariables false
namespace Go.Proofs.Ybulkpec
open Go.RowKit Go.Sort

theorem Keep.cell {base : Nat} {w w' : World} (h : Keep base w w') {a : Addr} {v : Value} (hb : base ≤ a.block) (hc : w.cell? a = some v) : w'.cell? a = some v :=
  (World.cell?_of_block (w := w) (a := a) (h.2 a.block hb (World.block_lt_of_cell? w a hc))).trans hc
theorem Keep.frozen {base : Nat} {w w' : World} (h : Keep base w w') {a : Addr} {v : Value} (hb : base ≤ a.block) (hc : w.cell? a = some v) (hf : w.frozen? a = false) : w'.frozen? a = false :=
  (World.frozen?_of_block (w := w) (a := a) (h.2 a.block hb (World.block_lt_of_cell? w a hc))).trans hf

/-- The row, and a counter of its own at block cb that stands at s. -/
structure Cnt (R : Array Int → World → Prop) (base cb : Nat) (d : Array Int) (s : Nat) (w : World) : Prop where
  row : R d w
  new : base ≤ cb
  cell : w.cell? ⟨cb, 0, none⟩ = some (.int .i64 s)
  frozen : w.frozen? ⟨cb, 0, none⟩ = false

set_option maxHeartbeats 2000000 in
set_option maxRecDepth 100000 in
theorem order2_any {R : Array Int → World → Prop} {base N : Nat} {p : Option Addr} (H : Rep R base p N) (a b cb s : Nat) (d : Array Int) (hd : d.size = N) (w : World) (h : Cnt R base cb d s w) (ha : a < N) (hb : b < N) (hs : s ≤ 1000) (hN : N ≤ 1000000) :
    Calls Yba.prog 39 #[.iface 61 (.pointer p), .int .i64 a, .int .i64 b, .pointer (some ⟨cb, 0, none⟩)] w fun e w' => e = .returned (.tuple #[.int .i64 (order2 gt d a b s).1, .int .i64 (order2 gt d a b s).2.1]) ∧ Cnt R base cb d (order2 gt d a b s).2.2 w' := by
  have mL := reach_less p
  have HH : Hid (Rep R base p N) := H
  have HC : Hid (Cnt R base cb d s w) := h
  clear H h
  go_enter Yba.func39, Yba.ntmps39
  cases hlv : gt d[b]! d[a]! with
  | true =>
    have e2 : order2 gt d a b s = (b, a, s + 1) := by simp [order2, hlv]
    rw [e2]
    go_wp2_with (show Calls Yba.prog 66 _ _ _; refine (HH.out.lessI HC.out.row hd b a _ _ rfl rfl hb ha true hlv).mono ?_; rintro e w1 ⟨rfl, hR1, hk1⟩; have c1 := hk1.cell (a := ⟨cb, 0, none⟩) HC.out.new HC.out.cell; have f1 := hk1.frozen (a := ⟨cb, 0, none⟩) HC.out.new HC.out.cell HC.out.frozen; clear hk1)
    go_ret2
    exact ⟨rfl, HH.out.setNew _ hR1 HC.out.new, HC.out.new, by rw [World.cell?_setCell_same _ _ _ c1]; simp, by simpa using f1⟩
  | false =>
    have e2 : order2 gt d a b s = (a, b, s) := by simp [order2, hlv]
    rw [e2]
    go_wp2_with (show Calls Yba.prog 66 _ _ _; refine (HH.out.lessI HC.out.row hd b a _ _ rfl rfl hb ha false hlv).mono ?_; rintro e w1 ⟨rfl, hR1, hk1⟩)
    have c1 := hk1.cell (a := ⟨cb, 0, none⟩) HC.out.new HC.out.cell
    have f1 := hk1.frozen (a := ⟨cb, 0, none⟩) HC.out.new HC.out.cell HC.out.frozen
    go_ret2
    exact ⟨rfl, hR1, HC.out.new, c1, f1⟩

theorem order2_in {d : Array Int} {N : Nat} (s : Nat) {a b : Nat} (ha : a < N) (hb : b < N) : (order2 gt d a b s).1 < N ∧ (order2 gt d a b s).2.1 < N := by
  rcases order2_mem gt d a b s with ⟨h1, h2⟩ | ⟨h1, h2⟩ <;> rw [h1, h2] <;> exact ⟨by assumption, by assumption⟩

set_option maxHeartbeats 2000000 in
set_option maxRecDepth 100000 in
theorem median_any {R : Array Int → World → Prop} {base N : Nat} {p : Option Addr} (H : Rep R base p N) (a b c cb s : Nat) (d : Array Int) (hd : d.size = N) (w : World) (h : Cnt R base cb d s w) (ha : a < N) (hb : b < N) (hc : c < N) (hs : s ≤ 900) (hN : N ≤ 1000000) :
    Calls Yba.prog 38 #[.iface 61 (.pointer p), .int .i64 a, .int .i64 b, .int .i64 c, .pointer (some ⟨cb, 0, none⟩)] w fun e w' => e = .returned (.int .i64 (median gt d a b c s).1) ∧ Cnt R base cb d (median gt d a b c s).2 w' := by
  obtain ⟨⟨x1, y1, s1⟩, e1⟩ : ∃ r, order2 gt d a b s = r := ⟨_, rfl⟩
  obtain ⟨⟨x2, y2, s2⟩, e2⟩ : ∃ r, order2 gt d y1 c s1 = r := ⟨_, rfl⟩
  obtain ⟨⟨x3, y3, s3⟩, e3⟩ : ∃ r, order2 gt d x1 x2 s2 = r := ⟨_, rfl⟩
  have em : median gt d a b c s = (y3, s3) := by unfold median; simp only [e1, e2, e3]
  rw [em]
  have l1 := order2_in (d := d) s ha hb; rw [e1] at l1
  have n1 := order2_count gt d a b s; rw [e1] at n1
  have l2 := order2_in (d := d) s1 l1.2 hc; rw [e2] at l2
  have n2 := order2_count gt d y1 c s1; rw [e2] at n2
  simp only [] at l1 l2 n1 n2
  have h1 := order2_any H a b cb s d hd w h ha hb (by omega) hN
  have H2 : Hid (∀ w1, Cnt R base cb d s1 w1 → Calls Yba.prog 39 #[.iface 61 (.pointer p), .int .i64 y1, .int .i64 c, .pointer (some ⟨cb, 0, none⟩)] w1 fun e w' => e = .returned (.tuple #[.int .i64 x2, .int .i64 y2]) ∧ Cnt R base cb d s2 w') := fun w1 hw1 => by
    have := order2_any H y1 c cb s1 d hd w1 hw1 l1.2 hc (by omega) hN
    rw [e2] at this; exact this
  have H3 : Hid (∀ w1, Cnt R base cb d s2 w1 → Calls Yba.prog 39 #[.iface 61 (.pointer p), .int .i64 x1, .int .i64 x2, .pointer (some ⟨cb, 0, none⟩)] w1 fun e w' => e = .returned (.tuple #[.int .i64 x3, .int .i64 y3]) ∧ Cnt R base cb d s3 w') := fun w1 hw1 => by
    have := order2_any H x1 x2 cb s2 d hd w1 hw1 l1.1 l2.1 (by omega) hN
    rw [e3] at this; exact this
  rw [e1] at h1
  clear H h e1 e2 e3 em
  go_enter Yba.func38, Yba.ntmps38
  go_wp2_with (go_at_call_of 39 (Value.int .i64 (b : Int)); refine h1.mono ?_; rintro e w1 ⟨rfl, hC1⟩)
  go_wp2_with (go_at_call_of 39 (Value.int .i64 (c : Int)); refine (H2.out w1 hC1).mono ?_; rintro e w2 ⟨rfl, hC2⟩)
  go_wp2_with (go_at_call_of 39 (Value.int .i64 (x2 : Int)); refine (H3.out w2 hC2).mono ?_; rintro e w3 ⟨rfl, hC3⟩)
  go_ret
  exact ⟨rfl, hC3⟩

set_option maxHeartbeats 2000000 in
set_option maxRecDepth 100000 in
theorem medianAdjacent_any {R : Array Int → World → Prop} {base N : Nat} {p : Option Addr} (H : Rep R base p N) (a cb s : Nat) (d : Array Int) (hd : d.size = N) (w : World) (h : Cnt R base cb d s w) (ha : 1 ≤ a) (ha2 : a + 1 < N) (hs : s ≤ 900) (hN : N ≤ 1000000) :
    Calls Yba.prog 37 #[.iface 61 (.pointer p), .int .i64 a, .pointer (some ⟨cb, 0, none⟩)] w fun e w' => e = .returned (.int .i64 (medianAdjacent gt d a s).1) ∧ Cnt R base cb d (medianAdjacent gt d a s).2 w' := by
  have hm := median_any H (a - 1) a (a + 1) cb s d hd w h (by omega) (by omega) ha2 hs hN
  rw [show ((a - 1 : Nat) : Int) = (a : Int) - 1 by omega, show ((a + 1 : Nat) : Int) = (a : Int) + 1 by omega] at hm
  unfold medianAdjacent
  clear H h
  go_enter Yba.func37, Yba.ntmps37
  go_wp2_with (go_at_call 38; refine hm.mono ?_; rintro e w1 ⟨rfl, hC1⟩)
  go_ret
  exact ⟨rfl, hC1⟩
end Go.Proofs.Ybulkpec
