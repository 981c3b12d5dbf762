/- *latestFirst represents a row of times: Len, Less, Swap. -/
import Derived.Test.YbulkpecEq
import Derived.Test.YbulkpecSort
import Derived.BigRegion
set_option linter.unusedVariables false
namespace Go.Proofs.Ybulkpec
open Go.RowKit Go.Sort

/-- Behind w0 all is as it was there, but for the block blk and new ones. -/
structure Beside (blk : Nat) (w0 w : World) : Prop where
  os : w.os = w0.os
  tape : w.tape = w0.tape
  output : w.output = w0.output
  size : w0.heap.size ≤ w.heap.size
  block : ∀ b, b < w0.heap.size → b ≠ blk → w.heap[b]? = w0.heap[b]?

/-- The block blk holds the times d, three cells each. -/
def Row (w : World) (blk : Nat) (d : Array Int) : Prop := ∀ i, i < d.size →
  w.cell? ⟨blk, i * 3, none⟩ = some (.int .u64 (wallOf d[i]!)) ∧ w.cell? ⟨blk, i * 3 + 1, none⟩ = some (.int .i64 (extOf d[i]!)) ∧ w.cell? ⟨blk, i * 3 + 2, none⟩ = some (.pointer none) ∧
  w.frozen? ⟨blk, i * 3, none⟩ = false ∧ w.frozen? ⟨blk, i * 3 + 1, none⟩ = false ∧ w.frozen? ⟨blk, i * 3 + 2, none⟩ = false

theorem Row.of_block {w w' : World} {blk : Nat} {d : Array Int} (h : Row w blk d) (e : w'.heap[blk]? = w.heap[blk]?) : Row w' blk d := by
  intro i hi
  obtain ⟨a, b, c, f, g, k⟩ := h i hi
  exact ⟨(World.cell?_of_block (w := w) (a := ⟨blk, i * 3, none⟩) e).trans a, (World.cell?_of_block (w := w) (a := ⟨blk, i * 3 + 1, none⟩) e).trans b, (World.cell?_of_block (w := w) (a := ⟨blk, i * 3 + 2, none⟩) e).trans c,
    (World.frozen?_of_block (w := w) (a := ⟨blk, i * 3, none⟩) e).trans f, (World.frozen?_of_block (w := w) (a := ⟨blk, i * 3 + 1, none⟩) e).trans g, (World.frozen?_of_block (w := w) (a := ⟨blk, i * 3 + 2, none⟩) e).trans k⟩

/-- The relation that the sort keeps. -/
def RT (w0 : World) (blk N : Nat) (d : Array Int) (w : World) : Prop := Beside blk w0 w ∧ Row w blk d ∧ d.size = N

theorem RT.below {w0 : World} {blk N : Nat} {d : Array Int} {w w' : World} (h : RT w0 blk N d w) (hb : blk < w0.heap.size) (k : Below w.heap.size w w') : RT w0 blk N d w' := by
  obtain ⟨⟨o, t, u, s, b⟩, r, e⟩ := h
  refine ⟨⟨k.os.trans o, k.tape.trans t, k.output.trans u, Nat.le_trans s k.size, fun b' h1 h2 => (k.block b' (by omega)).trans (b b' h1 h2)⟩, r.of_block (k.block blk (by omega)), e⟩

theorem Keep.of_below {base : Nat} {w w' : World} (k : Below w.heap.size w w') : Keep base w w' := ⟨k.size, fun b _ h => k.block b h⟩

theorem Below.undrew {B : Nat} {w w' : World} (h : Below B w.drew w') : Below B w w' := ⟨h.os, h.tape, h.output, h.size, h.block⟩

theorem keepCell {w w' : World} {a : Addr} {v : Value} (h : Below w.heap.size w w') (hc : w.cell? a = some v) : w'.cell? a = some v := by
  have hl : a.block < w.heap.size := by
    by_cases hl : a.block < w.heap.size
    · exact hl
    · unfold World.cell? at hc
      rw [Array.getElem?_eq_none (Nat.le_of_not_lt hl)] at hc
      cases hc
  rw [h.cell hl]; exact hc

set_option maxHeartbeats 1000000 in
theorem less_any (w0 : World) (nb blk N cap : Nat) (hN : N ≤ 65536) (hnb : nb < w0.heap.size) (hblk : blk < w0.heap.size) (hne : nb ≠ blk) (hh : w0.cell? ⟨nb, 36, none⟩ = some (.slice (some ⟨blk, 0, none⟩) N cap))
    (d : Array Int) (w : World) (h : RT w0 blk N d w) (i j : Nat) (hi : i < N) (hj : j < N) :
    Calls Yba.prog 66 #[.pointer (some ⟨nb, 36, none⟩), .int .i64 i, .int .i64 j] w fun e w' => e = .returned (.bool (gt d[i]! d[j]!)) ∧ RT w0 blk N d w' ∧ Keep w0.heap.size w w' := by
  have hd : d.size = N := h.2.2
  have h0 : w.cell? ⟨nb, 36, none⟩ = some (.slice (some ⟨blk, 0, none⟩) N cap) := (World.cell?_of_block (w := w0) (a := ⟨nb, 36, none⟩) (h.1.block nb hnb hne)).trans hh
  obtain ⟨i0, i1, i2, _, _, _⟩ := h.2.1 i (by omega)
  obtain ⟨j0, j1, j2, _, _, _⟩ := h.2.1 j (by omega)
  have ha : Hid (∀ w, Calls Yba.prog 68 #[T d[i]!, T d[j]!] w fun e w' => e = .returned (.bool (decide (d[j]! < d[i]!))) ∧ Below w.heap.size w w') := fun w => after_any _ _ w
  have HG : Hid (gt d[i]! d[j]! = decide (d[j]! < d[i]!)) := rfl
  have HR : Hid (RT w0 blk N d w) := h
  rw [HG.out]
  unfold T at ha
  clear h hh hd HG
  have hii : (i : Int) < (N : Int) := by omega
  have hjj : (j : Int) < (N : Int) := by omega
  generalize decide (d[j]! < d[i]!) = res at *
  generalize wallOf d[i]! = x at *
  generalize extOf d[i]! = y at *
  generalize wallOf d[j]! = z at *
  generalize extOf d[j]! = u at *
  go_enter Yba.func66, Yba.ntmps66
  go_wp2_with fail
  go_region_held3 (fun w' => w'.cell? ⟨nb, 36, none⟩ = some (.slice (some ⟨blk, 0, none⟩) N cap) ∧ w'.cell? ⟨blk, i * 3, none⟩ = some (.int .u64 x) ∧ w'.cell? ⟨blk, i * 3 + 1, none⟩ = some (.int .i64 y) ∧ w'.cell? ⟨blk, i * 3 + 2, none⟩ = some (.pointer none) ∧ w'.cell? ⟨blk, j * 3, none⟩ = some (.int .u64 z) ∧ w'.cell? ⟨blk, j * 3 + 1, none⟩ = some (.int .i64 u) ∧ w'.cell? ⟨blk, j * 3 + 2, none⟩ = some (.pointer none)) (go_keep) ((go_at_call 68; refine (ha.out _).mono ?_; rintro e w1 ⟨rfl, hb1⟩; have g0 := keepCell hb1 h0; have g1 := keepCell hb1 i0; have g2 := keepCell hb1 i1; have g3 := keepCell hb1 i2; have g4 := keepCell hb1 j0; have g5 := keepCell hb1 j1; have g6 := keepCell hb1 j2; have HB : Hid _ := hb1; clear hb1))
  go_wp2_with fail
  go_ret
  have hk : Below w.heap.size w w1 := Below.undrew HB.out
  exact ⟨rfl, HR.out.below hblk hk, Keep.of_below hk⟩

set_option maxHeartbeats 1000000 in
theorem len_time (w0 : World) (nb blk N cap : Nat) (hN : N ≤ 65536) (hnb : nb < w0.heap.size) (hne : nb ≠ blk) (hh : w0.cell? ⟨nb, 36, none⟩ = some (.slice (some ⟨blk, 0, none⟩) N cap))
    (d : Array Int) (w : World) (h : RT w0 blk N d w) :
    Calls Yba.prog 65 #[.pointer (some ⟨nb, 36, none⟩)] w fun e w' => e = .returned (.int .i64 N) ∧ RT w0 blk N d w' := by
  have h0 : w.cell? ⟨nb, 36, none⟩ = some (.slice (some ⟨blk, 0, none⟩) N cap) := (World.cell?_of_block (w := w0) (a := ⟨nb, 36, none⟩) (h.1.block nb hnb hne)).trans hh
  have HR : Hid (RT w0 blk N d w) := h
  clear h
  go_enter Yba.func65, Yba.ntmps65
  go_wp2_with fail
  go_ret
  exact ⟨rfl, HR.out⟩

/-- A time stored at place i. -/
def set3 (w : World) (blk i : Nat) (c : Int) : World :=
  ((w.setCell ⟨blk, i * 3, none⟩ (.int .u64 (wallOf c))).setCell ⟨blk, i * 3 + 1, none⟩ (.int .i64 (extOf c))).setCell ⟨blk, i * 3 + 2, none⟩ (.pointer none)

theorem set3_block (w : World) (blk i : Nat) (c : Int) (b : Nat) (h : b ≠ blk) : (set3 w blk i c).heap[b]? = w.heap[b]? := by
  unfold set3
  rw [Below.heap_setCell _ _ _ _ h, Below.heap_setCell _ _ _ _ h, Below.heap_setCell _ _ _ _ h]

theorem set3_size (w : World) (blk i : Nat) (c : Int) : (set3 w blk i c).heap.size = w.heap.size := by simp [set3]

theorem Beside.set3 {blk : Nat} {w0 w : World} (h : Beside blk w0 w) (i : Nat) (c : Int) : Beside blk w0 (set3 w blk i c) :=
  ⟨h.os, h.tape, h.output, by rw [set3_size]; exact h.size, fun b h1 h2 => (set3_block w blk i c b h2).trans (h.block b h1 h2)⟩

theorem ne_off {b o o' : Nat} (h : o ≠ o') : (⟨b, o, none⟩ : Addr) ≠ ⟨b, o', none⟩ := fun e => h (by injection e)

theorem Row.set3 {w : World} {blk : Nat} {d : Array Int} (h : Row w blk d) (i : Nat) (hi : i < d.size) (c : Int) : Row (set3 w blk i c) blk (d.setIfInBounds i c) := by
  intro k hk
  rw [Array.size_setIfInBounds] at hk
  obtain ⟨a0, a1, a2, f0, f1, f2⟩ := h k hk
  unfold Go.Proofs.Ybulkpec.set3
  refine ⟨?_, ?_, ?_, by simpa using f0, by simpa using f1, by simpa using f2⟩
  · by_cases e : k = i
    · subst e
      have hg : (d.setIfInBounds k c)[k]! = c := by simp [hk]
      rw [hg, World.cell?_setCell_other _ _ _ _ (ne_off (by omega)), World.cell?_setCell_other _ _ _ _ (ne_off (by omega)), World.cell?_setCell_same _ _ _ a0]
    · have hg : (d.setIfInBounds i c)[k]! = d[k]! := by simp [Ne.symm e, hk]
      rw [hg, World.cell?_setCell_other _ _ _ _ (ne_off (by omega)), World.cell?_setCell_other _ _ _ _ (ne_off (by omega)), World.cell?_setCell_other _ _ _ _ (ne_off (by omega))]; exact a0
  · by_cases e : k = i
    · subst e
      have hg : (d.setIfInBounds k c)[k]! = c := by simp [hk]
      rw [hg, World.cell?_setCell_other _ _ _ _ (ne_off (by omega)), World.cell?_setCell_same _ _ _ (by rw [World.cell?_setCell_other _ _ _ _ (ne_off (by omega))]; exact a1)]
    · have hg : (d.setIfInBounds i c)[k]! = d[k]! := by simp [Ne.symm e, hk]
      rw [hg, World.cell?_setCell_other _ _ _ _ (ne_off (by omega)), World.cell?_setCell_other _ _ _ _ (ne_off (by omega)), World.cell?_setCell_other _ _ _ _ (ne_off (by omega))]; exact a1
  · by_cases e : k = i
    · subst e
      rw [World.cell?_setCell_same _ _ _ (by rw [World.cell?_setCell_other _ _ _ _ (ne_off (by omega)), World.cell?_setCell_other _ _ _ _ (ne_off (by omega))]; exact a2)]
    · rw [World.cell?_setCell_other _ _ _ _ (ne_off (by omega)), World.cell?_setCell_other _ _ _ _ (ne_off (by omega)), World.cell?_setCell_other _ _ _ _ (ne_off (by omega))]; exact a2

theorem heap_drew (w : World) : w.drew.heap = w.heap := rfl
theorem Row.drew {w : World} {blk : Nat} {d : Array Int} (h : Row w blk d) : Row w.drew blk d := h.of_block rfl
theorem Beside.drew {blk : Nat} {w0 w : World} (h : Beside blk w0 w) : Beside blk w0 w.drew := ⟨h.os, h.tape, h.output, h.size, h.block⟩

theorem RT.swap {w0 : World} {blk N : Nat} {d : Array Int} {w : World} (h : RT w0 blk N d w) (hblk : blk < w0.heap.size) (i j : Nat) (hi : i < N) (hj : j < N) :
    RT w0 blk N (swp d i j) (set3 (set3 w blk i d[j]!) blk j d[i]!).drew ∧ Keep w0.heap.size w (set3 (set3 w blk i d[j]!) blk j d[i]!).drew := by
  obtain ⟨b, r, e⟩ := h
  refine ⟨⟨?_, ?_, by rw [size_swp]; exact e⟩, ?_, ?_⟩
  · exact ((b.set3 i d[j]!).set3 j d[i]!).drew
  · exact ((r.set3 i (by omega) d[j]!).set3 j (by rw [Array.size_setIfInBounds]; omega) d[i]!).drew
  · rw [heap_drew, set3_size, set3_size]; exact Nat.le_refl _
  · intro k h1 h2
    rw [heap_drew, set3_block _ _ _ _ _ (by omega), set3_block _ _ _ _ _ (by omega)]

set_option maxHeartbeats 1000000 in
theorem swap_any (w0 : World) (nb blk N cap : Nat) (hN : N ≤ 65536) (hnb : nb < w0.heap.size) (hblk : blk < w0.heap.size) (hne : nb ≠ blk) (hh : w0.cell? ⟨nb, 36, none⟩ = some (.slice (some ⟨blk, 0, none⟩) N cap))
    (d : Array Int) (w : World) (h : RT w0 blk N d w) (i j : Nat) (hi : i < N) (hj : j < N) :
    Calls Yba.prog 67 #[.pointer (some ⟨nb, 36, none⟩), .int .i64 i, .int .i64 j] w fun e w' => e = .returned (.tuple #[]) ∧ RT w0 blk N (swp d i j) w' ∧ Keep w0.heap.size w w' := by
  have hd : d.size = N := h.2.2
  have h0 : w.cell? ⟨nb, 36, none⟩ = some (.slice (some ⟨blk, 0, none⟩) N cap) := (World.cell?_of_block (w := w0) (a := ⟨nb, 36, none⟩) (h.1.block nb hnb hne)).trans hh
  obtain ⟨i0, i1, i2, fi0, fi1, fi2⟩ := h.2.1 i (by omega)
  obtain ⟨j0, j1, j2, fj0, fj1, fj2⟩ := h.2.1 j (by omega)
  have HR : Hid (RT w0 blk N d w) := h
  clear h hh hd
  have hii : (i : Int) < (N : Int) := by omega
  have hjj : (j : Int) < (N : Int) := by omega
  generalize hx : wallOf d[i]! = x at *
  generalize hy : extOf d[i]! = y at *
  generalize hz : wallOf d[j]! = z at *
  generalize hu : extOf d[j]! = u at *
  by_cases hij : i = j
  · subst hij
    go_enter Yba.func67, Yba.ntmps67
    go_wp2_with fail
    go_region
    go_wp2_with fail
    go_end0
    have hk := RT.swap HR.out hblk _ _ hi hj
    unfold set3 at hk
    simp only [hx, hy] at hk
    exact ⟨rfl, hk⟩
  · have n1 : ¬ i * 3 = j * 3 := by omega
    have n2 : ¬ i * 3 + 1 = j * 3 := by omega
    have n3 : ¬ i * 3 + 2 = j * 3 := by omega
    have n4 : ¬ i * 3 = j * 3 + 1 := by omega
    have n5 : ¬ i * 3 + 2 = j * 3 + 1 := by omega
    have n6 : ¬ i * 3 = j * 3 + 2 := by omega
    have n7 : ¬ i * 3 + 1 = j * 3 + 2 := by omega
    go_enter Yba.func67, Yba.ntmps67
    go_wp2_with fail
    go_region
    go_wp2_with fail
    go_end0
    have hk := RT.swap HR.out hblk _ _ hi hj
    unfold set3 at hk
    simp only [hx, hy, hz, hu] at hk
    exact ⟨rfl, hk⟩

theorem rep_times (w0 : World) (nb blk N cap : Nat) (hN : N ≤ 65536) (hnb : nb < w0.heap.size) (hblk : blk < w0.heap.size) (hne : nb ≠ blk) (hh : w0.cell? ⟨nb, 36, none⟩ = some (.slice (some ⟨blk, 0, none⟩) N cap)) :
    Rep (RT w0 blk N) w0.heap.size (some ⟨nb, 36, none⟩) N where
  drewN := fun {d w} k h => ⟨⟨h.1.os, h.1.tape, h.1.output, h.1.size, h.1.block⟩, h.2.1.of_block rfl, h.2.2⟩
  alloc := fun {d w} o h => h.below hblk ((Below.refl _ _).alloc (Nat.le_refl _) _)
  setNew := fun {d w a} v h ha => by
    obtain ⟨b, r, e⟩ := h
    refine ⟨⟨b.os, b.tape, b.output, by simpa using b.size, fun k h1 h2 => ?_⟩, r.of_block ?_, e⟩
    · rw [Below.heap_setCell _ _ _ _ (by omega)]; exact b.block k h1 h2
    · rw [Below.heap_setCell _ _ _ _ (by omega)]
  base_le := fun {d w} h => h.1.size
  len := fun {d w} h => len_time w0 nb blk N cap hN hnb hne hh d w h
  less := fun {d w} h hd i j hi hj => less_any w0 nb blk N cap hN hnb hblk hne hh d w h i j hi hj
  swap := fun {d w} h hd i j hi hj => swap_any w0 nb blk N cap hN hnb hblk hne hh d w h i j hi hj
end Go.Proofs.Ybulkpec
