/- The law: what its walk carries. -/
import Derived.Test.YbulkpecLead
import Derived.Laws.CopyOwn
import Derived.Deep.OwnRows
import Derived.Laws.OwnMore
set_option linter.unusedVariables false
namespace Go.Proofs.Ybulkpec
open Go.RowKit Go.Maps

theorem Yba.info22 : (Yba.prog.info? 22).map (fun i => (i.zero, i.size, i.bytes)) = some (some (.int .u16 0), 1, 2) := by kernel_rfl
theorem Yba.info2 : (Yba.prog.info? 2).map (fun i => (i.zero, i.size, i.bytes)) = some (some (.int .i64 0), 1, 8) := by kernel_rfl

/-- Block b holds g 0, .., g (n - 1). -/
def Cells (w : World) (b n : Nat) (g : Nat → Value) : Prop := ∀ k, k < n → w.cell? ⟨b, k, none⟩ = some (g k) ∧ w.frozen? ⟨b, k, none⟩ = false

theorem Cells.of_block {w w' : World} {b n : Nat} {g : Nat → Value} (h : Cells w b n g) (e : w'.heap[b]? = w.heap[b]?) : Cells w' b n g := fun k hk =>
  ⟨(World.cell?_of_block (w := w) (a := ⟨b, k, none⟩) e).trans (h k hk).1, (World.frozen?_of_block (w := w) (a := ⟨b, k, none⟩) e).trans (h k hk).2⟩

theorem Cells.setCell {w : World} {b n : Nat} {g : Nat → Value} (h : Cells w b n g) (k : Nat) (v : Value) : Cells (w.setCell ⟨b, k, none⟩ v) b n (upd g k v) := by
  intro j hj
  refine ⟨?_, by simpa using (h j hj).2⟩
  by_cases e : j = k
  · subst e
    rw [World.cell?_setCell_same _ _ _ (h j hj).1, upd_same]
  · rw [World.cell?_setCell_other _ _ _ _ (ne_off (by omega)), upd_other _ _ _ _ e]; exact (h j hj).1

theorem Cells.congr {w : World} {b n : Nat} {g g' : Nat → Value} (h : Cells w b n g) (e : ∀ k, k < n → g' k = g k) : Cells w b n g' := fun k hk => by rw [e k hk]; exact h k hk

theorem Cells.of_heap {w : World} {b n : Nat} {cs : Array Value} {t : TypeId} {g : Nat → Value} (h : w.heap[b]? = some (.cells cs t (0, 0))) (hg : ∀ k, k < n → cs[k]? = some (g k)) : Cells w b n g := fun k hk => by
  constructor
  · simp only [World.cell?, h]
    simpa using hg k hk
  · simp [World.frozen?, h]

/-- A slice that came in. -/
def Src (w : World) (a : Option Addr) (n : Nat) (g : Nat → Value) : Prop := n = 0 ∨ ∃ b o, a = some ⟨b, o, none⟩ ∧ b < w.heap.size ∧ ∀ i, i < n → w.cell? ⟨b, o + i, none⟩ = some (g i)

/-- The argument's cells. -/
def pc (id : Int) (am : Option Addr) (M Mc : Nat) (ao : Option Addr) (N Nc : Nat) (term nowO campO leaseO hbO ltO : Int) (pv : Bool) : Nat → Value
  | 0 => .int .u16 id
  | 1 => .slice am M Mc
  | 2 => .slice ao N Nc
  | 3 => .int .u64 term
  | 4 => .int .i64 nowO
  | 5 => .int .i64 campO
  | 6 => .int .i64 leaseO
  | 7 => .int .i64 hbO
  | 8 => .int .i64 ltO
  | _ => .bool pv

/-- What stands once the first loop has run k rounds (k = N: behind it): the argument's box, members, vals (block H), the map (block H + 1). -/
structure Mid (w : World) (pcs : Nat → Value) (H m N k : Nat) (mem val : Nat → Int) (g : Nat → Int) (D : DataW Unit) (wr : World) : Prop where
  below : Below w.heap.size w wr
  box : Cells wr w.heap.size 10 pcs
  mems : Cells wr (w.heap.size + 1) m fun i => .int .u16 (mem i)
  vals : Cells wr H N fun i => .int .i64 (g i)
  done : ∀ i, i < k → g i = val i
  map : wr.ownsMap Yba.prog 22 timeElem (H + 1) k D
  filled : Filled D k val
  size : H + 2 ≤ wr.heap.size

theorem owns_block {w w' : World} {b n : Nat} {D : DataW Unit} (h : w.ownsMap Yba.prog 22 timeElem b n D) (e : w'.heap[b]? = w.heap[b]?) : w'.ownsMap Yba.prog 22 timeElem b n D := by
  obtain ⟨es, clock, hb, F, hs, hD⟩ := h
  exact ⟨es, clock, e.trans hb, F, hs, hD⟩

theorem Mid.kept {w : World} {pcs : Nat → Value} {H m N k : Nat} {mem val g : Nat → Int} {D : DataW Unit} {wr wr' : World} (h : Mid w pcs H m N k mem val g D wr) (hH : w.heap.size + 2 ≤ H) (e : Below (H + 2) wr wr') : Mid w pcs H m N k mem val g D wr' where
  below := h.below.trans (e.mono (by omega))
  box := h.box.of_block (e.block _ (by omega))
  mems := h.mems.of_block (e.block _ (by omega))
  vals := h.vals.of_block (e.block _ (by omega))
  done := h.done
  map := owns_block h.map (e.block _ (by omega))
  filled := h.filled
  size := Nat.le_trans h.size e.size

/-- The cells of the node that the law builds. -/
def fN (id : Int) (bm m : Nat) (hb lt term : Int) (r : Option Nat) (camp lease : Int) (mb : Nat) : Nat → Value
  | 0 => .int .u16 id
  | 1 => .slice (some ⟨bm, 0, none⟩) m m
  | 2 => .int .i64 hb
  | 3 => .int .i64 lt
  | 4 => .pointer none
  | 5 => .int .u64 term
  | 6 => .int .u16 0
  | 7 => .int .u8 0
  | 8 => .int .u16 0
  | 9 => .int .u64 0
  | 10 => .int .i64 0
  | 11 => .pointer none
  | 12 => .map r
  | 13 => .int .u64 (wallOf camp)
  | 14 => .int .i64 (extOf camp)
  | 15 => .pointer none
  | 16 => .map (some mb)
  | 17 => .bool false
  | 18 => .int .u64 (wallOf lease)
  | 19 => .int .i64 (extOf lease)
  | 20 => .pointer none
  | 21 => .int .u16 0
  | 22 => .int .u64 0
  | 23 => .int .i64 0
  | 24 => .pointer none
  | 25 => .int .u16 0
  | 26 => .int .u64 0
  | 27 => .int .i64 0
  | 28 => .pointer none
  | 29 => .int .u64 0
  | 30 => .int .u8 0
  | 31 => .int .u16 0
  | 32 => .int .u64 0
  | 33 => .int .i64 0
  | 34 => .pointer none
  | 35 => .slice none 0 0
  | _ => .slice none 0 0

def updI (g : Nat → Int) (k : Nat) (c : Int) : Nat → Int := fun j => if j = k then c else g j

theorem Mid.round {w : World} {pcs : Nat → Value} {H m N k : Nat} {mem val g : Nat → Int} {D : DataW Unit} {wr w3 w4 : World} {c : Int} (h : Mid w pcs H m N k mem val g D wr) (hH : w.heap.size + 2 ≤ H) (hc : c = val k) (hk : k < N)
    (hb : Below (wr.setCell ⟨H, k, none⟩ (.int .i64 c)).heap.size (wr.setCell ⟨H, k, none⟩ (.int .i64 c)) w3)
    (hown : w4.ownsMap Yba.prog 22 timeElem (H + 1) (k + 1) (D.put (key k) (.lit (.int .i64 c)))) (hg : w3.grownBy w4 (some (H + 1))) :
    Mid w pcs H m N (k + 1) mem val (updI g k c) (D.put (key k) (.lit (.int .i64 c))) w4 := by
  have hs := h.size
  simp only [World.size_setCell] at hb
  have hs3 := hb.size
  simp only [World.size_setCell] at hs3
  have hb4 : ∀ j, j < wr.heap.size → j ≠ H → j ≠ H + 1 → w4.heap[j]? = wr.heap[j]? := fun j h1 h2 h3 =>
    ((hg.block j (by omega) (fun e => h3 (by injection e))).trans (hb.block j h1)).trans (Below.heap_setCell _ _ _ _ h2)
  have hbH : w4.heap[H]? = (wr.setCell ⟨H, k, none⟩ (.int .i64 c)).heap[H]? := (hg.block H (by omega) (fun e => by injection e; omega)).trans (hb.block H (by omega))
  refine ⟨?_, h.box.of_block (hb4 _ (by omega) (by omega) (by omega)), h.mems.of_block (hb4 _ (by omega) (by omega) (by omega)), ?_, ?_, hown, ?_, ?_⟩
  · have hw := h.below.size
    exact h.below.trans ⟨hg.os.trans hb.os, hg.tape.trans hb.tape, hg.output.trans hb.output, Nat.le_trans hs3 hg.size, fun j hj => hb4 j (by omega) (by omega) (by omega)⟩
  · refine ((h.vals.setCell k (.int .i64 c)).of_block hbH).congr fun j hj => ?_
    unfold updI upd
    by_cases e : j = k
    · simp [e]
    · simp [e]
  · intro i hi
    unfold updI
    by_cases e : i = k
    · rw [if_pos e, hc, e]
    · rw [if_neg e]; exact h.done i (by omega)
  · subst hc
    exact h.filled.step (hown.tidy law22) hown.isMap
  · have := hg.size
    omega

theorem copy_made (w : World) (A : Obj) (am : Option Addr) (M m Mc : Nat) (mem : Nat → Int) (hms : Src w am M fun i => .int .u16 (mem i)) (hm : m ≤ M) :
    ∃ w2, (Builtin.copy_ #[23, 23] 3 #[.slice (some ⟨w.heap.size + 1, 0, none⟩) m m, .slice am m Mc]).run Yba.prog ((w.alloc A).alloc (.cells (madeCells #[.int .u16 0] m) 22)) = .ok (.int .i64 (m : Nat)) w2 ∧
      Cells w2 (w.heap.size + 1) m (fun i => .int .u16 (mem i)) ∧ Below (w.heap.size + 1) (w.alloc A) w2 ∧ w.heap.size + 2 ≤ w2.heap.size := by
  have hb0 : Below (w.heap.size + 1) (w.alloc A) ((w.alloc A).alloc (.cells (madeCells #[.int .u16 0] m) 22)) := (Below.refl _ _).alloc (by simp) _
  by_cases h0 : m = 0
  · subst h0
    exact ⟨_, run_copy_none (P := Yba.prog) _ 23 23 3 22 _ am 0 0 0 Mc Yba.underlying23 (by kernel_rfl) (by simp), fun k hk => by omega, hb0, by simp⟩
  · rcases hms with h | ⟨b, o, rfl, hbl, hc⟩
    · omega
    have hg : ((w.alloc A).alloc (.cells (madeCells #[.int .u16 0] m) 22)).heap[w.heap.size + 1]? = some (.cells (madeCells #[.int .u16 0] m) 22 (0, 0)) := heap_alloc2_new w _ _
    have hlen : ((List.range m).map fun i => Value.int .u16 (mem i)).length = m := by simp
    have hrun := run_copy_row (P := Yba.prog) ((w.alloc A).alloc (.cells (madeCells #[.int .u16 0] m) 22)) 23 23 3 22 (w.heap.size + 1) 0 m m ⟨b, o, none⟩ m Mc (madeCells #[.int .u16 0] m) 22 ((List.range m).map fun i => .int .u16 (mem i)) Yba.underlying23 (by kernel_rfl) hg
      (by rw [hlen]; exact (Nat.min_self m).symm) (by
        intro j v hj
        rw [List.getElem?_map] at hj
        have hjm : j < m := by
          by_cases h : j < m
          · exact h
          · rw [List.getElem?_eq_none (by simp; omega)] at hj; simp at hj
        rw [List.getElem?_range hjm] at hj
        simp at hj
        subst hj
        have e : (⟨b, o, none⟩ : Addr).add j = ⟨b, o + j, none⟩ := by unfold Addr.add; split <;> simp_all
        rw [e]
        exact keepCell (((Below.refl _ w).alloc (Nat.le_refl _) _).alloc (by simp) _) (hc j (by omega))) (by rw [hlen, size_madeCells]; omega) (by
        intro v hv
        obtain ⟨i, _, rfl⟩ := List.mem_map.1 hv
        rfl)
    rw [hlen] at hrun
    refine ⟨_, hrun, ?_, ?_, by simp⟩
    · refine Cells.of_heap (setRow_heap _ _ _ _ _ _ hg) (fun k hk => ?_)
      simp
      rw [List.getElem?_append_left (by simpa using hk), List.getElem?_map, List.getElem?_range hk]
      rfl
    · exact below_setRow hb0 (Nat.le_refl _) _
theorem mid_start (id : Int) (am : Option Addr) (M Mc : Nat) (ao : Option Addr) (N Nc : Nat) (term nowO campO leaseO hbO ltO : Int) (pv : Bool) (m : Nat) (mem val : Nat → Int) (w w2 : World)
    (hrow : Cells w2 (w.heap.size + 1) m (fun i => .int .u16 (mem i))) (hB2 : Below (w.heap.size + 1) (w.alloc (.cells #[.int .u16 id, .slice am M Mc, .slice ao N Nc, .int .u64 term, .int .i64 nowO, .int .i64 campO, .int .i64 leaseO, .int .i64 hbO, .int .i64 ltO, .bool pv] 27)) w2) (hs2 : w.heap.size + 2 ≤ w2.heap.size) :
    Mid w (pc id am M Mc ao N Nc term nowO campO leaseO hbO ltO pv) w2.heap.size m N 0 mem val (fun _ => 0) (.map []) ((w2.alloc (.cells (madeCells #[.int .i64 0] N) 2)).alloc (.map #[] 0)) := by
  have hb := hB2.mono (show w.heap.size ≤ w.heap.size + 1 by omega)
  have hn1 : ∀ b, b < w2.heap.size → ((w2.alloc (.cells (madeCells #[.int .i64 0] N) 2)).alloc (.map #[] 0)).heap[b]? = w2.heap[b]? := fun b hb' => (Below.heap_alloc _ _ _ (by simp; omega)).trans (Below.heap_alloc _ _ _ hb')
  refine ⟨?_, ?_, hrow.of_block (hn1 _ (by omega)), ?_, fun i hi => by omega, ?_, ?_, by simp⟩
  · exact ((((Below.refl w.heap.size w).alloc (Nat.le_refl _) _).trans hb).alloc (by omega) _).alloc (by simp; omega) _
  · refine Cells.of_block (w := w2) ?_ (hn1 _ (by omega))
    refine Cells.of_block (w := w.alloc (.cells #[.int .u16 id, .slice am M Mc, .slice ao N Nc, .int .u64 term, .int .i64 nowO, .int .i64 campO, .int .i64 leaseO, .int .i64 hbO, .int .i64 ltO, .bool pv] 27)) ?_ (hB2.block _ (by omega))
    refine Cells.of_heap (heap_alloc_new w _) (fun k hk => ?_)
    match k, hk with
    | 0, _ => rfl
    | 1, _ => rfl
    | 2, _ => rfl
    | 3, _ => rfl
    | 4, _ => rfl
    | 5, _ => rfl
    | 6, _ => rfl
    | 7, _ => rfl
    | 8, _ => rfl
    | 9, _ => rfl
  · refine Cells.of_block (w := w2.alloc (.cells (madeCells #[.int .i64 0] N) 2)) (Cells.of_heap (heap_alloc_new w2 _) (fun k hk => ?_)) (Below.heap_alloc _ _ _ (by simp))
    have := toList_madeCells_one (.int .i64 0) N
    rw [← Array.getElem?_toList, this]
    simp [hk]
  · have := World.ownsMap_made (H := Unit) (w2.alloc (.cells (madeCells #[.int .i64 0] N) 2)) Yba.prog 22 timeElem
    simpa using this
  · exact ⟨fun kl hk => by simp [Maps.has] at hk, fun i hi => by omega, fun i hi => by omega, rfl, (World.ownsMap_made (H := Unit) w2 Yba.prog 22 timeElem).tidy law22, (World.ownsMap_made (H := Unit) w2 Yba.prog 22 timeElem).isMap⟩
theorem nd_new (w : World) (id : Int) (bm m : Nat) (hb lt term : Int) (r : Option Nat) (camp lease : Int) (mb : Nat) :
    Nd (w.alloc (.cells #[.int .u16 id, .slice (some ⟨bm, 0, none⟩) m m, .int .i64 hb, .int .i64 lt, .pointer none, .int .u64 term, .int .u16 0, .int .u8 0, .int .u16 0, .int .u64 0, .int .i64 0, .pointer none, .map r, .int .u64 (wallOf camp), .int .i64 (extOf camp), .pointer none, .map (some mb), .bool false, .int .u64 (wallOf lease), .int .i64 (extOf lease), .pointer none, .int .u16 0, .int .u64 0, .int .i64 0, .pointer none, .int .u16 0, .int .u64 0, .int .i64 0, .pointer none, .int .u64 0, .int .u8 0, .int .u16 0, .int .u64 0, .int .i64 0, .pointer none, .slice none 0 0, .slice none 0 0] 49)) w.heap.size (fN id bm m hb lt term r camp lease mb) := by
  refine Cells.of_heap (heap_alloc_new w _) (fun k hk => ?_)
  match k, hk with
  | 0, _ => rfl
  | 1, _ => rfl
  | 2, _ => rfl
  | 3, _ => rfl
  | 4, _ => rfl
  | 5, _ => rfl
  | 6, _ => rfl
  | 7, _ => rfl
  | 8, _ => rfl
  | 9, _ => rfl
  | 10, _ => rfl
  | 11, _ => rfl
  | 12, _ => rfl
  | 13, _ => rfl
  | 14, _ => rfl
  | 15, _ => rfl
  | 16, _ => rfl
  | 17, _ => rfl
  | 18, _ => rfl
  | 19, _ => rfl
  | 20, _ => rfl
  | 21, _ => rfl
  | 22, _ => rfl
  | 23, _ => rfl
  | 24, _ => rfl
  | 25, _ => rfl
  | 26, _ => rfl
  | 27, _ => rfl
  | 28, _ => rfl
  | 29, _ => rfl
  | 30, _ => rfl
  | 31, _ => rfl
  | 32, _ => rfl
  | 33, _ => rfl
  | 34, _ => rfl
  | 35, _ => rfl
  | 36, _ => rfl
  | k + 37, hk => exact absurd hk (by omega)
end Go.Proofs.Ybulkpec
