/- toOthers. -/
import Derived.Test.YbulkpecRenew
set_option linter.unusedVariables false
namespace Go.Proofs.Ybulkpec
attribute [local go_sem ↓] Go.wp_at_zero Go.wp_at_succ
open Go.RowKit Go.Maps

/-- The others among the first k members. -/
def Lk (mem : Nat → Int) (id : Int) (k : Nat) : List Int := ((List.range k).map mem).filter fun x => x != id

theorem Lk_skip {mem : Nat → Int} {id : Int} {k : Nat} (h : mem k = id) : Lk mem id (k + 1) = Lk mem id k := by
  unfold Lk
  rw [List.range_succ, List.map_append, List.filter_append]
  simp [h]
theorem Lk_take {mem : Nat → Int} {id : Int} {k : Nat} (h : mem k ≠ id) : Lk mem id (k + 1) = Lk mem id k ++ [mem k] := by
  unfold Lk
  rw [List.range_succ, List.map_append, List.filter_append]
  simp [h]
theorem Lk_length (mem : Nat → Int) (id : Int) (k : Nat) : (Lk mem id k).length ≤ k := by
  unfold Lk
  exact Nat.le_trans (List.length_filter_le _ _) (by simp)

/-- The cells of the heartbeats to the members L. -/
def msgCells (id : Int) (term sent : Int) : List Int → List Value
  | [] => []
  | t :: r => .int .u8 4 :: .int .u16 id :: .int .u16 t :: .int .u16 0 :: .int .u64 term :: .int .i64 sent :: msgCells id term sent r

theorem msgCells_append (id term sent : Int) (L : List Int) (t : Int) : msgCells id term sent L ++ [.int .u8 4, .int .u16 id, .int .u16 t, .int .u16 0, .int .u64 term, .int .i64 sent] = msgCells id term sent (L ++ [t]) := by
  induction L with
  | nil => rfl
  | cons a r ih => simp [msgCells, ih]

/-- The message's own variable. -/
def Mg (w : World) (b : Nat) (id t term sent : Int) : Prop :=
  w.cell? ⟨b, 0, none⟩ = some (.int .u8 4) ∧ w.cell? ⟨b, 1, none⟩ = some (.int .u16 id) ∧ w.cell? ⟨b, 2, none⟩ = some (.int .u16 t) ∧ w.cell? ⟨b, 3, none⟩ = some (.int .u16 0) ∧ w.cell? ⟨b, 4, none⟩ = some (.int .u64 term) ∧ w.cell? ⟨b, 5, none⟩ = some (.int .i64 sent) ∧ w.frozen? ⟨b, 2, none⟩ = false

theorem Mg.of_block {w w' : World} {b : Nat} {id t term sent : Int} (h : Mg w b id t term sent) (e : w'.heap[b]? = w.heap[b]?) : Mg w' b id t term sent := by
  obtain ⟨a0, a1, a2, a3, a4, a5, f⟩ := h
  exact ⟨(World.cell?_of_block (w := w) (a := ⟨b, 0, none⟩) e).trans a0, (World.cell?_of_block (w := w) (a := ⟨b, 1, none⟩) e).trans a1, (World.cell?_of_block (w := w) (a := ⟨b, 2, none⟩) e).trans a2,
    (World.cell?_of_block (w := w) (a := ⟨b, 3, none⟩) e).trans a3, (World.cell?_of_block (w := w) (a := ⟨b, 4, none⟩) e).trans a4, (World.cell?_of_block (w := w) (a := ⟨b, 5, none⟩) e).trans a5, (World.frozen?_of_block (w := w) (a := ⟨b, 2, none⟩) e).trans f⟩

theorem Mg.setTo {w : World} {b : Nat} {id t term sent : Int} (h : Mg w b id t term sent) (t' : Int) : Mg (w.setCell ⟨b, 2, none⟩ (.int .u16 t')) b id t' term sent := by
  obtain ⟨a0, a1, a2, a3, a4, a5, f⟩ := h
  refine ⟨?_, ?_, World.cell?_setCell_same _ _ _ a2, ?_, ?_, ?_, by simpa using f⟩ <;> (rw [World.cell?_setCell_other _ _ _ _ (ne_off (by omega))]; assumption)

theorem heap_alloc_set (w : World) (a : Addr) (u : Value) (o : Obj) : ((w.setCell a u).alloc o).heap[w.heap.size]? = some o := by
  have := heap_alloc_new (w.setCell a u) o
  rwa [World.size_setCell] at this

/-- What stands at the head of a round of toOthers. -/
def OthersAt (w : World) (nb : Nat) (f : Nat → Value) (id term sent : Int) (L : List Int) (t : Int) (v : Value) (wr : World) : Prop :=
  Beside nb w wr ∧ Nd wr nb (upd f 35 v) ∧ wr.ownsRow (w.heap.size + 1) 55 6 v L.length (msgCells id term sent L) ∧ Mg wr w.heap.size id t term sent ∧ w.heap.size + 1 ≤ wr.heap.size

theorem others_round {w wr w2 : World} {nb g cap : Nat} {f : Nat → Value} {id term sent t t' : Int} {L : List Int} {v : Value} {B : Obj} (hlt : nb < w.heap.size) (h : OthersAt w nb f id term sent L t v wr)
    (HO2 : w2.ownsRow (w.heap.size + 1) 55 6 (.slice (some ⟨g, 0, none⟩) (L.length + 1) cap) (L.length + 1) (msgCells id term sent L ++ [.int .u8 4, .int .u16 id, .int .u16 t', .int .u16 0, .int .u64 term, .int .i64 sent]))
    (HG2 : (((wr.setCell ⟨w.heap.size, 2, none⟩ (.int .u16 t')).alloc B).drew).grownBy w2 v.ownBlock) :
    OthersAt w nb f id term sent (L ++ [t']) t' (.slice (some ⟨g, 0, none⟩) (L.length + 1) cap) (w2.setCell ⟨nb, 35, none⟩ (.slice (some ⟨g, 0, none⟩) (L.length + 1) cap)) := by
  obtain ⟨HB, HN, HO, HM, hsz⟩ := h
  have hvlt : ∀ j, v.ownBlock = some j → w.heap.size + 1 ≤ j := by
    intro j hj
    rcases HO.2 with ⟨e, _⟩ | ⟨g', cap2, cur2, e, hb2, _⟩
    · rw [e] at hj; simp [Value.ownBlock] at hj
    · rw [e] at hj; simp [Value.ownBlock] at hj; omega
  obtain ⟨g1, c1, e1, hg1, hg2⟩ := HO2.form (by omega)
  have eg : g = g1 := by
    injection e1 with e _ _
    injection e with e
    injection e
  subst eg
  have hb2 : Beside nb w w2 := (((HB.setFar ⟨w.heap.size, 2, none⟩ _ (Nat.le_refl _)).alloc B).drew).grown HG2 (fun j e => by have := hvlt j e; omega)
  have hn1 := (((HN.setFar ⟨w.heap.size, 2, none⟩ (.int .u16 t') (by show nb ≠ w.heap.size; omega)).alloc B).drew)
  have hn2 : Nd w2 nb (upd f 35 v) := hn1.of_block (HG2.block nb (by simp; omega) (fun e => by have := hvlt nb e.symm; omega))
  have hn3 := hn2.setCell 35 (.slice (some ⟨g, 0, none⟩) (L.length + 1) cap)
  rw [upd_upd] at hn3
  refine ⟨hb2.setCell _ _, hn3, ?_, ?_, ?_⟩
  · rw [← msgCells_append, List.length_append]
    exact HO2.kept (grownBy_set w2 nb 35 _) (.inr (fun e => by simp [Value.ownBlock] at e; omega))
  · have m1 := HM.setTo t'
    have m2 : Mg ((wr.setCell ⟨w.heap.size, 2, none⟩ (.int .u16 t')).alloc B) w.heap.size id t' term sent := m1.of_block (Below.heap_alloc _ _ _ (by simp; omega))
    have m3 : Mg w2 w.heap.size id t' term sent := Mg.of_block (w := ((wr.setCell ⟨w.heap.size, 2, none⟩ (.int .u16 t')).alloc B).drew) m2 (HG2.block w.heap.size (by simp; omega) (fun e => by have := hvlt w.heap.size e.symm; omega))
    exact m3.of_block (Below.heap_setCell _ _ _ _ (by show w.heap.size ≠ nb; omega))
  · have := HG2.size
    simp at this ⊢
    omega

set_option maxHeartbeats 2000000 in
set_option maxRecDepth 100000 in
theorem toOthers_any (nb bm : Nat) (f : Nat → Value) (m mc : Nat) (mem : Nat → Int) (id term sent : Int) (w : World)
    (hn : Nd w nb f) (h0 : f 0 = .int .u16 id) (h1 : f 1 = .slice (some ⟨bm, 0, none⟩) m mc) (h35 : f 35 = .slice none 0 0) (hbm : bm < w.heap.size) (hbn : bm ≠ nb) (hm : ∀ i, i < m → w.cell? ⟨bm, i, none⟩ = some (.int .u16 (mem i))) (hm1 : m ≤ 1024) :
    Calls Yba.prog 18 #[.pointer (some ⟨nb, 0, none⟩), .agg #[.int .u8 4, .int .u16 0, .int .u16 0, .int .u16 0, .int .u64 term, .int .i64 sent]] w fun e w' => e = .returned (.tuple #[]) ∧
      ∃ t v, OthersAt w nb f id term sent (Lk mem id m) t v w' := by
  obtain ⟨i0, hi, hz0, hz1, hz2⟩ := info_parts Yba.info55
  have hlt := hn.lt
  have c0 := (hn 0 (by decide)).1
  have c1 := (hn 1 (by decide)).1
  rw [h0] at c0; rw [h1] at c1
  have HN := hide hn
  have HM := hide hm
  have nl : ¬ nb = w.heap.size := by omega
  clear hn hm
  go_enter Yba.func18, Yba.ntmps18
  go_wp2_with fail
  go_loopw [18] (fun vi wr => ∃ k t v, vi = .int .i64 (k : Nat) ∧ k ≤ m ∧ Hid (OthersAt w nb f id term sent (Lk mem id k) t v wr)) (fun vi _ => m - (intOf vi).toNat)
  case atStart =>
    refine ⟨0, 0, .slice none 0 0, rfl, Nat.zero_le _, ?_⟩
    have hn0 : Nd w nb (upd f 35 (.slice none 0 0)) := by
      rw [show upd f 35 (.slice none 0 0) = f from by funext j; by_cases e : j = 35; (· subst e; rw [upd_same, h35]); (· rw [upd_other _ _ _ _ e])]
      exact HN.out
    exact ⟨(Beside.refl nb w).alloc _, hn0.alloc _, ⟨rfl, .inl ⟨rfl, rfl⟩⟩, ⟨by simp, by simp, by simp, by simp, by simp, by simp, by simp⟩, by simp⟩
  case round =>
    obtain ⟨k, t, v, rfl, hk, HO⟩ := hrel
    by_cases hkm : k < m
    · have d0 := (HO.out.2.1 0 (by decide)).1
      have d35 := (HO.out.2.1 35 (by decide)).1
      have z35 := (HO.out.2.1 35 (by decide)).2
      rw [upd_other _ _ _ _ (by decide), h0] at d0
      rw [upd_same] at d35
      have dm : wr.cell? ⟨bm, k, none⟩ = some (.int .u16 (mem k)) := (World.cell?_of_block (w := w) (a := ⟨bm, k, none⟩) (HO.out.1.block bm hbm hbn)).trans (HM.out k hkm)
      have hki : (k : Int) < (m : Int) := by omega
      by_cases he : mem k = id
      · have HH := hide he
        generalize hmk : mem k = mk at *
        subst he
        go_wp2_with fail
        go_roundw
        case rel => exact ⟨k + 1, t, v, by go_num, by omega, by rw [Lk_skip hmk]; exact HO.out⟩
        case measure => simp [intOf]; omega
      · obtain ⟨m0, m1, m2, m3, m4, m5, mf⟩ := HO.out.2.2.2.1
        have hsz := HO.out.2.2.2.2
        have hll := Lk_length mem id k
        have hvlt : ∀ j, v.ownBlock = some j → w.heap.size + 1 ≤ j := by
          intro j hj
          rcases HO.out.2.2.1.2 with ⟨e, _⟩ | ⟨g', cap2, cur2, e, hb2, _⟩
          · rw [e] at hj; simp [Value.ownBlock] at hj
          · rw [e] at hj; simp [Value.ownBlock] at hj; omega
        have hvn : v.ownBlock ≠ some nb := fun e => by have := hvlt nb e; omega
        have hvs : v.ownBlock ≠ some w.heap.size := fun e => by have := hvlt w.heap.size e; omega
        have HO1 := hide (HO.out.2.2.1.kept (grownBy_set wr w.heap.size 2 (.int .u16 (mem k))) (.inr hvs))
        have nlt0 : nb < wr.heap.size := by omega
        have nlt : ¬ nb = wr.heap.size := by omega
        have nl2 : ¬ w.heap.size = nb := by omega
        have nl3 : w.heap.size < wr.heap.size := by omega
        have HMK := hide (Lk_take (mem := mem) (k := k) he)
        clear hvlt
        generalize mem k = mk at *
        go_wp2_with fail
        go_region_law ((refine step_append_lies _ (by rfl) _ _ _ (by rfl) (w.heap.size + 1) 55 i0 _ 6 24 Yba.underlying45 hi hz0 hz1 hz2 rfl (by omega) v (Lk mem id k).length (msgCells id term sent (Lk mem id k)) (by rfl) ((HO1.out.alloc _).drew) ⟨wr.heap.size, 0, none⟩ 1 1 [.int .u8 4, .int .u16 id, .int .u16 mk, .int .u16 0, .int .u64 term, .int .i64 sent] (by rfl) (by rfl) (World.news_of_block (cs := #[.int .u8 4, .int .u16 id, .int .u16 mk, .int .u16 0, .int .u64 term, .int .i64 sent]) (t := 55) (fr := (0, 0)) (heap_alloc_set wr _ _ _)) (by simp [Value.oneCell']) (by omega) (by unfold maxLen; omega) (by omega) (by simp; omega) (wr.heap.size + 1) (by simp) ?_; intro g cap w2 hown2 hgrow hat hlt2; have q35 : w2.cell? ⟨nb, 35, none⟩ = some v := (hgrow.cell_far _ (by simp; omega) (Ne.symm hvn)).trans (keepCell (((Below.refl _ _).alloc (by simp) _).drew) ((World.cell?_setCell_other _ _ _ _ (fun e => nl2 (congrArg Addr.block e))).trans d35)); have r35 : w2.frozen? ⟨nb, 35, none⟩ = false := (hgrow.frozen_far _ (by simp; omega) (Ne.symm hvn)).trans (((((Below.refl (wr.setCell ⟨w.heap.size, 2, none⟩ (.int .u16 mk)).heap.size _).alloc (Nat.le_refl _) _).drew).frozen (p := ⟨nb, 35, none⟩) (by simp; omega)).trans (by simpa using z35)); have HO2 := hide hown2; have HG2 := hide hgrow; clear hown2 hgrow))
        all_goals
          have HRR := hide (others_round hlt HO.out HO2.out HG2.out)
          go_wp2_with fail
          go_roundw
          case rel => exact ⟨k + 1, mk, _, by go_num, by omega, by rw [HMK.out]; exact HRR.out⟩
          case measure => simp [intOf]; omega
    · have : k = m := by omega
      subst this
      go_wp2_with fail
      go_end0
      exact ⟨rfl, t, v, HO.out⟩
end Go.Proofs.Ybulkpec
