/- beat. -/
import Derived.Test.YbulkpecOthers
import Derived.Test.YbulkpecSub
set_option linter.unusedVariables false
namespace Go.Proofs.Ybulkpec
attribute [local go_sem ↓] Go.wp_at_zero Go.wp_at_succ
open Go.RowKit Go.Maps

/-- What beat leaves. -/
def BeatPost (w : World) (nb : Nat) (f : Nat → Value) (id term sent due : Int) (L : List Int) (w' : World) : Prop :=
  Beside nb w w' ∧ ∃ v b0, w.heap.size ≤ b0 ∧ Nd w' nb (upd (upd (upd (upd f 35 v) 9 (.int .u64 (wallOf due))) 10 (.int .i64 (extOf due))) 11 (.pointer none)) ∧ w'.ownsRow b0 55 6 v L.length (msgCells id term sent L)

theorem grownBy_below {w w' : World} (k : Below w.heap.size w w') : w.grownBy w' none := ⟨k.os, k.tape, k.output, k.size, fun i hi _ => k.block i hi⟩
theorem owns_below {w w' : World} {b s n : Nat} {e : TypeId} {v : Value} {xs : List Value} (h : w.ownsRow b e s v n xs) (k : Below w.heap.size w w') : w'.ownsRow b e s v n xs :=
  h.kept (grownBy_below k) (by cases hv : v.ownBlock with | none => exact .inl rfl | some x => exact .inr (by simp))

theorem T3 {w : World} {b o : Nat} {x y : Int} (h : w.cell? ⟨b, o, none⟩ = some (.int .u64 x) ∧ w.cell? ⟨b, o + 1, none⟩ = some (.int .i64 y) ∧ w.cell? ⟨b, o + 2, none⟩ = some (.pointer none)) {w' : World} (k : Below w.heap.size w w') :
    w'.cell? ⟨b, o, none⟩ = some (.int .u64 x) ∧ w'.cell? ⟨b, o + 1, none⟩ = some (.int .i64 y) ∧ w'.cell? ⟨b, o + 2, none⟩ = some (.pointer none) := ⟨keepCell k h.1, keepCell k h.2.1, keepCell k h.2.2⟩

set_option maxHeartbeats 2000000 in
set_option maxRecDepth 100000 in
theorem beat_any (nb bm : Nat) (f : Nat → Value) (m mc : Nat) (mem : Nat → Int) (id term now camp hb : Int) (w : World)
    (hn : Nd w nb f) (h0 : f 0 = .int .u16 id) (h1 : f 1 = .slice (some ⟨bm, 0, none⟩) m mc) (h2 : f 2 = .int .i64 hb) (h5 : f 5 = .int .u64 term) (h13 : f 13 = .int .u64 (wallOf camp)) (h14 : f 14 = .int .i64 (extOf camp)) (h15 : f 15 = .pointer none) (h35 : f 35 = .slice none 0 0)
    (hbm : bm < w.heap.size) (hbn : bm ≠ nb) (hm : ∀ i, i < m → w.cell? ⟨bm, i, none⟩ = some (.int .u16 (mem i))) (hm1 : m ≤ 1024)
    (hw0 : -1099511627776 ≤ now) (hw1 : now ≤ 1099511627776) (hp0 : -1099511627776 ≤ camp) (hp1 : camp ≤ 1099511627776) (hh0 : -1099511627776 ≤ hb) (hh1 : hb ≤ 1099511627776) :
    Calls Yba.prog 10 #[.pointer (some ⟨nb, 0, none⟩), T now] w fun e w' => e = .returned (.tuple #[]) ∧ BeatPost w nb f id term (now - camp) (now + hb) (Lk mem id m) w' := by
  have hlt := hn.lt
  have c5 := (hn 5 (by decide)).1
  have c13 := (hn 13 (by decide)).1
  have c14 := (hn 14 (by decide)).1
  have c15 := (hn 15 (by decide)).1
  rw [h5] at c5; rw [h13] at c13; rw [h14] at c14; rw [h15] at c15
  have hsub := hide (fun w => sub_any now camp hw0 hw1 hp0 hp1 w)
  have hadd := hide (fun w => add_any now hb (by omega) (by omega) (by omega) (by omega) w)
  have hoth := hide (fun w' (h : Nd w' nb f) (hb' : bm < w'.heap.size) (h' : ∀ i, i < m → w'.cell? ⟨bm, i, none⟩ = some (.int .u16 (mem i))) => toOthers_any nb bm f m mc mem id term (now - camp) w' h h0 h1 h35 hb' hbn h' hm1)
  have HN := hide hn
  have HM := hide hm
  have HF2 := hide h2
  unfold T at *
  clear hn hm h0 h1 h2 h5 h13 h14 h15 h35
  unfold BeatPost
  generalize wallOf now = x at *
  generalize extOf now = y at *
  generalize wallOf camp = x1 at *
  generalize extOf camp = y1 at *
  generalize wallOf (now + hb) = x2 at *
  generalize extOf (now + hb) = y2 at *
  generalize now - camp = sent at *
  have n1 : ¬ nb = w.heap.size := by omega
  have n2 : ¬ w.heap.size = nb := by omega
  go_enter Yba.func10, Yba.ntmps10
  go_wp2_with fail
  go_region_held3 (fun w' => w'.cell? ⟨nb, 5, none⟩ = some (.int .u64 term) ∧ w'.cell? ⟨nb, 13, none⟩ = some (.int .u64 x1) ∧ w'.cell? ⟨nb, 14, none⟩ = some (.int .i64 y1) ∧ w'.cell? ⟨nb, 15, none⟩ = some (.pointer none) ∧ w'.cell? ⟨w.heap.size, 0, none⟩ = some (.int .u64 x) ∧ w'.cell? ⟨w.heap.size, 1, none⟩ = some (.int .i64 y) ∧ w'.cell? ⟨w.heap.size, 2, none⟩ = some (.pointer none)) (go_keep)
    ((first | (go_at_call 19; refine (hsub.out _).mono ?_; rintro e w1 ⟨rfl, hb1⟩; have hn1 : Nd w1 nb f := ((HN.out.alloc _).drew).below hb1; have hB1 : Below w.heap.size w w1 := (((Below.refl _ w).alloc (Nat.le_refl _) _).drew).trans (hb1.mono (by simp)); have e5 := keepCell hB1 c5; have e13 := keepCell hB1 c13; have e14 := keepCell hB1 c14; have e15 := keepCell hB1 c15; have k0 := hb1.cell (p := ⟨w.heap.size, 0, none⟩) (by simp); have k1 := hb1.cell (p := ⟨w.heap.size, 1, none⟩) (by simp); have k2 := hb1.cell (p := ⟨w.heap.size, 2, none⟩) (by simp); have hs1 := hb1.size; simp at k0 k1 k2 hs1; have HN1 := hide hn1; have HB1 := hide hB1; clear hb1 hn1 hB1) | (go_at_call 18; refine (hoth.out _ HN1.out (by omega) (fun i hi => keepCell HB1.out (HM.out i hi))).mono ?_; rintro e w2 ⟨rfl, t, v, hO⟩; have g5 := (hO.2.1 5 (by decide)).1; have g13 := (hO.2.1 13 (by decide)).1; have g14 := (hO.2.1 14 (by decide)).1; have g15 := (hO.2.1 15 (by decide)).1; rw [upd_other _ _ _ _ (by decide), ← (HN.out 5 (by decide)).1, c5] at g5; rw [upd_other _ _ _ _ (by decide), ← (HN.out 13 (by decide)).1, c13] at g13; rw [upd_other _ _ _ _ (by decide), ← (HN.out 14 (by decide)).1, c14] at g14; rw [upd_other _ _ _ _ (by decide), ← (HN.out 15 (by decide)).1, c15] at g15; have b0 := (World.cell?_of_block (w := w1) (a := ⟨w.heap.size, 0, none⟩) (hO.1.block w.heap.size (by omega) n2)).trans k0; have b1 := (World.cell?_of_block (w := w1) (a := ⟨w.heap.size, 1, none⟩) (hO.1.block w.heap.size (by omega) n2)).trans k1; have b2 := (World.cell?_of_block (w := w1) (a := ⟨w.heap.size, 2, none⟩) (hO.1.block w.heap.size (by omega) n2)).trans k2; have HO := hide hO; clear hO)))
  go_wp2_with fail
  have p2 := (HO.out.2.1 2 (by decide)).1
  rw [upd_other _ _ _ _ (by decide), HF2.out] at p2
  have hsz2 : w.heap.size + 1 ≤ w2.heap.size := Nat.le_trans hs1 HO.out.1.size
  have n3 : nb < w2.heap.size := by omega
  clear k0 k1 k2 e5 e13 e14 e15 c5 c13 c14 c15 g5 g13 g14 g15
  go_region_held3 (fun w' => w'.cell? ⟨nb, 2, none⟩ = some (.int .i64 hb) ∧ w'.cell? ⟨w.heap.size, 0, none⟩ = some (.int .u64 x) ∧ w'.cell? ⟨w.heap.size, 1, none⟩ = some (.int .i64 y) ∧ w'.cell? ⟨w.heap.size, 2, none⟩ = some (.pointer none)) (first | (go_keep; done) | ((try dsimp only); (repeat' apply And.intro) <;> (first | (go_keep; done) | (simp only [World.cell?_setCell_other _ _ _ _ (ne_off (b := nb) (o := 9) (o' := 2) (by decide)), World.cell?_setCell_other _ _ _ _ (ne_off (b := nb) (o := 10) (o' := 2) (by decide)), World.cell?_setCell_other _ _ _ _ (ne_off (b := nb) (o := 11) (o' := 2) (by decide))]; go_keep; done))))
    ((go_at_call 7; refine (hadd.out _).mono ?_; rintro e w3 ⟨rfl, hb3⟩; have g2 := keepCell hb3 p2; have g0 := keepCell hb3 b0; have g1 := keepCell hb3 b1; have g3 := keepCell hb3 b2; have hn3 := ((HO.out.2.1).drew).below hb3; have q9 := (hn3 9 (by decide)).1; have q10 := (hn3 10 (by decide)).1; have q11 := (hn3 11 (by decide)).1; have z9 := (hn3 9 (by decide)).2; have z10 := (hn3 10 (by decide)).2; have z11 := (hn3 11 (by decide)).2; have HN3 := hide hn3; have HB3 := hide hb3; clear hn3 hb3))
  go_wp2_with fail
  go_end0
  refine ⟨rfl, ?_, v, w1.heap.size + 1, ?_, ((HN3.out.setCell 9 _).setCell 10 _).setCell 11 _, ?_⟩
  · exact (((((((Beside.refl nb w).below HB1.out).trans HO.out.1).drew).below HB3.out).setCell _ _).setCell _ _).setCell _ _
  · have := HB1.out.size
    omega
  · have ho := owns_below (HO.out.2.2.1) (Below.undrew HB3.out)
    have hvn : v.ownBlock ≠ some nb := by
      intro e
      rcases ho.2 with ⟨e', _⟩ | ⟨g', cap2, cur2, e', hb2, _⟩
      · rw [e'] at e; simp [Value.ownBlock] at e
      · rw [e'] at e; simp [Value.ownBlock] at e; omega
    exact ((ho.kept (grownBy_set _ nb 9 _) (.inr hvn)).kept (grownBy_set _ nb 10 _) (.inr hvn)).kept (grownBy_set _ nb 11 _) (.inr hvn)
end Go.Proofs.Ybulkpec
