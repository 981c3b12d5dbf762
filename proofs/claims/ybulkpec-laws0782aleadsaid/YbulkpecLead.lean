/- lead. -/
import Derived.Test.YbulkpecBeat
set_option linter.unusedVariables false
namespace Go.Proofs.Ybulkpec
open Go.RowKit Go.Maps

set_option maxHeartbeats 400000 in
theorem renew_alone (nb : Nat) (f : Nat → Value) (m : Nat) (ma : Option Addr) (mc : Nat) (w : World) (hn : Nd w nb f) (h1 : f 1 = .slice ma m mc) (hm0 : m / 2 = 0) :
    Calls Yba.prog 9 #[.pointer (some ⟨nb, 0, none⟩)] w fun e w' => e = .returned (.tuple #[]) ∧ w' = w := by
  have c1 := (hn 1 (by decide)).1
  rw [h1] at c1
  have hq : (m : Int) / 2 = 0 := by omega
  have hm2 : m ≤ 1 := by omega
  clear hn
  go_enter Yba.func9, Yba.ntmps9
  go_wp2_with fail
  (try simp only [Exit.inBlock, Exit.then]); refine bodyPost_ret (results_none rfl _ _ _) rfl ?_
  exact ⟨rfl, rfl⟩

/-- The lease's new end. -/
def LeaseIs (f f' : Nat → Value) (lt : Int) (n m : Nat) (val : Nat → Int) : Prop :=
  (m / 2 = 0 ∧ f' 18 = f 18 ∧ f' 19 = f 19 ∧ f' 20 = f 20) ∨
  (0 < m / 2 ∧ ∃ d : List Int, d.Perm ((List.range n).map val) ∧ d.Pairwise (fun a b : Int => b ≤ a) ∧
    f' 18 = .int .u64 (wallOf (d[m / 2 - 1]! + (lt - lt.tdiv 100))) ∧ f' 19 = .int .i64 (extOf (d[m / 2 - 1]! + (lt - lt.tdiv 100))) ∧ f' 20 = .pointer none)

/-- renew, whatever the number of members. -/
theorem renew_all (nb mb : Nat) (f : Nat → Value) (lt : Int) (n m : Nat) (val : Nat → Int) (D : DataW Unit) (ma : Option Addr) (mc : Nat) (w : World)
    (hn : Nd w nb f) (h1 : f 1 = .slice ma m mc) (h3 : f 3 = .int .i64 lt) (h16 : f 16 = .map (some mb)) (h36 : f 36 = .slice none 0 0) (hmap : w.ownsMap Yba.prog 22 timeElem mb n D) (hD : Filled D n val)
    (hm : m / 2 ≤ n) (hm1 : m ≤ 1024) (hn1 : n ≤ 1024) (hv : ∀ i, i < n → -1099511627776 ≤ val i ∧ val i ≤ 1099511627776) (hl0 : -1099511627776 ≤ lt) (hl1 : lt ≤ 1099511627776) (hne : mb ≠ nb) :
    Calls Yba.prog 9 #[.pointer (some ⟨nb, 0, none⟩)] w fun e w' => e = .returned (.tuple #[]) ∧ Beside nb w w' ∧ ∃ f', Nd w' nb f' ∧ (∀ k, k ≠ 18 → k ≠ 19 → k ≠ 20 → k ≠ 36 → f' k = f k) ∧ LeaseIs f f' lt n m val := by
  by_cases h0 : m / 2 = 0
  · refine (renew_alone nb f m ma mc w hn h1 h0).mono ?_
    rintro e w' ⟨rfl, rfl⟩
    exact ⟨rfl, Beside.refl _ _, f, hn, fun _ _ _ _ _ => rfl, .inl ⟨h0, rfl, rfl, rfl⟩⟩
  · refine (renew_any nb mb f lt n m val D ma mc w hn h1 h3 h16 h36 hmap hD hm (by omega) hm1 hn1 hv hl0 hl1 hne).mono ?_
    rintro e w' ⟨rfl, hb, f', d, p1, p2, p3, p4, p5, p6, p7⟩
    exact ⟨rfl, hb, f', p1, p2, .inr ⟨by omega, d, p3, p4, p5, p6, p7⟩⟩

theorem box_kept {w w2 : World} {nb : Nat} {u7 u8 u12 : Value} {x y : Int} (hlt : nb < w.heap.size)
    (hb : Beside nb ((((w.setCell ⟨nb, 7, none⟩ u7).setCell ⟨nb, 8, none⟩ u8).setCell ⟨nb, 12, none⟩ u12).alloc (.cells #[.int .u64 x, .int .i64 y, .pointer none] 32)) w2) :
    w2.cell? ⟨w.heap.size, 0, none⟩ = some (.int .u64 x) ∧ w2.cell? ⟨w.heap.size, 1, none⟩ = some (.int .i64 y) ∧ w2.cell? ⟨w.heap.size, 2, none⟩ = some (.pointer none) := by
  have h := hb.block w.heap.size (by simp) (by omega)
  have e := heap_alloc_new (((w.setCell ⟨nb, 7, none⟩ u7).setCell ⟨nb, 8, none⟩ u8).setCell ⟨nb, 12, none⟩ u12) (.cells #[.int .u64 x, .int .i64 y, .pointer none] 32)
  simp only [World.size_setCell] at e
  rw [e] at h
  simp [World.cell?, h]

/-- What lead leaves. -/
def LeadPost (w : World) (nb : Nat) (f : Nat → Value) (id term sent due lt : Int) (n m : Nat) (val : Nat → Int) (L : List Int) (w' : World) : Prop :=
  Beside nb w w' ∧ ∃ f', Nd w' nb f' ∧ f' 7 = .int .u8 2 ∧ f' 8 = .int .u16 id ∧ f' 12 = .map none ∧ f' 5 = f 5 ∧ f' 6 = f 6 ∧ f' 16 = f 16 ∧ f' 9 = .int .u64 (wallOf due) ∧ f' 10 = .int .i64 (extOf due) ∧ f' 11 = .pointer none ∧
    LeaseIs f f' lt n m val ∧ ∃ v b0, w.heap.size ≤ b0 ∧ f' 35 = v ∧ w'.ownsRow b0 55 6 v L.length (msgCells id term sent L)

set_option maxHeartbeats 2000000 in
set_option maxRecDepth 100000 in
theorem lead_any (nb bm mb : Nat) (f : Nat → Value) (m mc n : Nat) (mem : Nat → Int) (val : Nat → Int) (D : DataW Unit) (id term now camp hb lt : Int) (w : World)
    (hn : Nd w nb f) (h0 : f 0 = .int .u16 id) (h1 : f 1 = .slice (some ⟨bm, 0, none⟩) m mc) (h2 : f 2 = .int .i64 hb) (h3 : f 3 = .int .i64 lt) (h5 : f 5 = .int .u64 term) (h13 : f 13 = .int .u64 (wallOf camp)) (h14 : f 14 = .int .i64 (extOf camp)) (h15 : f 15 = .pointer none)
    (h16 : f 16 = .map (some mb)) (h35 : f 35 = .slice none 0 0) (h36 : f 36 = .slice none 0 0)
    (hbm : bm < w.heap.size) (hbn : bm ≠ nb) (hm : ∀ i, i < m → w.cell? ⟨bm, i, none⟩ = some (.int .u16 (mem i))) (hm1 : m ≤ 1024) (hmap : w.ownsMap Yba.prog 22 timeElem mb n D) (hD : Filled D n val)
    (hmn : m / 2 ≤ n) (hn1 : n ≤ 1024) (hv : ∀ i, i < n → -1099511627776 ≤ val i ∧ val i ≤ 1099511627776) (hne : mb ≠ nb)
    (hw0 : -1099511627776 ≤ now) (hw1 : now ≤ 1099511627776) (hp0 : -1099511627776 ≤ camp) (hp1 : camp ≤ 1099511627776) (hh0 : -1099511627776 ≤ hb) (hh1 : hb ≤ 1099511627776) (hl0 : -1099511627776 ≤ lt) (hl1 : lt ≤ 1099511627776) :
    Calls Yba.prog 6 #[.pointer (some ⟨nb, 0, none⟩), T now] w fun e w' => e = .returned (.tuple #[]) ∧ LeadPost w nb f id term (now - camp) (now + hb) lt n m val (Lk mem id m) w' := by
  have hlt := hn.lt
  have c0 := (hn 0 (by decide)).1
  rw [h0] at c0
  have c7 := (hn 7 (by decide)).1
  have c8 := (hn 8 (by decide)).1
  have c12 := (hn 12 (by decide)).1
  have z7 := (hn 7 (by decide)).2
  have z8 := (hn 8 (by decide)).2
  have z12 := (hn 12 (by decide)).2
  have HN := hide hn
  have hne' : nb ≠ w.heap.size := by omega
  -- the world that renew sees
  have R1 := hide (fun (w1 : World) (hn1' : Nd w1 nb (upd (upd (upd f 7 (.int .u8 2)) 8 (.int .u16 id)) 12 (.map none))) (hmap1 : w1.ownsMap Yba.prog 22 timeElem mb n D) =>
    renew_all nb mb _ lt n m val D (some ⟨bm, 0, none⟩) mc w1 hn1' h1 h3 h16 h36 hmap1 hD hmn hm1 hn1 hv hl0 hl1 hne)
  have B1 := hide (fun (w2 : World) (f2 : Nat → Value) (hf : ∀ k, k ≠ 18 → k ≠ 19 → k ≠ 20 → k ≠ 36 → f2 k = upd (upd (upd f 7 (.int .u8 2)) 8 (.int .u16 id)) 12 (.map none) k) (hn2 : Nd w2 nb f2) (hb2 : bm < w2.heap.size) (hm2 : ∀ i, i < m → w2.cell? ⟨bm, i, none⟩ = some (.int .u16 (mem i))) =>
    beat_any nb bm f2 m mc mem id term now camp hb w2 hn2 ((hf 0 (by decide) (by decide) (by decide) (by decide)).trans h0) ((hf 1 (by decide) (by decide) (by decide) (by decide)).trans h1) ((hf 2 (by decide) (by decide) (by decide) (by decide)).trans h2)
      ((hf 5 (by decide) (by decide) (by decide) (by decide)).trans h5) ((hf 13 (by decide) (by decide) (by decide) (by decide)).trans h13) ((hf 14 (by decide) (by decide) (by decide) (by decide)).trans h14) ((hf 15 (by decide) (by decide) (by decide) (by decide)).trans h15)
      ((hf 35 (by decide) (by decide) (by decide) (by decide)).trans h35) hb2 hbn hm2 hm1 hw0 hw1 hp0 hp1 hh0 hh1)
  have HM := hide hmap
  have HMm := hide hm
  clear hn hmap hm hD hv h0 h1 h2 h3 h5 h13 h14 h15 h16 h35 h36
  unfold T at *
  unfold LeadPost
  generalize hx : wallOf now = x at *
  generalize hy : extOf now = y at *
  go_enter Yba.func6, Yba.ntmps6
  go_wp2_with (first | (go_at_call 9; refine (R1.out _ ((((HN.out.setCell 7 _).setCell 8 _).setCell 12 _).alloc _) ((((HM.out.setCell (a := ⟨nb, 7, none⟩) hne _).setCell (a := ⟨nb, 8, none⟩) hne _).setCell (a := ⟨nb, 12, none⟩) hne _).alloc _)).mono ?_; rintro e w2 ⟨rfl, hb2, f2, n2, hf2, hL⟩; obtain ⟨k0, k1, k2⟩ := box_kept hlt hb2; have hB2 : Beside nb w w2 := (((((Beside.refl nb w).setCell 7 _).setCell 8 _).setCell 12 _).alloc _).trans hb2; have HB2 := hide hB2; have HN2 := hide n2; have HF2 := hide hf2; have HL2 := hide hL; clear hb2 n2 hf2 hL hB2) | (go_at_call 10; refine (B1.out _ f2 HF2.out HN2.out (Nat.lt_of_lt_of_le hbm HB2.out.size) (fun i hi => (World.cell?_of_block (w := w) (a := ⟨bm, i, none⟩) (HB2.out.block bm hbm hbn)).trans (HMm.out i hi))).mono ?_; rintro e w3 ⟨rfl, hP⟩; have HP := hide hP; clear hP))
  go_end0
  obtain ⟨hb3, v, b0, hb0, hn3, hown⟩ := HP.out
  have hf2 := HF2.out
  have u : ∀ k, k ≠ 35 → k ≠ 9 → k ≠ 10 → k ≠ 11 → (upd (upd (upd (upd f2 35 v) 9 (.int .u64 (wallOf (now + hb)))) 10 (.int .i64 (extOf (now + hb)))) 11 (.pointer none)) k = f2 k := fun k a b c d => by
    rw [upd_other _ _ _ _ d, upd_other _ _ _ _ c, upd_other _ _ _ _ b, upd_other _ _ _ _ a]
  refine ⟨rfl, HB2.out.trans hb3, _, hn3, ?_, ?_, ?_, ?_, ?_, ?_, ?_, ?_, ?_, ?_, v, b0, Nat.le_trans HB2.out.size hb0, ?_, hown⟩
  · rw [u 7 (by decide) (by decide) (by decide) (by decide), hf2 7 (by decide) (by decide) (by decide) (by decide)]; rfl
  · rw [u 8 (by decide) (by decide) (by decide) (by decide), hf2 8 (by decide) (by decide) (by decide) (by decide)]; rfl
  · rw [u 12 (by decide) (by decide) (by decide) (by decide), hf2 12 (by decide) (by decide) (by decide) (by decide)]; rfl
  · rw [u 5 (by decide) (by decide) (by decide) (by decide), hf2 5 (by decide) (by decide) (by decide) (by decide)]; rfl
  · rw [u 6 (by decide) (by decide) (by decide) (by decide), hf2 6 (by decide) (by decide) (by decide) (by decide)]; rfl
  · rw [u 16 (by decide) (by decide) (by decide) (by decide), hf2 16 (by decide) (by decide) (by decide) (by decide)]; rfl
  · rw [upd_other _ _ _ _ (by decide), upd_other _ _ _ _ (by decide), upd_same]
  · rw [upd_other _ _ _ _ (by decide), upd_same]
  · rw [upd_same]
  · unfold LeaseIs
    rw [u 18 (by decide) (by decide) (by decide) (by decide), u 19 (by decide) (by decide) (by decide) (by decide), u 20 (by decide) (by decide) (by decide) (by decide)]
    exact HL2.out
  · rw [upd_other _ _ _ _ (by decide), upd_other _ _ _ _ (by decide), upd_other _ _ _ _ (by decide), upd_same]
end Go.Proofs.Ybulkpec
