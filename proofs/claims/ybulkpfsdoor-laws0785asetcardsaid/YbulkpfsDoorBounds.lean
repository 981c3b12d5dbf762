/- machine.bounds at a set choice without bounds: contract. -/
import Derived.Test.YbulkpfsDoorPut
import Derived.Deep.RegionHeld3
import Derived.Lib.LazyBuf
import Derived.Deep.DeepCutAuto
import Derived.Deep.RegionLaw
set_option linter.unusedVariables false
namespace Go.Proofs.YbulkpfsDoor
open Go.RowKit Go.Deep

/-- What bounds reads. -/
structure BSt (w : World) (M Pb C S Z : Nat) (n P cc : Nat) (ca : Option Addr) : Prop where
  m3 : w.cell? ⟨M, 3, none⟩ = some (.slice (some ⟨Pb, 0, none⟩) 1 1)
  m27 : w.cell? ⟨M, 27, none⟩ = some (.slice none 0 0)
  m27f : w.frozen? ⟨M, 27, none⟩ = false
  p3 : w.cell? ⟨Pb, 3, none⟩ = some (.slice (some ⟨C, 0, none⟩) 1 1)
  c2 : w.cell? ⟨C, 2, none⟩ = some (.slice ca n cc)
  c13 : w.cell? ⟨C, 13, none⟩ = some (.slice none 0 0)
  s5 : w.cell? ⟨S, 5, none⟩ = some (.slice (some ⟨Z, 0, none⟩) P P)
  s6 : w.cell? ⟨S, 6, none⟩ = some (.slice (some ⟨Z, P, none⟩) P P)
  s6f : w.frozen? ⟨S, 6, none⟩ = false
  z : w.rowIs Z 83 (4 * P) (fun _ => .int .u64 0)

theorem ca1 {w : World} {a : Addr} {v : Value} (h : w.cell? a = some v) (o : Obj) : (w.alloc o).cell? a = some v := by
  rw [World.cell?_alloc_lt _ _ _ (World.block_lt_of_cell? w a h)]; exact h
theorem fa1 {w : World} {a : Addr} {v : Value} (hc : w.cell? a = some v) (h : w.frozen? a = false) (o : Obj) : (w.alloc o).frozen? a = false := by
  rw [World.frozen?_alloc_old _ _ _ (Nat.ne_of_lt (World.block_lt_of_cell? w a hc))]; exact h

theorem setCells_block {b b' : Nat} : ∀ (vs : List Value) (o : Nat) (w : World), ¬ b' = b → (w.setCells b o vs).heap[b']? = w.heap[b']?
  | [], _, _, _ => rfl
  | v :: r, o, w, h => (setCells_block r (o + 1) _ h).trans (Below.heap_setCell w ⟨b, o, none⟩ v b' h)

theorem fill_grown {w1 w2 : World} {M : Nat} {v : Value} (hb : Below w1.heap.size w1.drew w2) : w1.grownBy (w2.setCell ⟨M, 27, none⟩ v) (some M) := by
  refine ⟨hb.os, hb.tape, hb.output, by have := hb.size; simpa using this, fun k hk hne => ?_⟩
  exact (Below.heap_setCell _ _ _ _ (fun e => hne (by rw [e]))).trans (hb.block k hk)

set_option maxRecDepth 100000 in
set_option maxHeartbeats 1000000 in
theorem bounds_any (M Pb C S Z n P cc : Nat) (ca : Option Addr) (st : Value) (p q : Int) (w : World) (h : BSt w M Pb C S Z n P cc ca) (hn : 0 < n) (hn2 : n ≤ 300) (hP : P = (n + 63) / 64) (B : Nat) (hBM : B ≤ M) (hBZ : B ≤ Z) (hBS : B ≤ S) (hMS : ¬ M = S) (hMZ : ¬ M = Z) (hSZ : ¬ S = Z) (hMC : ¬ M = C) :
    Calls Ybad.prog 12 #[.pointer (some ⟨M, 0, none⟩), .int .i64 0, .int .i64 0, st, .int .i64 p, .int .i64 q, .pointer (some ⟨S, 0, none⟩)] w fun e w' => e = .returned (.bool true) ∧
      w'.heap[S]? = w.heap[S]? ∧ w'.rowIs Z 83 (4 * P) (fun j => .int .u64 (if P ≤ j ∧ j < 2 * P then low (wb n (j - P)) else 0)) ∧ Below B w w' := by
  have m3 := h.m3; have m27 := h.m27; have m27f := h.m27f; have p3 := h.p3; have c2 := h.c2; have c13 := h.c13; have s5 := h.s5; have s6 := h.s6; have s6f := h.s6f; have hz := h.z
  have l1 : M < w.heap.size := World.block_lt_of_cell? w _ m3
  have l2 : Pb < w.heap.size := World.block_lt_of_cell? w _ p3
  have l3 : C < w.heap.size := World.block_lt_of_cell? w _ c2
  have l4 : S < w.heap.size := World.block_lt_of_cell? w _ s5
  have l5 : Z < w.heap.size := hz.lt
  have HP : Hid (P = (n + 63) / 64) := hP
  clear h hP
  go_enter Ybad.func12, Ybad.ntmps12
  go_wp2_with fail
  have m3' := ca1 (ca1 m3 (.cells #[.pointer (some ⟨S, 0, none⟩)] 81)) (.cells #[.pointer (some ⟨C, 0, none⟩)] 77)
  have m27' := ca1 (ca1 m27 (.cells #[.pointer (some ⟨S, 0, none⟩)] 81)) (.cells #[.pointer (some ⟨C, 0, none⟩)] 77)
  have m27f' := fa1 (ca1 m27 _) (fa1 m27 m27f (.cells #[.pointer (some ⟨S, 0, none⟩)] 81)) (.cells #[.pointer (some ⟨C, 0, none⟩)] 77)
  have c2' := ca1 (ca1 c2 (.cells #[.pointer (some ⟨S, 0, none⟩)] 81)) (.cells #[.pointer (some ⟨C, 0, none⟩)] 77)
  have c13' := ca1 (ca1 c13 (.cells #[.pointer (some ⟨S, 0, none⟩)] 81)) (.cells #[.pointer (some ⟨C, 0, none⟩)] 77)
  have s5' := ca1 (ca1 s5 (.cells #[.pointer (some ⟨S, 0, none⟩)] 81)) (.cells #[.pointer (some ⟨C, 0, none⟩)] 77)
  have s6' := ca1 (ca1 s6 (.cells #[.pointer (some ⟨S, 0, none⟩)] 81)) (.cells #[.pointer (some ⟨C, 0, none⟩)] 77)
  have s6f' := fa1 (ca1 s6 _) (fa1 s6 s6f (.cells #[.pointer (some ⟨S, 0, none⟩)] 81)) (.cells #[.pointer (some ⟨C, 0, none⟩)] 77)
  have hz' := (hz.alloc (.cells #[.pointer (some ⟨S, 0, none⟩)] 81)).alloc (.cells #[.pointer (some ⟨C, 0, none⟩)] 77)
  have d0 : ((w.alloc (.cells #[.pointer (some ⟨S, 0, none⟩)] 81)).alloc (.cells #[.pointer (some ⟨C, 0, none⟩)] 77)).cell? ⟨w.heap.size, 0, none⟩ = some (.pointer (some ⟨S, 0, none⟩)) := by go_simp
  have d1 : ((w.alloc (.cells #[.pointer (some ⟨S, 0, none⟩)] 81)).alloc (.cells #[.pointer (some ⟨C, 0, none⟩)] 77)).cell? ⟨w.heap.size + 1, 0, none⟩ = some (.pointer (some ⟨C, 0, none⟩)) := by go_simp
  have hb1 : Below w.heap.size w ((w.alloc (.cells #[.pointer (some ⟨S, 0, none⟩)] 81)).alloc (.cells #[.pointer (some ⟨C, 0, none⟩)] 77)) := ((Below.refl _ _).alloc (Nat.le_refl _) _).alloc (by simp) _
  have hs1 : ((w.alloc (.cells #[.pointer (some ⟨S, 0, none⟩)] 81)).alloc (.cells #[.pointer (some ⟨C, 0, none⟩)] 77)).heap.size = w.heap.size + 2 := by simp
  clear m3 m27 m27f p3 c2 c13 s5 s6 s6f hz
  generalize ((w.alloc (.cells #[.pointer (some ⟨S, 0, none⟩)] 81)).alloc (.cells #[.pointer (some ⟨C, 0, none⟩)] 77)) = w1 at *
  have HS1 : Hid (w1.heap.size = w.heap.size + 2) := hs1
  have l6 : w.heap.size + 1 < w1.heap.size := by omega
  have l7 : w.heap.size < w1.heap.size := by omega
  have l1' : M < w1.heap.size := by omega
  have l3' : C < w1.heap.size := by omega
  clear hs1
  go_cut [13, 15] (fun a13 a15 wc => a13 = .pointer (some ⟨w.heap.size, 0, none⟩) ∧ a15 = .pointer (some ⟨w.heap.size + 1, 0, none⟩) ∧ ∃ F, w1.heap.size ≤ F ∧ wc.cell? ⟨M, 27, none⟩ = some (.slice (some ⟨F, 0, none⟩) P P) ∧ wc.rowIs F 83 P (fun j => .int .u64 (low (wb n j))) ∧ w1.grownBy wc (some M))
  case first =>
    go_region_with (first | (go_at_call 20; refine (filled_any n P hn hn2 HP.out _).mono ?_; rintro e w2 ⟨rfl, hrow2, hb2, hsz2⟩; have m27f2 := (hb2.frozen (p := ⟨M, 27, none⟩) (by exact l1')).trans m27f'; have m272 := (hb2.cell (p := ⟨M, 27, none⟩) (by exact l1')).trans m27'))
    all_goals
      go_wp2_with fail
      go_meet
      case rel =>
        refine ⟨rfl, rfl, w1.heap.size, Nat.le_refl _, ?_, ?_, ?_⟩
        · exact World.cell?_setCell_same _ _ _ m272
        · exact hrow2.setOther (by show w1.heap.size ≠ M; omega) _
        · exact fill_grown hb2
  case rest =>
    obtain ⟨rfl, rfl, F, hF, m27c, hrowF, hg⟩ := hcut
    have hk : ∀ b, b < w1.heap.size → b ≠ M → wc.heap[b]? = w1.heap[b]? := fun b h1 h2 => hg.block b h1 (by simpa using h2)
    have c13c : wc.cell? ⟨C, 13, none⟩ = some (.slice none 0 0) := (World.cell?_of_block (w := w1) (a := ⟨C, 13, none⟩) (hk C (by omega) (fun e => hMC e.symm))).trans c13'
    have s5c : wc.cell? ⟨S, 5, none⟩ = some (.slice (some ⟨Z, 0, none⟩) P P) := (World.cell?_of_block (w := w1) (a := ⟨S, 5, none⟩) (hk S (by omega) (fun e => hMS e.symm))).trans s5'
    have s6c : wc.cell? ⟨S, 6, none⟩ = some (.slice (some ⟨Z, P, none⟩) P P) := (World.cell?_of_block (w := w1) (a := ⟨S, 6, none⟩) (hk S (by omega) (fun e => hMS e.symm))).trans s6'
    have s6fc : wc.frozen? ⟨S, 6, none⟩ = false := (World.frozen?_of_block (w := w1) (a := ⟨S, 6, none⟩) (hk S (by omega) (fun e => hMS e.symm))).trans s6f'
    have d0c : wc.cell? ⟨w.heap.size, 0, none⟩ = some (.pointer (some ⟨S, 0, none⟩)) := (World.cell?_of_block (w := w1) (a := ⟨w.heap.size, 0, none⟩) (hk w.heap.size (by omega) (by omega))).trans d0
    have d1c : wc.cell? ⟨w.heap.size + 1, 0, none⟩ = some (.pointer (some ⟨C, 0, none⟩)) := (World.cell?_of_block (w := w1) (a := ⟨w.heap.size + 1, 0, none⟩) (hk (w.heap.size + 1) (by omega) (by omega))).trans d1
    have hzc : wc.rowIs Z 83 (4 * P) (fun _ => .int .u64 0) := hz'.of_block (hk Z (by omega) (fun e => hMZ e.symm))
    have hS : wc.heap[S]? = w.heap[S]? := (hk S (by omega) (fun e => hMS e.symm)).trans (hb1.block S l4)
    have hBw : Below B w wc := ⟨hg.os.trans hb1.os, hg.tape.trans hb1.tape, hg.output.trans hb1.output, Nat.le_trans hb1.size hg.size, fun b hb => (hk b (by omega) (by omega)).trans (hb1.block b (by omega))⟩
    have lw : w1.heap.size ≤ wc.heap.size := hg.size
    have HSb : Hid (wc.heap[S]? = w.heap[S]?) := hS
    have HBw : Hid (Below B w wc) := hBw
    have g1 : M < wc.heap.size := by omega
    have g2 : C < wc.heap.size := by omega
    have g3 : S < wc.heap.size := by omega
    have g4 : w.heap.size < wc.heap.size := by omega
    have g5 : w.heap.size + 1 < wc.heap.size := by omega
    have HF : F < wc.heap.size := hrowF.lt
    clear hS hBw hk hg m3' m27' m27f' c2' c13' s5' s6' s6f' hz' d0 d1 hb1 l1 l2 l3 l4 l6 l1' l3'
    go_wp2_with fail
    go_loopw [59] (fun i wr => i = .int .i64 0 ∧ Hid (wr = wc.alloc (.cells #[.slice (some ⟨F, 0, none⟩) P P] 27))) (fun _ _ => 0)
    case atStart => exact ⟨rfl, rfl⟩
    case round =>
      obtain ⟨rfl, hw⟩ := hrel
      have hw' := hw.out
      subst hw'
      go_wp2_with fail
      have d0e := ca1 d0c (.cells #[.slice (some ⟨F, 0, none⟩) P P] 27)
      have s5e := ca1 s5c (.cells #[.slice (some ⟨F, 0, none⟩) P P] 27)
      have s6e := ca1 s6c (.cells #[.slice (some ⟨F, 0, none⟩) P P] 27)
      have s6fe := fa1 s6c s6fc (.cells #[.slice (some ⟨F, 0, none⟩) P P] 27)
      have rFe := hrowF.alloc (.cells #[.slice (some ⟨F, 0, none⟩) P P] 27)
      have rZe := hzc.alloc (.cells #[.slice (some ⟨F, 0, none⟩) P P] 27)
      have mye : (wc.alloc (.cells #[.slice (some ⟨F, 0, none⟩) P P] 27)).cell? ⟨wc.heap.size, 0, none⟩ = some (.slice (some ⟨F, 0, none⟩) P P) := World.cell?_alloc_at _ _ _ _ rfl
      have HSe : Hid ((wc.alloc (.cells #[.slice (some ⟨F, 0, none⟩) P P] 27)).heap[S]? = w.heap[S]?) := (Below.heap_alloc _ _ _ g3).trans HSb.out
      have HBe : Hid (Below B w (wc.alloc (.cells #[.slice (some ⟨F, 0, none⟩) P P] 27))) := HBw.out.alloc (by omega) _
      have le : (wc.alloc (.cells #[.slice (some ⟨F, 0, none⟩) P P] 27)).heap.size = wc.heap.size + 1 := by simp
      have n1 : ¬ w.heap.size = Z := by omega
      have n2 : ¬ wc.heap.size = Z := by omega
      have n3 : ¬ F = Z := by omega
      clear d0c d1c s5c s6c s6fc hrowF hzc c13c m27c HSb HBw
      generalize hw3 : wc.alloc (.cells #[.slice (some ⟨F, 0, none⟩) P P] 27) = w3 at *
      generalize wc.heap.size = D at *
      clear hw3 hw
      obtain ⟨i0, hi, hz0, hz1, hz2⟩ := info_parts Ybad.info83
      have hnl : ((List.range P).map fun j => Value.int .u64 (low (wb n j))).length = P * 1 := by simp
      have HNW : Hid (∀ j u, ((List.range P).map fun j => Value.int .u64 (low (wb n j)))[j]? = some u → w3.cell? ((⟨F, 0, none⟩ : Addr).add j) = some u) := by
        intro j u hj
        have hjl : j < P := by have := (List.getElem?_eq_some_iff.1 hj).1; simpa using this
        rw [Go.WideShapes.add_plain, Nat.zero_add, rFe.cell hjl]
        simpa [hjl] using hj
      have HN1 : Hid (∀ u ∈ ((List.range P).map fun j => Value.int .u64 (low (wb n j))), u.oneCell' = true) := by
        intro u hu; simp at hu; obtain ⟨j, _, rfl⟩ := hu; rfl
      have HSP : Hid (∀ j, j < ((List.range P).map fun j => Value.int .u64 (low (wb n j))).length → (w3.cell? ⟨Z, P + 0 * 1 + j, none⟩).isSome = true ∧ w3.frozen? ⟨Z, P + 0 * 1 + j, none⟩ = false) := by
        intro j hj
        have hjl : j < P := by simpa using hj
        exact ⟨by rw [rZe.cell (by omega)]; rfl, rZe.frozen _⟩
      have HZ4 : Hid ((w3.drew.setCells Z (P + 0 * 1) ((List.range P).map fun j => Value.int .u64 (low (wb n j)))).rowIs Z 83 (4 * P) (fun j => .int .u64 (if P ≤ j ∧ j < 2 * P then low (wb n (j - P)) else 0))) := by
        refine (rowIs_setCells _ _ _ _ rZe.drew).congr fun j hj => ?_
        simp only [Nat.zero_mul, Nat.add_zero, List.length_map, List.length_range]
        by_cases h : P ≤ j ∧ j < P + P
        · rw [if_pos h, if_pos (by omega)]
          simp [show j - P < P from by omega]
        · rw [if_neg h, if_neg (by omega)]
      have HS4 : Hid ((w3.drew.setCells Z (P + 0 * 1) ((List.range P).map fun j => Value.int .u64 (low (wb n j)))).heap[S]? = w.heap[S]?) := (setCells_block _ _ _ hSZ).trans (show w3.drew.heap[S]? = w.heap[S]? from HSe.out)
      have HB4 : Hid (Below B w (w3.drew.setCells Z (P + 0 * 1) ((List.range P).map fun j => Value.int .u64 (low (wb n j))))) := below_setCells hBZ _ _ _ HBe.out.drew
      have kc : ∀ b o, ¬ b = Z → (w3.drew.setCells Z (P + 0 * 1) ((List.range P).map fun j => Value.int .u64 (low (wb n j)))).cell? ⟨b, o, none⟩ = w3.cell? ⟨b, o, none⟩ := fun b o hb => World.cell?_of_block (w := w3.drew) (a := ⟨b, o, none⟩) (setCells_block _ _ _ hb)
      have d0f := (kc _ 0 n1).trans d0e
      have s5f := (kc _ 5 hSZ).trans s5e
      have s6f' := (kc _ 6 hSZ).trans s6e
      have myf := (kc _ 0 n2).trans mye
      have s6ff : (w3.drew.setCells Z (P + 0 * 1) ((List.range P).map fun j => Value.int .u64 (low (wb n j)))).frozen? ⟨S, 6, none⟩ = false := (World.frozen?_of_block (w := w3.drew) (a := ⟨S, 6, none⟩) (setCells_block _ _ _ hSZ)).trans s6fe
      generalize ((List.range P).map fun j => Value.int .u64 (low (wb n j))) = news at *
      have rFf : Hid ((w3.drew.setCells Z (P + 0 * 1) news).rowIs F 83 P (fun j => .int .u64 (low (wb n j)))) := rowIs_setCells_other n3 _ _ _ rFe.drew
      have KK : Hid (∃ w4, w3.drew.setCells Z (P + 0 * 1) news = w4 ∧ (w4.cell? ⟨w.heap.size, 0, none⟩ = some (.pointer (some ⟨S, 0, none⟩)) ∧ w4.cell? ⟨S, 6, none⟩ = some (.slice (some ⟨Z, P, none⟩) P P) ∧ w4.cell? ⟨D, 0, none⟩ = some (.slice (some ⟨F, 0, none⟩) P P)) ∧
          w4.cell? ⟨S, 5, none⟩ = some (.slice (some ⟨Z, 0, none⟩) P P) ∧ w4.frozen? ⟨S, 6, none⟩ = false ∧ w4.setCell ⟨S, 6, none⟩ (.slice (some ⟨Z, P, none⟩) P P) = w4 ∧
          Hid (w4.rowIs Z 83 (4 * P) (fun j => .int .u64 (if P ≤ j ∧ j < 2 * P then low (wb n (j - P)) else 0)) ∧ w4.rowIs F 83 P (fun j => .int .u64 (low (wb n j))) ∧ w4.heap[S]? = w.heap[S]? ∧ Below B w w4)) :=
        ⟨_, rfl, ⟨d0f, s6f', myf⟩, s5f, s6ff, setCell_same s6f', HZ4.out, rFf.out, HS4.out, HB4.out⟩
      clear kc rFe rZe d0f s6f' myf s5f s6ff HZ4 rFf HS4 HB4
      go_region_held3 (fun w' => w'.cell? ⟨w.heap.size, 0, none⟩ = some (.pointer (some ⟨S, 0, none⟩)) ∧ w'.cell? ⟨S, 6, none⟩ = some (.slice (some ⟨Z, P, none⟩) P P) ∧ w'.cell? ⟨D, 0, none⟩ = some (.slice (some ⟨F, 0, none⟩) P P)) (first | exact ⟨q1, q2, q3⟩ | go_keep)
        ((refine step_append_room (by rfl) (.tmp 186) (.tmp 187) 27 (by rfl) 83 i0 1 Ybad.underlying27 hi hz1 Z P 0 P (by simp [Act.eval]) ⟨F, 0, none⟩ P P news (by simp [Act.eval]) hnl HNW.out HN1.out (by omega) HSP.out ?_; obtain ⟨w4, hw4, ⟨q1, q2, q3⟩, q5, qf, qs, HQ⟩ := KK.out; rw [hw4]; clear hw4))
      have hP5 : P ≤ 5 := by have := HP.out; omega
      obtain ⟨rZ4, rF4, hS4, hB4⟩ := HQ.out
      have HM : Hid (∀ k, Calls Ybad.prog 26 #[.slice (some ⟨Z, P, none⟩) P P, .slice (some ⟨Z, 0, none⟩) P P] (w4.drewN k) fun e w' => e = .returned (.tuple #[]) ∧ ∃ m, w' = (w4.drewN k).drewN m) := fun k =>
        minus_zero Z P P P Z 0 P P (fun j => low (wb n j)) rfl (by omega) (w4.drewN k) (fun j => low_bounds _ (wb_le n j)) (fun j hj => by
            rw [World.cell?_drewN, rZ4.cell (by omega), if_pos (by omega), Nat.add_sub_cancel_left]) (fun j hj => rZ4.frozen _) (fun j hj => by
            rw [World.cell?_drewN, rZ4.cell (by omega), if_neg (by omega)])
      have HW : Hid (∀ k, Calls Ybad.prog 17 #[.slice (some ⟨Z, 0, none⟩) P P, .slice (some ⟨F, 0, none⟩) P P] (w4.drewN k) fun e w' => e = .returned (.bool true) ∧ w' = w4.drewN k) := fun k =>
        within_zero Z 0 P P F 0 P P (fun j => low (wb n j)) (Nat.le_refl _) (by omega) (w4.drewN k) (fun j => low_bounds _ (wb_le n j)) (fun j hj => by
            rw [World.cell?_drewN, rZ4.cell (by omega), if_neg (by omega)]) (fun j hj => by rw [World.cell?_drewN, rF4.cell (by omega), Nat.zero_add])
      clear rZ4 rF4 hS4 hB4 HNW HN1 HSP KK hnl HSe HBe qs
      go_wp2_with fail
      go_quiet ((go_at_call 26; exact Calls.quiet_of (HM.out _)))
      go_wp2_with fail
      have q1' : (w4.drewN nq).cell? ⟨w.heap.size, 0, none⟩ = some (.pointer (some ⟨S, 0, none⟩)) := q1
      have q5' : (w4.drewN nq).cell? ⟨S, 5, none⟩ = some (.slice (some ⟨Z, 0, none⟩) P P) := q5
      have q3' : (w4.drewN nq).cell? ⟨D, 0, none⟩ = some (.slice (some ⟨F, 0, none⟩) P P) := q3
      have HW5 : Hid (∀ k, Calls Ybad.prog 17 #[.slice (some ⟨Z, 0, none⟩) P P, .slice (some ⟨F, 0, none⟩) P P] ((w4.drewN nq).drewN k) fun e w' => e = .returned (.bool true) ∧ w' = (w4.drewN nq).drewN k) := fun k => by
        rw [World.drewN_drewN]; exact HW.out _
      obtain ⟨rZ4, rF4, hS4, hB4⟩ := HQ.out
      have HQ5 : Hid ((w4.drewN nq).rowIs Z 83 (4 * P) (fun j => .int .u64 (if P ≤ j ∧ j < 2 * P then low (wb n (j - P)) else 0)) ∧ (w4.drewN nq).heap[S]? = w.heap[S]? ∧ Below B w (w4.drewN nq)) :=
        ⟨rZ4, hS4, hB4.trans ⟨rfl, rfl, rfl, Nat.le_refl _, fun _ _ => rfl⟩⟩
      clear rZ4 rF4 hS4 hB4 HW HQ HM q1 q2 q3 q5 qf
      generalize w4.drewN nq = w5 at *
      go_quiet ((go_at_call 17; exact Calls.quiet_of_same (HW5.out _)))
      go_wp2_with fail
      go_ret
      obtain ⟨rZ5, hS5, hB5⟩ := HQ5.out
      exact ⟨rfl, hS5, rZ5, hB5.trans ⟨rfl, rfl, rfl, Nat.le_refl _, fun _ _ => rfl⟩⟩
end Go.Proofs.YbulkpfsDoor
