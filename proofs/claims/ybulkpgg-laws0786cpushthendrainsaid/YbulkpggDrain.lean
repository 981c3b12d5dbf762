/- LawS0786CPushThenDrain: the walk. -/
import Derived.Test.YbulkpggPop
set_option linter.unusedVariables false
namespace Go.Proofs.Ybulkpgg
open Go.RowKit Go.Deep

theorem LMid.pushBack {w w3 : World} {B n k W : Nat} {A : Nat → Nat} {S : Nat → Int} {l : List Nat} {fw fm : Nat → Value} (h : LMid w w3 B n k W A S l fw fm) :
    Calls Yba.prog 16 #[.pointer (some ⟨B, 0, none⟩), .pointer (some ⟨W, 0, none⟩)] w3 fun e w4 => e = .returned (.tuple #[]) ∧ (Que w4 B A S (ins l k k) ∧ w4.rowIs (B + 1) 49 n fw ∧ w4.rowIs (B + 2) 3 n fm ∧ Below B w w4 ∧ w4.heap.size = w3.heap.size) := by
  have hL := h.link k (Nat.le_refl _)
  have e : prv l k = l[l.length - 1]? := by
    rw [h.len]
    by_cases h0 : k = 0
    · have : l = [] := List.length_eq_zero_iff.1 (by rw [h.len]; exact h0)
      subst this; subst h0; rfl
    · exact prv_pos l k (by omega)
  rw [e] at hL
  have q1 := h.que.q.cell (i := 1) (by omega)
  simp [qF] at q1
  exact pushBack_of B W _ w3 _ q1 ⟨_, rfl⟩ hL

theorem LMid.pushFront {w w3 : World} {B n k W : Nat} {A : Nat → Nat} {S : Nat → Int} {l : List Nat} {fw fm : Nat → Value} (h : LMid w w3 B n k W A S l fw fm) :
    Calls Yba.prog 17 #[.pointer (some ⟨B, 0, none⟩), .pointer (some ⟨W, 0, none⟩)] w3 fun e w4 => e = .returned (.tuple #[]) ∧ (Que w4 B A S (ins l 0 k) ∧ w4.rowIs (B + 1) 49 n fw ∧ w4.rowIs (B + 2) 3 n fm ∧ Below B w w4 ∧ w4.heap.size = w3.heap.size) :=
  pushFront_of B W w3 _ (h.link 0 (Nat.zero_le _))

theorem insert_front (Rm k n x vb vc : Nat) (fm : Nat → Value) (l : List Nat) (w : World) (hr : w.rowIs Rm 3 n fm) (hl : l.length = k) (hk : k + 1 ≤ n) (hn : n ≤ 1024)
    (hf : ∀ (j i : Nat), l[j]? = some i → fm j = .int .i64 i) (hv : w.rowIs vb 3 1 (fun _ => .int .i64 x)) (hne : vb ≠ Rm) :
    Calls Yba.prog 14 #[.slice (some ⟨Rm, 0, none⟩) k n, .int .i64 0, .slice (some ⟨vb, 0, none⟩) 1 vc] w fun e w' => e = .returned (.slice (some ⟨Rm, 0, none⟩) (k + 1) n) ∧
      (∃ fm', w'.rowIs Rm 3 n fm' ∧ ∀ (j i : Nat), (ins l 0 x)[j]? = some i → fm' j = .int .i64 i) ∧ Only (fun b => b = Rm) w w' :=
  insert_any Rm k n 0 x vb vc fm l w hr hl hk hn hf (Nat.zero_le _) hv hne

theorem back_only (w4 : World) (R k : Nat) (v : Value) (o : Obj) (hR : R < w4.heap.size) : Only (fun b => b = R) (w4.alloc o) ((w4.setCell ⟨R, k, none⟩ v).alloc o) := by
  refine ⟨rfl, rfl, rfl, by simp, fun b hb => ?_⟩
  by_cases h : b < w4.heap.size
  · rw [Below.heap_alloc _ _ _ (by simpa using h), Below.heap_alloc _ _ _ h, Below.heap_setCell _ _ _ _ hb]
  · by_cases h2 : b = w4.heap.size
    · subst h2
      rw [Go.Deep.blk_alloc_new w4 o]
      have := Go.Deep.blk_alloc_new (w4.setCell ⟨R, k, none⟩ v) o
      simpa using this
    · rw [Array.getElem?_eq_none (by simp; omega), Array.getElem?_eq_none (by simp; omega)]

theorem back_fm {k : Nat} {l : List Nat} {fm : Nat → Value} (hlen : l.length = k) (hf : ∀ (j i : Nat), l[j]? = some i → fm j = .int .i64 i) (j i : Nat) (h : (ins l k k)[j]? = some i) :
    (if j = k then Value.int .i64 k else fm j) = .int .i64 i := by
  have hjl : j < k + 1 := by
    have := (List.getElem?_eq_some_iff.1 h).1
    rw [ins_length l k k (by omega)] at this; omega
  by_cases e : j = k
  · subst e
    rw [ins_eq l j j (by omega)] at h
    obtain rfl : j = i := by simpa using h
    rw [if_pos rfl]
  · rw [ins_lt l k k j (by omega) (by omega)] at h
    rw [if_neg e]; exact hf j i h

set_option maxHeartbeats 1000000 in
theorem drain_walk (x0 : Option Addr) (n c0 : Nat) (w : World) (hn : n ≤ 1024)
    (h0 : ∀ i, i < n → ∃ b0 o0 z, x0 = some ⟨b0, o0, none⟩ ∧ b0 < w.heap.size ∧ w.cell? ⟨b0, o0 + i, none⟩ = some (.bool z)) :
    Calls Yba.prog 6 #[.slice x0 n c0] w fun e w' => e = .returned (.bool true) ∧ Below w.heap.size w w' := by
  have hl1 : ¬ (1024 : Int) < (n : Int) := by omega
  have hmk := run_make_room (P := Yba.prog) 52 49 (.pointer none) 8 Yba.underlying52 Yba.info49 rfl .i64 .i64 n (by omega) (by omega)
  have hmk2 := run_make_room (P := Yba.prog) 53 3 (.int .i64 0) 8 Yba.underlying53 Yba.info3 rfl .i64 .i64 n (by omega) (by omega)
  go_enter Yba.func6, Yba.ntmps6
  go_wp2
  clear hmk hmk2
  go_loopw [4, 5, 6] (fun ws md i wr => ∃ (k : Nat) (A : Nat → Nat) (S : Nat → Int) (l : List Nat) (fw fm : Nat → Value), k ≤ n ∧ i = .int .i64 k ∧ ws = .slice (some ⟨w.heap.size + 1, 0, none⟩) k n ∧ md = .slice (some ⟨w.heap.size + 2, 0, none⟩) k n ∧ LState w wr w.heap.size n k A S l fw fm)
    (fun _ _ i _ => n - (intOf i).toNat)
  case atStart =>
    exact ⟨0, _, _, _, _, _, Nat.zero_le _, rfl, rfl, rfl, lstate_start w n⟩
  case round =>
    obtain ⟨k, A, S, l, fw, fm, hk, rfl, rfl, rfl, hS⟩ := hrel
    by_cases hkl : k < n
    · obtain ⟨b0, o0, z, rfl, hb0, hz0c⟩ := h0 k hkl
      have e0 : wr.cell? ⟨b0, o0 + k, none⟩ = some (.bool z) := (hS.bel.cell (by exact hb0)).trans hz0c
      clear hz0c
      have wc : wr.cell? ⟨w.heap.size + 1, k, none⟩ = some (fw k) := hS.ws.cell hkl
      have wf : wr.frozen? ⟨w.heap.size + 1, k, none⟩ = false := hS.ws.frozen k
      have hsz := hS.sz
      have hz0 : w.heap.size < wr.heap.size := by omega
      have hz1 : w.heap.size + 1 < wr.heap.size := by omega
      have hz2 : w.heap.size + 2 < wr.heap.size := by omega
      have y1 : b0 < wr.heap.size := by omega
      have y2 : b0 < wr.heap.size + 1 := by omega
      have y3 : ¬ b0 = w.heap.size + 1 := by omega
      have y4 : ¬ w.heap.size + 1 = b0 := by omega
      obtain ⟨A', S', fw', hA', hM⟩ := hS.stage' ((k : Int) * 3)
      clear h0 hA' hS
      have hlen := hM.len
      have hlt := hM.lt
      have hblk := hM.blk
      have hnew := hM.new
      have hfws := hM.fws
      have hfmd := hM.fmd
      have hszM := hM.sz
      have HL : Hid (l.length = k) := hlen
      have HN : Hid (A' k = wr.heap.size) := hnew
      have HF : Hid (∀ i, i < k + 1 → fw' i = ptr A' (some i)) := hfws
      have HM : Hid (∀ (j i : Nat), l[j]? = some i → fm j = .int .i64 i) := hfmd
      have HT : Hid (∀ (j i : Nat), l[j]? = some i → i < k) := hlt
      clear hlen hnew hfws hfmd hlt
      by_cases hz : z = true
      · rw [hz] at e0
        have hL := hM.pushBack
        clear hM
        go_wp2_with fail
        refine hL.mono ?_
        clear hL
        rintro e w4 ⟨rfl, hQ4, hws4, hmd4, hbel4, hsz4⟩
        rw [← hsz4] at hszM
        clear hsz4 e0 wc wf
        have mc := hmd4.cell (i := k) hkl
        have mf := hmd4.frozen k
        have u1 : w.heap.size + 2 < w4.heap.size := by omega
        have hmd6 := (hmd4.set k (.int .i64 k)).alloc (.cells #[.int .i64 (k : Int)] 3)
        have hN := lstate_next k (Nat.le_refl _) HL.out HT.out hblk HN.out HF.out hQ4 hws4 hbel4 hszM hmd6 (back_fm HL.out HM.out) (back_only w4 _ k _ _ u1)
        clear hQ4 hws4 hbel4 hszM hmd6 hblk hmd4
        go_wp2_with fail
        go_roundw
        case rel => exact ⟨k + 1, A', S', ins l k k, fw', _, by omega, by go_num, rfl, rfl, hN⟩
        case measure => simp [intOf]; omega
      · have hz' : z = false := by simpa using hz
        rw [hz'] at e0
        have hL := hM.pushFront
        clear hM
        go_wp2_with fail
        refine hL.mono ?_
        clear hL
        rintro e w4 ⟨rfl, hQ4, hws4, hmd4, hbel4, hsz4⟩
        rw [← hsz4] at hszM
        clear hsz4 e0 wc wf
        go_wp2_with fail
        refine (insert_front (w.heap.size + 2) k n k w4.heap.size 1 fm l _ (hmd4.alloc _) HL.out (by omega) hn HM.out (one_row w4 k) (by omega)).mono ?_
        rintro e w6 ⟨rfl, ⟨fm', hmd6, hfm6⟩, hO6⟩
        have hN := lstate_next 0 (Nat.zero_le _) HL.out HT.out hblk HN.out HF.out hQ4 hws4 hbel4 hszM hmd6 hfm6 hO6
        clear hQ4 hws4 hbel4 hszM hmd6 hfm6 hO6 hblk hmd4
        go_wp2_with fail
        go_roundw
        case rel => exact ⟨k + 1, A', S', ins l 0 k, fw', fm', by omega, by go_num, rfl, rfl, hN⟩
        case measure => simp [intOf]; omega
    · have hkn : k = n := by omega
      subst hkn
      go_wp2_with fail
      refine (check_state hS (Nat.le_refl _) hn).mono ?_
      rintro e w1 ⟨rfl, rfl⟩
      go_wp2_with fail
      have HL : Hid (l.length = k) := hS.len
      have HT : Hid (∀ (j i : Nat), l[j]? = some i → i < k) := hS.lt
      have HB : Hid (∀ i, i < k → w.heap.size + 2 < A i) := fun i hi => (hS.blk i hi).1
      have HF : Hid (∀ i, i < k → fw i = ptr A (some i)) := hS.fws
      have HM : Hid (∀ (j i : Nat), l[j]? = some i → fm j = .int .i64 i) := hS.fmd
      have hq := hS.que
      have hw := hS.ws
      have hm := hS.md
      have hb := hS.bel
      clear hS h0
      go_loopw [8] (fun i wr => ∃ m : Nat, m ≤ k ∧ i = .int .i64 m ∧ Que wr w.heap.size A S (l.drop m) ∧ wr.rowIs (w.heap.size + 1) 49 k fw ∧ wr.rowIs (w.heap.size + 2) 3 k fm ∧ Below w.heap.size w wr)
        (fun i _ => k - (intOf i).toNat)
      case atStart => exact ⟨0, Nat.zero_le _, rfl, hq, hw, hm, hb⟩
      case round =>
        clear hq hw hm hb
        obtain ⟨m, hmk, rfl, hq, hw, hm, hb⟩ := hrel
        by_cases hlt : m < k
        · have hex : ∃ x, l[m]? = some x := ⟨_, List.getElem?_eq_getElem (by rw [HL.out]; exact hlt)⟩
          obtain ⟨x, hx⟩ := hex
          have hxk := HT.out m x hx
          have hcons : l.drop m = x :: l.drop (m + 1) := by
            obtain ⟨hml, he⟩ := List.getElem?_eq_some_iff.1 hx
            rw [List.drop_eq_getElem_cons hml, he]
          have HC : Hid (l[m]? = some x) := hx
          clear hx
          rw [hcons] at hq
          clear hcons
          have q0 := hq.q.cell (i := 0) (by omega)
          simp [qF, ptr_some] at q0
          have hP := pop_any w.heap.size A S x (l.drop (m + 1)) wr hq
          have HP := hide hP
          have HQ := hide hq
          clear hP hq
          go_wp2_with fail
          refine (empty_any _ _ _ q0).mono ?_
          rintro e w' ⟨rfl, rfl⟩
          clear q0
          go_wp2_with fail
          refine (unhide HP).mono ?_
          rintro e w5 ⟨rfl, hq5, hx5, hO5⟩
          have memb : ∀ i, i ∈ l.drop (m + 1) → i < k := fun i hi => by
            obtain ⟨j, hj⟩ := List.getElem?_of_mem hi
            rw [List.getElem?_drop] at hj
            exact HT.out _ i hj
          have nm : ∀ b, b ≤ w.heap.size + 2 → b ≠ w.heap.size → ¬ Mine w.heap.size A x (l.drop (m + 1)) b := by
            intro b hb1 hb2 hmi
            rcases hmi with rfl | rfl | ⟨i, hi, rfl⟩
            · exact hb2 rfl
            · have := HB.out x hxk; omega
            · have := HB.out i (memb i hi); omega
          have hw5 := hO5.row (nm _ (by omega) (by omega)) hw
          have hm5 := hO5.row (nm _ (by omega) (by omega)) hm
          have hb5 := hb.trans (hO5.below fun b hb1 => nm b (by omega) (by omega))
          have d1 : w5.cell? ⟨w.heap.size + 2, m, none⟩ = some (.int .i64 x) := by rw [hm5.cell hlt, HM.out m x HC.out]
          have d2 : w5.cell? ⟨w.heap.size + 1, x, none⟩ = some (.pointer (some ⟨A x, 0, none⟩)) := by rw [hw5.cell hxk, HF.out x hxk, ptr_some]
          have d3 := hx5.cell (i := 2) (by omega)
          have d4 := hx5.cell (i := 3) (by omega)
          simp [nF] at d3 d4
          have hsame := neq_same
          clear HP HQ memb nm hO5 hw hm hb hx5
          go_wp2_with fail
          go_roundw
          case rel => exact ⟨m + 1, by omega, by go_num, hq5, hw5, hm5, hb5⟩
          case measure => simp [intOf]; omega
        · have hmk' : m = k := by omega
          have hnil : l.drop m = [] := List.drop_eq_nil_of_le (by rw [HL.out]; omega)
          rw [hnil] at hq
          have q0 := hq.q.cell (i := 0) (by omega)
          have q1 := hq.q.cell (i := 1) (by omega)
          have q2 := hq.q.cell (i := 2) (by omega)
          simp [qF, ptr_none, hsOf] at q0 q1 q2
          clear hq hw hm hnil hmk'
          go_wp2_with fail
          refine (frontSince_zero _ _ q2).mono ?_
          rintro e w' ⟨⟨v, rfl⟩, rfl⟩
          go_wp2_with fail
          refine (empty_any _ _ _ q0).mono ?_
          rintro e w' ⟨rfl, rfl⟩
          go_wp2_with fail
          go_ret
          exact ⟨rfl, hb⟩

set_option maxHeartbeats 400000 in
theorem drain_big (x0 : Option Addr) (n c0 : Nat) (w : World) (hl : 1024 < n) :
    Calls Yba.prog 6 #[.slice x0 n c0] w fun e w' => e = .returned (.bool true) ∧ Below w.heap.size w w' := by
  have hl1 : (1024 : Int) < (n : Int) := by omega
  go_enter Yba.func6, Yba.ntmps6
  go_wp2_with fail
  go_ret
  exact ⟨rfl, Below.refl _ _⟩
end Go.Proofs.Ybulkpgg
