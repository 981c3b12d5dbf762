/- LawS0786CLinkPlaces: the walk. -/
import Derived.Test.YbulkpggStages
set_option linter.unusedVariables false
namespace Go.Proofs.Ybulkpgg
open Go.RowKit Go.Deep

set_option maxHeartbeats 1000000 in
theorem places_walk (b0 o0 n c0 : Nat) (z0 : Nat → Int) (x1 : Option Addr) (len1 c1 : Nat) (w : World) (hn : n ≤ 1024) (hb0 : b0 < w.heap.size)
    (h0 : ∀ i, i < n → w.cell? ⟨b0, o0 + i, none⟩ = some (.int .u8 (z0 i)) ∧ 0 ≤ z0 i ∧ z0 i ≤ 255)
    (h1 : ∀ i, i < len1 → ∃ b off v, x1 = some ⟨b, off, none⟩ ∧ b < w.heap.size ∧ w.cell? ⟨b, off + i, none⟩ = some (.int .i64 v)) :
    Calls Yba.prog 5 #[.slice (some ⟨b0, o0, none⟩) n c0, .slice x1 len1 c1] w fun e w' => e = .returned (.bool true) ∧ Below w.heap.size w w' := by
  have hl1 : ¬ (1024 : Int) < (n : Int) := by omega
  have hmk := run_make_room (P := Yba.prog) 52 49 (.pointer none) 8 Yba.underlying52 Yba.info49 rfl .i64 .i64 n (by omega) (by omega)
  have hmk2 := run_make_room (P := Yba.prog) 53 3 (.int .i64 0) 8 Yba.underlying53 Yba.info3 rfl .i64 .i64 n (by omega) (by omega)
  go_enter Yba.func5, Yba.ntmps5
  go_wp2
  clear hmk hmk2
  go_loopw [6, 7, 8] (fun ws md i wr => ∃ (k : Nat) (A : Nat → Nat) (S : Nat → Int) (l : List Nat) (fw fm : Nat → Value), k ≤ n ∧ i = .int .i64 k ∧ ws = .slice (some ⟨w.heap.size + 1, 0, none⟩) k n ∧ md = .slice (some ⟨w.heap.size + 2, 0, none⟩) k n ∧ LState w wr w.heap.size n k A S l fw fm)
    (fun _ _ i _ => n - (intOf i).toNat)
  case atStart =>
    exact ⟨0, _, _, _, _, _, Nat.zero_le _, rfl, rfl, rfl, lstate_start w n⟩
  case round =>
    obtain ⟨k, A, S, l, fw, fm, hk, rfl, rfl, rfl, hS⟩ := hrel
    by_cases hkl : k < n
    · have e0 : wr.cell? ⟨b0, o0 + k, none⟩ = some (.int .u8 (z0 k)) := (hS.bel.cell (by exact hb0)).trans (h0 k hkl).1
      have z0l : 0 ≤ z0 k := (h0 k hkl).2.1
      have z0u : z0 k ≤ 255 := (h0 k hkl).2.2
      have wc : wr.cell? ⟨w.heap.size + 1, k, none⟩ = some (fw k) := hS.ws.cell hkl
      have wf : wr.frozen? ⟨w.heap.size + 1, k, none⟩ = false := hS.ws.frozen k
      have hsz := hS.sz
      have hz0 : w.heap.size < wr.heap.size := by omega
      have hz1 : w.heap.size + 1 < wr.heap.size := by omega
      have hz2 : w.heap.size + 2 < wr.heap.size := by omega
      have y1 : b0 < wr.heap.size := by omega
      have y2 : b0 < wr.heap.size + 1 := by omega
      have y3 : ¬ b0 = w.heap.size + 1 := by omega
      have y4 : ¬ w.heap.size + 1 = b0 := by omega
      have hpe : ∃ p : Nat, z0 k % ((k : Int) + 1) = (p : Int) ∧ p ≤ k := by
        have l1 := Int.emod_nonneg (z0 k) (show ((k : Int) + 1) ≠ 0 by omega)
        have l2 := Int.emod_lt_of_pos (z0 k) (show (0 : Int) < (k : Int) + 1 by omega)
        exact ⟨(z0 k % ((k : Int) + 1)).toNat, by omega, by omega⟩
      obtain ⟨p, hpz, hpk⟩ := hpe
      by_cases hk1 : k < len1
      · obtain ⟨b1, o1, v, rfl, hb1, hv⟩ := h1 k hk1
        have e1 : wr.cell? ⟨b1, o1 + k, none⟩ = some (.int .i64 v) := (hS.bel.cell (by exact hb1)).trans hv
        clear h0 h1 hv
        obtain ⟨A', S', fw', hA', hM⟩ := hS.stage' v
        by_cases hp0 : p = 0
        · have hprev : ptr A' (prv l p) = .pointer none := by rw [hp0]; rfl
          have hp1 : ¬ (0 : Int) < (p : Int) := by omega
          clear hS hA' hp0
          have hL := hM.link p hpk
          rw [hprev] at hL
          have hlen := hM.len
          have hlt := hM.lt
          have hblk := hM.blk
          have hnew := hM.new
          have hfws := hM.fws
          have hfmd := hM.fmd
          have hszM := hM.sz
          clear hM
          go_wp2_with fail
          refine hL.mono ?_
          clear hL
          rintro e w4 ⟨rfl, hQ4, hws4, hmd4, hbel4, hsz4⟩
          rw [← hsz4] at hszM
          clear hsz4
          have HL : Hid (l.length = k) := hlen
          have HN : Hid (A' k = wr.heap.size) := hnew
          have HF : Hid (∀ i, i < k + 1 → fw' i = ptr A' (some i)) := hfws
          have HM : Hid (∀ (j i : Nat), l[j]? = some i → fm j = .int .i64 i) := hfmd
          have HT : Hid (∀ (j i : Nat), l[j]? = some i → i < k) := hlt
          clear hlen hnew hfws hfmd hlt e0 wc wf
          go_wp2_with fail
          refine (insert_any (w.heap.size + 2) k n p k w4.heap.size 1 fm l _ (hmd4.alloc _) HL.out (by omega) hn HM.out hpk (one_row w4 k) (by omega)).mono ?_
          rintro e w6 ⟨rfl, ⟨fm', hmd6, hfm6⟩, hO6⟩
          have hN := lstate_next p hpk HL.out HT.out hblk HN.out HF.out hQ4 hws4 hbel4 hszM hmd6 hfm6 hO6
          clear hQ4 hws4 hbel4 hszM hmd6 hfm6 hO6 hblk hmd4
          go_wp2_with fail
          refine (check_state hN (by omega) hn).mono ?_
          rintro e w7 ⟨rfl, rfl⟩
          go_wp2_with fail
          go_roundw
          case rel => exact ⟨k + 1, A', S', ins l p k, fw', fm', by omega, by go_num, rfl, rfl, hN⟩
          case measure => simp [intOf]; omega
        · have hp1 : (0 : Int) < (p : Int) := by omega
          have hlen0 := hS.len
          have hex : ∃ y, l[p - 1]? = some y := ⟨_, List.getElem?_eq_getElem (by omega)⟩
          obtain ⟨y, hy⟩ := hex
          have hyk : y < k := hS.lt _ _ hy
          have d1 : wr.cell? ⟨w.heap.size + 2, p - 1, none⟩ = some (.int .i64 y) := by rw [hS.md.cell (by omega), hS.fmd _ _ hy]
          have d2 : wr.cell? ⟨w.heap.size + 1, y, none⟩ = some (.pointer (some ⟨A y, 0, none⟩)) := by rw [hS.ws.cell (by omega), hS.fws _ hyk, ptr_some]
          have d3 : ¬ k = y := by omega
          have hprev : ptr A' (prv l p) = .pointer (some ⟨A y, 0, none⟩) := by rw [prv_pos l p (by omega), hy, ptr_some, hA' y hyk]
          clear hS hA' hp0 hy hlen0
          have hL := hM.link p hpk
          rw [hprev] at hL
          have hlen := hM.len
          have hlt := hM.lt
          have hblk := hM.blk
          have hnew := hM.new
          have hfws := hM.fws
          have hfmd := hM.fmd
          have hszM := hM.sz
          clear hM
          go_wp2_with fail
          refine hL.mono ?_
          clear hL
          rintro e w4 ⟨rfl, hQ4, hws4, hmd4, hbel4, hsz4⟩
          rw [← hsz4] at hszM
          clear hsz4
          have HL : Hid (l.length = k) := hlen
          have HN : Hid (A' k = wr.heap.size) := hnew
          have HF : Hid (∀ i, i < k + 1 → fw' i = ptr A' (some i)) := hfws
          have HM : Hid (∀ (j i : Nat), l[j]? = some i → fm j = .int .i64 i) := hfmd
          have HT : Hid (∀ (j i : Nat), l[j]? = some i → i < k) := hlt
          clear hlen hnew hfws hfmd hlt e0 wc wf
          go_wp2_with fail
          refine (insert_any (w.heap.size + 2) k n p k w4.heap.size 1 fm l _ (hmd4.alloc _) HL.out (by omega) hn HM.out hpk (one_row w4 k) (by omega)).mono ?_
          rintro e w6 ⟨rfl, ⟨fm', hmd6, hfm6⟩, hO6⟩
          have hN := lstate_next p hpk HL.out HT.out hblk HN.out HF.out hQ4 hws4 hbel4 hszM hmd6 hfm6 hO6
          clear hQ4 hws4 hbel4 hszM hmd6 hfm6 hO6 hblk hmd4
          go_wp2_with fail
          refine (check_state hN (by omega) hn).mono ?_
          rintro e w7 ⟨rfl, rfl⟩
          go_wp2_with fail
          go_roundw
          case rel => exact ⟨k + 1, A', S', ins l p k, fw', fm', by omega, by go_num, rfl, rfl, hN⟩
          case measure => simp [intOf]; omega
      · clear h0 h1
        obtain ⟨A', S', fw', hA', hM⟩ := hS.stage' k
        by_cases hp0 : p = 0
        · have hprev : ptr A' (prv l p) = .pointer none := by rw [hp0]; rfl
          have hp1 : ¬ (0 : Int) < (p : Int) := by omega
          clear hS hA' hp0
          have hL := hM.link p hpk
          rw [hprev] at hL
          have hlen := hM.len
          have hlt := hM.lt
          have hblk := hM.blk
          have hnew := hM.new
          have hfws := hM.fws
          have hfmd := hM.fmd
          have hszM := hM.sz
          clear hM
          go_wp2_with fail
          refine hL.mono ?_
          clear hL
          rintro e w4 ⟨rfl, hQ4, hws4, hmd4, hbel4, hsz4⟩
          rw [← hsz4] at hszM
          clear hsz4
          have HL : Hid (l.length = k) := hlen
          have HN : Hid (A' k = wr.heap.size) := hnew
          have HF : Hid (∀ i, i < k + 1 → fw' i = ptr A' (some i)) := hfws
          have HM : Hid (∀ (j i : Nat), l[j]? = some i → fm j = .int .i64 i) := hfmd
          have HT : Hid (∀ (j i : Nat), l[j]? = some i → i < k) := hlt
          clear hlen hnew hfws hfmd hlt e0 wc wf
          go_wp2_with fail
          refine (insert_any (w.heap.size + 2) k n p k w4.heap.size 1 fm l _ (hmd4.alloc _) HL.out (by omega) hn HM.out hpk (one_row w4 k) (by omega)).mono ?_
          rintro e w6 ⟨rfl, ⟨fm', hmd6, hfm6⟩, hO6⟩
          have hN := lstate_next p hpk HL.out HT.out hblk HN.out HF.out hQ4 hws4 hbel4 hszM hmd6 hfm6 hO6
          clear hQ4 hws4 hbel4 hszM hmd6 hfm6 hO6 hblk hmd4
          go_wp2_with fail
          refine (check_state hN (by omega) hn).mono ?_
          rintro e w7 ⟨rfl, rfl⟩
          go_wp2_with fail
          go_roundw
          case rel => exact ⟨k + 1, A', S', ins l p k, fw', fm', by omega, by go_num, rfl, rfl, hN⟩
          case measure => simp [intOf]; omega
        · have hp1 : (0 : Int) < (p : Int) := by omega
          have hlen0 := hS.len
          have hex : ∃ y, l[p - 1]? = some y := ⟨_, List.getElem?_eq_getElem (by omega)⟩
          obtain ⟨y, hy⟩ := hex
          have hyk : y < k := hS.lt _ _ hy
          have d1 : wr.cell? ⟨w.heap.size + 2, p - 1, none⟩ = some (.int .i64 y) := by rw [hS.md.cell (by omega), hS.fmd _ _ hy]
          have d2 : wr.cell? ⟨w.heap.size + 1, y, none⟩ = some (.pointer (some ⟨A y, 0, none⟩)) := by rw [hS.ws.cell (by omega), hS.fws _ hyk, ptr_some]
          have d3 : ¬ k = y := by omega
          have hprev : ptr A' (prv l p) = .pointer (some ⟨A y, 0, none⟩) := by rw [prv_pos l p (by omega), hy, ptr_some, hA' y hyk]
          clear hS hA' hp0 hy hlen0
          have hL := hM.link p hpk
          rw [hprev] at hL
          have hlen := hM.len
          have hlt := hM.lt
          have hblk := hM.blk
          have hnew := hM.new
          have hfws := hM.fws
          have hfmd := hM.fmd
          have hszM := hM.sz
          clear hM
          go_wp2_with fail
          refine hL.mono ?_
          clear hL
          rintro e w4 ⟨rfl, hQ4, hws4, hmd4, hbel4, hsz4⟩
          rw [← hsz4] at hszM
          clear hsz4
          have HL : Hid (l.length = k) := hlen
          have HN : Hid (A' k = wr.heap.size) := hnew
          have HF : Hid (∀ i, i < k + 1 → fw' i = ptr A' (some i)) := hfws
          have HM : Hid (∀ (j i : Nat), l[j]? = some i → fm j = .int .i64 i) := hfmd
          have HT : Hid (∀ (j i : Nat), l[j]? = some i → i < k) := hlt
          clear hlen hnew hfws hfmd hlt e0 wc wf
          go_wp2_with fail
          refine (insert_any (w.heap.size + 2) k n p k w4.heap.size 1 fm l _ (hmd4.alloc _) HL.out (by omega) hn HM.out hpk (one_row w4 k) (by omega)).mono ?_
          rintro e w6 ⟨rfl, ⟨fm', hmd6, hfm6⟩, hO6⟩
          have hN := lstate_next p hpk HL.out HT.out hblk HN.out HF.out hQ4 hws4 hbel4 hszM hmd6 hfm6 hO6
          clear hQ4 hws4 hbel4 hszM hmd6 hfm6 hO6 hblk hmd4
          go_wp2_with fail
          refine (check_state hN (by omega) hn).mono ?_
          rintro e w7 ⟨rfl, rfl⟩
          go_wp2_with fail
          go_roundw
          case rel => exact ⟨k + 1, A', S', ins l p k, fw', fm', by omega, by go_num, rfl, rfl, hN⟩
          case measure => simp [intOf]; omega
    · go_wp2
      go_ret
      exact ⟨rfl, hS.bel⟩

set_option maxHeartbeats 400000 in
theorem places_none (x0 : Option Addr) (c0 : Nat) (x1 : Option Addr) (len1 c1 : Nat) (w : World) :
    Calls Yba.prog 5 #[.slice x0 0 c0, .slice x1 len1 c1] w fun e w' => e = .returned (.bool true) ∧ Below w.heap.size w w' := by
  have hmk := run_make_room (P := Yba.prog) 52 49 (.pointer none) 8 Yba.underlying52 Yba.info49 rfl .i64 .i64 0 (by omega) (by omega)
  have hmk2 := run_make_room (P := Yba.prog) 53 3 (.int .i64 0) 8 Yba.underlying53 Yba.info3 rfl .i64 .i64 0 (by omega) (by omega)
  simp only [Int.cast_ofNat_Int] at hmk hmk2
  go_enter Yba.func5, Yba.ntmps5
  go_wp2
  clear hmk hmk2
  go_loopw [8] (fun i wr => i = .int .i64 0 ∧ Below w.heap.size w wr) (fun _ _ => 0)
  case atStart => exact ⟨rfl, (((Below.refl _ _).alloc (Nat.le_refl _) _).alloc (by simp) _).alloc (by simp; omega) _⟩
  case round =>
    obtain ⟨rfl, hbel⟩ := hrel
    go_wp2
    go_ret
    exact ⟨rfl, hbel⟩

set_option maxHeartbeats 400000 in
theorem places_big (x0 : Option Addr) (n c0 : Nat) (x1 : Option Addr) (len1 c1 : Nat) (w : World) (hl : 1024 < n) :
    Calls Yba.prog 5 #[.slice x0 n c0, .slice x1 len1 c1] w fun e w' => e = .returned (.bool true) ∧ Below w.heap.size w w' := by
  have hl1 : (1024 : Int) < (n : Int) := by omega
  go_enter Yba.func5, Yba.ntmps5
  go_wp2_with fail
  go_ret
  exact ⟨rfl, Below.refl _ _⟩
end Go.Proofs.Ybulkpgg
