/- LawS0785ASet: the walk. -/
import Derived.Test.YbulkpfsDoorSetP
set_option linter.unusedVariables false
namespace Go.Proofs.YbulkpfsDoor
open Go.RowKit Go.Deep

/-- The first loop's state. -/
structure LoopI (w wr : World) (n k : Nat) : Prop where
  row : ∃ f, wr.rowIs w.heap.size 2 n f
  all : AllSt wr (w.heap.size + 1) (w.heap.size + 2) ((k + 63) / 64)
  bel : Below w.heap.size w wr
  size : w.heap.size + 2 ≤ wr.heap.size

theorem LoopI.start (w : World) (n : Nat) : LoopI w ((w.alloc (.cells (madeCells #[.int .i64 0] n) 2)).alloc (.cells #[.slice none 0 0] 27)) n 0 where
  row := ⟨_, (World.rowIs_made w (.int .i64 0) n 2).alloc _⟩
  all := by
    have := AllSt.start (w.alloc (.cells (madeCells #[.int .i64 0] n) 2)) (w.heap.size + 2)
    simpa using this
  bel := ((Below.refl _ _).alloc (Nat.le_refl _) _).alloc (by simp) _
  size := by simp

theorem LoopI.next {w wr w2 : World} {n k : Nat} (h : LoopI w wr n k) (v : Value) (ha : AllSt w2 (w.heap.size + 1) (w.heap.size + 2) (max ((k + 63) / 64) (k / 64 + 1))) (hb : Below (w.heap.size + 1) (wr.setCell ⟨w.heap.size, k, none⟩ v) w2) (hs : w.heap.size + 2 ≤ w2.heap.size) : LoopI w w2 n (k + 1) where
  row := by
    obtain ⟨f, hf⟩ := h.row
    exact ⟨_, (hf.set k v).of_block (hb.block w.heap.size (by omega))⟩
  all := by rw [show (k + 1 + 63) / 64 = max ((k + 63) / 64) (k / 64 + 1) from by omega]; exact ha
  bel := (h.bel.setCell (Nat.le_refl _) _).trans (hb.mono (by omega))
  size := hs

set_option maxRecDepth 100000 in
set_option maxHeartbeats 1000000 in
theorem set_walk (m : Nat) (hm : m ≤ 65535) (free : Bool) (w : World) :
    Calls Ybad.prog 5 #[.int .u16 (m : Int), .bool free] w fun e w' => e = .returned (.bool true) ∧ Below w.heap.size w w' := by
  obtain ⟨n, hn⟩ : ∃ n : Nat, n = m % 301 := ⟨_, rfl⟩
  have hn2 : n ≤ 300 := by omega
  have hmk := run_make_row' (P := Ybad.prog) 23 2 (.int .i64 0) 8 Ybad.underlying23 Ybad.info2 rfl .i64 .i64 n (by omega) (by omega)
  have e1 : ((m : Int) % 301) = (n : Int) := by omega
  have HN : Hid (n = m % 301) := hn
  clear hn
  go_enter Ybad.func5, Ybad.ntmps5
  go_wp2_with fail
  rw [e1]
  clear e1 hmk hm HN
  go_loopw [8] (fun i wr => ∃ k : Nat, k ≤ n ∧ i = .int .i64 k ∧ Hid (LoopI w wr n k)) (fun i _ => n - (intOf i).toNat)
  case atStart => exact ⟨0, Nat.zero_le _, rfl, LoopI.start w n⟩
  case round =>
    obtain ⟨k, hk, rfl, hI⟩ := hrel
    by_cases hkn : k < n
    · have hki : (k : Int) < (n : Int) := by omega
      obtain ⟨f, hf⟩ := hI.out.row
      have c0 := hf.cell hkn
      have f0 := hf.frozen k
      clear hf
      go_wp2_with fail
      refine (put_any (w.heap.size + 1) (w.heap.size + 2) ((k + 63) / 64) k (by omega) (by omega) (by omega) (by omega) _ (hI.out.all.setBelow (by omega) (by omega) _) (by simpa using hI.out.size)).mono ?_
      rintro e w2 ⟨rfl, hA2, hb2, hs2⟩
      have HI := hI.out.next _ hA2 hb2 hs2
      clear hA2 hb2 hs2 c0 f0 hI
      go_wp2_with fail
      go_roundw
      case rel => exact ⟨k + 1, by omega, by go_num, HI⟩
      case measure => simp [intOf]; omega
    · obtain rfl : k = n := by omega
      clear hk hkn
      obtain ⟨aa, ac, hA⟩ := hI.out.all.header
      have lA : w.heap.size + 1 < wr.heap.size := by have := hI.out.size; omega
      obtain ⟨P, HP⟩ : ∃ P, Hid (P = (k + 63) / 64) := ⟨_, rfl⟩
      have hPq : ((k : Int) + 63) / 64 = (P : Int) := by have := HP.out; omega
      rw [← HP.out] at hA
      have HB0 : Hid (Below w.heap.size w wr ∧ w.heap.size + 2 ≤ wr.heap.size) := ⟨hI.out.bel, hI.out.size⟩
      clear hI
      generalize hKd : w.heap.size = K at *
      by_cases hn0 : (0 : Int) < (k : Int)
      all_goals
        go_wp2_with fail
        refine (one_any _ _ _ _ _ _ _ _ _ _ _ _ _ _ _ _).mono ?_
        rintro e w1 ⟨M, Pb, C, rfl, hb1, hO⟩
        have HS : Hid (SetSt w1 M Pb C k P _ _ _ _ _ free) := SetSt.mk hO.m3 hO.may hO.mayf hO.p3 hO.p5 (hO.cell 2 _ rfl) (hO.cell 5 _ rfl) (hO.cell 7 _ rfl) (hO.cell 8 _ rfl) (hO.cell 12 _ rfl) (hO.cell 13 _ rfl)
        have HM : Hid (wr.heap.size + 1 ≤ C ∧ C < Pb ∧ Pb < M ∧ M < w1.heap.size) := ⟨by have := hO.hC.1; simpa using this, hO.hC.2, hO.hP, hO.hM⟩
        have HB1 : Hid (Below wr.heap.size wr w1) := ((Below.refl _ _).alloc (Nat.le_refl _) _).trans (hb1.mono (by simp))
        clear hO hb1
        go_wp2_with fail
        refine (setSpan_any M Pb C k P _ _ _ _ _ free _ HS.out (by have := HM.out; omega) hn2 HP.out).mono ?_
        rintro e w2 ⟨Z, rfl, hZ, hR, hb2⟩
        unfold setV
        have hA2 : w2.cell? ⟨K + 1, 0, none⟩ = some (.slice aa P ac) := (hb2.cell (p := ⟨K + 1, 0, none⟩) (by have := HM.out; show K + 1 < M; omega)).trans ((HB1.out.cell (p := ⟨K + 1, 0, none⟩) lA).trans hA)
        have lA2 : K + 1 < w2.heap.size := World.block_lt_of_cell? w2 _ hA2
        have HB2 : Hid (Below K w w2) := (HB0.out.1.trans (HB1.out.mono (by have := HB0.out; omega))).trans (hb2.mono (by have := HM.out; have := HB0.out; omega))
        have HR : Hid (w2.rowIs Z 83 (4 * P) (rowF free k P)) := hR
        clear hR hb2 HS HB1 HB0 hA lA hZ HM
        go_wp2_with fail
        have hP5 : P ≤ 5 := by have := HP.out; omega
        refine (count_zero Z 0 k P free (.inl rfl) hP5 _ (HR.out.alloc _)).mono ?_
        rintro e w3 ⟨rfl, rfl⟩
        go_wp2_with fail
        refine (count_zero Z (2 * P) k P free (.inr (.inl rfl)) hP5 _ (HR.out.alloc _)).mono ?_
        rintro e w3 ⟨rfl, rfl⟩
        go_wp2_with fail
        refine (count_zero Z (3 * P) k P free (.inr (.inr rfl)) hP5 _ (HR.out.alloc _)).mono ?_
        rintro e w3 ⟨rfl, rfl⟩
        cases free
        · go_wp2_with fail
          refine (count_full Z k P HP.out hP5 _ (HR.out.alloc _)).mono ?_
          rintro e w3 ⟨rfl, rfl⟩
          go_wp2_with fail
          go_loopw [15] (fun i wq => ∃ j : Nat, j ≤ k ∧ i = .int .i64 j ∧ Hid (wq.cell? ⟨w2.heap.size, 6, none⟩ = some (.slice (some ⟨Z, P, none⟩) P P) ∧ wq.rowIs Z 83 (4 * P) (rowF false k P) ∧ Below K w wq)) (fun i _ => k - (intOf i).toNat)
          case atStart => exact ⟨0, Nat.zero_le _, rfl, World.cell?_alloc_at _ _ _ _ rfl, HR.out.alloc _, HB2.out.alloc (by omega) _⟩
          case round =>
            obtain ⟨j, hj, rfl, hI⟩ := hrel
            by_cases hjk : j < k
            · have hji : (j : Int) < (k : Int) := by omega
              have c6 := hI.out.1
              first
                | (exfalso; omega)
                | (go_wp2_with fail
                   refine (has_full Z k P j hjk hn2 HP.out _ hI.out.2.1).mono ?_
                   rintro e w4 ⟨rfl, q, rfl⟩
                   go_wp2_with fail
                   go_roundw
                   case rel => exact ⟨j + 1, by omega, by go_num, c6, hI.out.2.1, hI.out.2.2.trans ⟨rfl, rfl, rfl, Nat.le_refl _, fun _ _ => rfl⟩⟩
                   case measure => simp [intOf]; omega)
            · obtain rfl : j = k := by omega
              go_wp2_with fail
              go_ret
              exact ⟨rfl, by rw [hKd]; exact hI.out.2.2⟩
        · go_wp2_with fail
          refine (count_free Z k P HP.out hP5 _ (HR.out.alloc _)).mono ?_
          rintro e w3 ⟨rfl, rfl⟩
          go_wp2_with fail
          go_ret
          exact ⟨rfl, by rw [hKd]; exact HB2.out.alloc (by omega) _⟩
end Go.Proofs.YbulkpfsDoor
