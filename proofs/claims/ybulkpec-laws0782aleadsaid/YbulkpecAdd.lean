/- time.Time's Add; the law's at. -/
import Derived.Test.YbulkpecTime
set_option linter.unusedVariables false
namespace Go.Proofs.Ybulkpec
open Go.RowKit

theorem tdiv_facts (d : Int) : d = 1000000000 * d.tdiv 1000000000 + d.tmod 1000000000 ∧ -1000000000 < d.tmod 1000000000 ∧ d.tmod 1000000000 < 1000000000 := by
  refine ⟨(Int.mul_tdiv_add_tmod d 1000000000).symm, ?_, ?_⟩
  · have h := Int.tmod_lt_of_pos (-d) (show (0:Int) < 1000000000 by decide); rw [Int.neg_tmod] at h; omega
  · exact Int.tmod_lt_of_pos d (by decide)

set_option maxHeartbeats 1000000 in
theorem add_any (a d : Int) (ha0 : -4398046511104 ≤ a) (ha1 : a ≤ 4398046511104) (hd0 : -4398046511104 ≤ d) (hd1 : d ≤ 4398046511104) (w : World) :
    Calls Yba.prog 7 #[T a, .int .i64 d] w fun e w' => e = .returned (T (a + d)) ∧ Below w.heap.size w w' := by
  obtain ⟨hx0, hx1⟩ := wall_bounds a
  have hax : a = 1000000000 * extOf a + wallOf a := by unfold wallOf extOf; omega
  obtain ⟨he, hr0, hr1⟩ := tdiv_facts d
  have key : ∀ W E : Int, 0 ≤ W → W < 1000000000 → a + d = 1000000000 * E + W → T (a + d) = .agg #[.int .u64 W, .int .i64 E, .pointer none] := by
    intro W E h0 h1 h2
    have e1 : wallOf (a + d) = W := by unfold wallOf; omega
    have e2 : extOf (a + d) = E := by unfold extOf; omega
    unfold T; rw [e1, e2]
  have KEY : Hid _ := key
  unfold T at *
  clear key
  generalize wallOf a = x at *
  generalize extOf a = y at *
  have hax' : Hid (a = 1000000000 * y + x) := hax
  generalize hq : d.tdiv 1000000000 = q at *
  generalize hr : d.tmod 1000000000 = r at *
  have he' : Hid (d = 1000000000 * q + r) := he
  have m1 := and_mono x hx0 hx1
  have m2 := andNot_mask x hx0 hx1
  have hq0 : -100000 ≤ q := by omega
  have hq1 : q ≤ 100000 := by omega
  have hy0 : -100000 ≤ y := by omega
  have hy1 : y ≤ 100000 := by omega
  clear he hax
  by_cases c1 : 1000000000 ≤ x + r
  · skip
    have z := zero_or (x + r - 1000000000) (by omega) (by omega)
    have m3 := and_mono (x + r - 1000000000) (by omega) (by omega)
    go_enter Yba.func7, Yba.ntmps7
    go_wp2_with (first | (go_at_call 12; refine (nsec_any _ 0 x hx0 hx1 _ (by simp)).mono ?_; rintro e w1 ⟨rfl, rfl⟩) | (go_at_call 13; refine (addSec_any _ 0 (x + r - 1000000000) y (q + 1) (by omega) (by omega) (by omega) (by omega) (by omega) (by omega) _ (by simp) (by simp) (by simp)).mono ?_; rintro e w1 ⟨rfl, rfl⟩))
    (try simp only [Exit.inBlock, Exit.then]); refine bodyPost_ret (by simp [results, Yba.results7, go_sem]; try rfl) rfl ?_
    refine ⟨?_, ((Below.refl _ _).alloc (by simp) _).alloc (by simp) _⟩
    rw [KEY.out (x + r - 1000000000) (y + (q + 1)) (by omega) (by omega) (by have := hax'.out; have := he'.out; omega)]
  · by_cases c2 : x + r < 0
    · skip
      have z := zero_or (x + r + 1000000000) (by omega) (by omega)
      have m3 := and_mono (x + r + 1000000000) (by omega) (by omega)
      go_enter Yba.func7, Yba.ntmps7
      go_wp2_with (first | (go_at_call 12; refine (nsec_any _ 0 x hx0 hx1 _ (by simp)).mono ?_; rintro e w1 ⟨rfl, rfl⟩) | (go_at_call 13; refine (addSec_any _ 0 (x + r + 1000000000) y (q - 1) (by omega) (by omega) (by omega) (by omega) (by omega) (by omega) _ (by simp) (by simp) (by simp)).mono ?_; rintro e w1 ⟨rfl, rfl⟩))
      (try simp only [Exit.inBlock, Exit.then]); refine bodyPost_ret (by simp [results, Yba.results7, go_sem]; try rfl) rfl ?_
      refine ⟨?_, ((Below.refl _ _).alloc (by simp) _).alloc (by simp) _⟩
      rw [KEY.out (x + r + 1000000000) (y + (q - 1)) (by omega) (by omega) (by have := hax'.out; have := he'.out; omega)]
    · skip
      have z := zero_or (x + r) (by omega) (by omega)
      have m3 := and_mono (x + r) (by omega) (by omega)
      go_enter Yba.func7, Yba.ntmps7
      go_wp2_with (first | (go_at_call 12; refine (nsec_any _ 0 x hx0 hx1 _ (by simp)).mono ?_; rintro e w1 ⟨rfl, rfl⟩) | (go_at_call 13; refine (addSec_any _ 0 (x + r) y (q) (by omega) (by omega) (by omega) (by omega) (by omega) (by omega) _ (by simp) (by simp) (by simp)).mono ?_; rintro e w1 ⟨rfl, rfl⟩))
      (try simp only [Exit.inBlock, Exit.then]); refine bodyPost_ret (by simp [results, Yba.results7, go_sem]; try rfl) rfl ?_
      refine ⟨?_, ((Below.refl _ _).alloc (by simp) _).alloc (by simp) _⟩
      rw [KEY.out (x + r) (y + (q)) (by omega) (by omega) (by have := hax'.out; have := he'.out; omega)]

set_option maxHeartbeats 1000000 in
theorem at_any (c : Int) (h0 : -4398046511104 ≤ c) (h1 : c ≤ 4398046511104) (w : World) :
    Calls Yba.prog 5 #[.int .i64 c] w fun e w' => e = .returned (T c) ∧ Below w.heap.size w w' := by
  have hz : T 0 = .agg #[.int .u64 0, .int .i64 0, .pointer none] := rfl
  have ha := add_any 0 c (by omega) (by omega) h0 h1
  rw [hz, Int.zero_add] at ha
  have HA : Hid _ := ha
  clear ha
  unfold T at *
  generalize wallOf c = x at *
  generalize extOf c = y at *
  go_enter Yba.func5, Yba.ntmps5
  go_wp2_with (go_at_call 7; refine (HA.out _).mono ?_; rintro e w1 ⟨rfl, hb⟩; simp only [World.size_alloc] at hb; have hc0 := hb.cell (p := ⟨w.heap.size, 0, none⟩) (by simp); have hc1 := hb.cell (p := ⟨w.heap.size, 1, none⟩) (by simp); have hc2 := hb.cell (p := ⟨w.heap.size, 2, none⟩) (by simp); have hf0 := hb.frozen (p := ⟨w.heap.size, 0, none⟩) (by simp); have hf1 := hb.frozen (p := ⟨w.heap.size, 1, none⟩) (by simp); have hf2 := hb.frozen (p := ⟨w.heap.size, 2, none⟩) (by simp); simp at hc0 hc1 hc2 hf0 hf1 hf2; have HB : Hid _ := hb; clear hb)
  (try simp only [Exit.inBlock, Exit.then]); refine bodyPost_ret (by simp [results, Yba.results5, go_sem, hc0, hc1, hc2]; try rfl) rfl ?_
  refine ⟨rfl, ?_⟩
  exact ((((((Below.refl w.heap.size w).alloc (Nat.le_refl _) _).trans (HB.out.mono (by omega))).setCell (Nat.le_refl _) _).setCell (Nat.le_refl _) _).setCell (Nat.le_refl _) _)
end Go.Proofs.Ybulkpec
