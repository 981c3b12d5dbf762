/- sort.reverseRange, sort.siftDown, sort.heapSort over *latestFirst. -/
import Derived.Test.YbulkpecSort
import Derived.Sort.WalkB2
import Derived.Sort.WalkB3
set_option linter.unusedVariables false
namespace Go.Proofs.Ybulkpec
open Go.RowKit Go.Sort

theorem Rep.lessI {R : Array Int → World → Prop} {base N : Nat} {p : Option Addr} (H : Rep R base p N) {d : Array Int} {w : World} (h : R d w) (hd : d.size = N) (i j : Nat) (x y : Int) (hx : x = i) (hy : y = j) (hi : i < N) (hj : j < N) (v : Bool) (hv : gt d[i]! d[j]! = v) :
    Calls Yba.prog 66 #[.pointer p, .int .i64 x, .int .i64 y] w fun e w' => e = .returned (.bool v) ∧ R d w' ∧ Keep base w w' := by
  subst hx; subst hy; subst hv; exact H.less h hd i j hi hj
theorem Rep.swapI {R : Array Int → World → Prop} {base N : Nat} {p : Option Addr} (H : Rep R base p N) {d : Array Int} {w : World} (h : R d w) (hd : d.size = N) (i j : Nat) (x y : Int) (hx : x = i) (hy : y = j) (hi : i < N) (hj : j < N) :
    Calls Yba.prog 67 #[.pointer p, .int .i64 x, .int .i64 y] w fun e w' => e = .returned (.tuple #[]) ∧ R (swp d i j) w' ∧ Keep base w w' := by
  subst hx; subst hy; exact H.swap h hd i j hi hj

set_option maxHeartbeats 2000000 in
set_option maxRecDepth 100000 in
theorem reverseRange_any {R : Array Int → World → Prop} {base N : Nat} {p : Option Addr} (H : Rep R base p N) (a b : Nat) (d : Array Int) (hd : d.size = N) (w : World) (h : R d w) (hab : a ≤ b) (hb : b ≤ N) (hN : N ≤ 1000000) :
    Calls Yba.prog 30 #[.iface 61 (.pointer p), .int .i64 a, .int .i64 b] w fun e w' => e = .returned (.tuple #[]) ∧ R (Sort.reverseRange d a b) w' := by
  have mS := reach_swap p
  have HH : Hid (Rep R base p N) := H
  clear H
  go_enter Yba.func30, Yba.ntmps30
  go_wp2
  go_loopg [6, 7] (b - a) (fun k s6 s7 wr => ∃ (i jn : Nat) (jz : Int) (dk : Array Int), s6 = .int .i64 i ∧ s7 = .int .i64 jz ∧ i ≤ b ∧ -1 ≤ jz ∧ jz < b ∧ Hid ((i : Int) < jz → jz = jn ∧ jn < N) ∧ Hid (¬ (i : Int) < jz → ¬ i < jn) ∧ jn - i ≤ k ∧
    dk.size = N ∧ Hid (R dk wr) ∧ Hid (reverseLoop i jn dk = reverseLoop a (b - 1) d))
  case atStart => exact ⟨a, b - 1, (b : Int) - 1, d, rfl, rfl, hab, by omega, by omega, fun h => ⟨by omega, by omega⟩, fun h => by omega, by omega, hd, h, rfl⟩
  case round =>
    obtain ⟨i, jn, jz, dk, rfl, rfl, hib, hjz, hjb, h1, h2, hk, hds, hR, heq⟩ := hrel
    by_cases hlt : (i : Int) < jz
    · obtain ⟨rfl, hjn⟩ := h1.out hlt
      have hij : i < jn := by omega
      go_wp2_with (show Calls Yba.prog 67 _ _ _; refine (HH.out.swapI hR.out hds i jn _ _ (by omega) (by omega) (by omega) (by omega)).mono ?_; rintro e w1 ⟨rfl, hR1, hk1⟩)
      go_roundg (jn - 1 - (i + 1))
      case measure => omega
      case rel =>
        refine ⟨i + 1, jn - 1, (jn : Int) - 1, swp dk i jn, by go_num, rfl, by omega, by omega, by omega, fun h => ⟨by omega, by omega⟩, fun h => by omega, Nat.le_refl _, by rw [size_swp]; exact hds, hR1, ?_⟩
        have := heq.out
        rw [reverseLoop, if_pos hij] at this
        exact this
    · have hnot := h2.out hlt
      go_wp2_with fail
      go_end0
      refine ⟨rfl, ?_⟩
      have := heq.out
      rw [reverseLoop, if_neg hnot] at this
      rw [reverseRange, ← this]
      exact hR.out

set_option maxHeartbeats 4000000 in
set_option maxRecDepth 100000 in
theorem siftDown_any {R : Array Int → World → Prop} {base N : Nat} {p : Option Addr} (H : Rep R base p N) (lo hi first : Nat) (d : Array Int) (hd : d.size = N) (w : World) (h : R d w) (hlo : lo ≤ hi) (hb : first + hi ≤ N) (hN : N ≤ 1000000) :
    Calls Yba.prog 34 #[.iface 61 (.pointer p), .int .i64 lo, .int .i64 hi, .int .i64 first] w fun e w' => e = .returned (.tuple #[]) ∧ R (siftDown gt hi first lo d) w' := by
  have mL := reach_less p; have mS := reach_swap p
  have HH : Hid (Rep R base p N) := H
  clear H
  go_enter Yba.func34, Yba.ntmps34
  go_wp2
  go_loopg [8] (hi - lo) (fun kx s8 wr => ∃ (root : Nat) (dk : Array Int), s8 = .int .i64 root ∧ root ≤ hi ∧ hi - root ≤ kx ∧ dk.size = N ∧ Hid (R dk wr) ∧ Hid (siftDown gt hi first root dk = siftDown gt hi first lo d))
  case atStart => exact ⟨lo, d, rfl, hlo, Nat.le_refl _, hd, h, rfl⟩
  case round =>
    obtain ⟨root, dk, rfl, hr, hkx, hds, hR, HE⟩ := hrel
    by_cases h0 : hi ≤ 2 * root + 1
    · have h0z : (hi : Int) ≤ 2 * (root : Int) + 1 := by omega
      go_wp2_with fail
      go_end0
      exact ⟨rfl, by rw [← HE.out, sd_end gt dk h0]; exact hR.out⟩
    · have h0z : ¬ ((hi : Int) ≤ 2 * (root : Int) + 1) := by omega
      by_cases h1 : 2 * root + 2 < hi
      · have h1z : 2 * (root : Int) + 1 + 1 < (hi : Int) := by omega
        cases hL : gt dk[first + (2 * root + 1)]! dk[first + (2 * root + 2)]! with
        | true =>
          go_wp2_with (show Calls Yba.prog 66 _ _ _; refine (HH.out.lessI hR.out hds (first + (2 * root + 1)) (first + (2 * root + 2)) _ _ (by omega) (by omega) (by omega) (by omega) true hL).mono ?_; rintro e w1 ⟨rfl, hR1, hk1⟩)
          cases hG : gt dk[first + root]! dk[first + (2 * root + 2)]! with
          | true =>
            go_wp2_with (show Calls Yba.prog 66 _ _ _; refine (HH.out.lessI hR1 hds (first + root) (first + (2 * root + 2)) _ _ (by omega) (by omega) (by omega) (by omega) true hG).mono ?_; rintro e w2 ⟨rfl, hR2, hk2⟩)
            go_wp2_with (show Calls Yba.prog 67 _ _ _; refine (HH.out.swapI hR2 hds (first + root) (first + (2 * root + 2)) _ _ (by omega) (by omega) (by omega) (by omega)).mono ?_; rintro e w3 ⟨rfl, hR3, hk3⟩)
            go_roundg (hi - (2 * root + 2))
            case measure => omega
            case rel => exact ⟨2 * root + 2, swp dk (first + root) (first + (2 * root + 2)), by go_num, by omega, Nat.le_refl _, by rw [size_swp]; exact hds, hR3, (show Hid _ from by rw [← HE.out, sd_right_go gt dk h1 hL hG]; exact rfl)⟩
          | false =>
            go_wp2_with (show Calls Yba.prog 66 _ _ _; refine (HH.out.lessI hR1 hds (first + root) (first + (2 * root + 2)) _ _ (by omega) (by omega) (by omega) (by omega) false hG).mono ?_; rintro e w2 ⟨rfl, hR2, hk2⟩)
            (try simp only [Exit.inBlock, Exit.then]); refine bodyPost_ret (results_none rfl _ _ _) rfl ?_
            exact ⟨rfl, by rw [← HE.out, sd_right_stop gt dk h1 hL hG]; exact hR2⟩
        | false =>
          go_wp2_with (show Calls Yba.prog 66 _ _ _; refine (HH.out.lessI hR.out hds (first + (2 * root + 1)) (first + (2 * root + 2)) _ _ (by omega) (by omega) (by omega) (by omega) false hL).mono ?_; rintro e w1 ⟨rfl, hR1, hk1⟩)
          cases hG : gt dk[first + root]! dk[first + (2 * root + 1)]! with
          | true =>
            go_wp2_with (show Calls Yba.prog 66 _ _ _; refine (HH.out.lessI hR1 hds (first + root) (first + (2 * root + 1)) _ _ (by omega) (by omega) (by omega) (by omega) true hG).mono ?_; rintro e w2 ⟨rfl, hR2, hk2⟩)
            go_wp2_with (show Calls Yba.prog 67 _ _ _; refine (HH.out.swapI hR2 hds (first + root) (first + (2 * root + 1)) _ _ (by omega) (by omega) (by omega) (by omega)).mono ?_; rintro e w3 ⟨rfl, hR3, hk3⟩)
            go_roundg (hi - (2 * root + 1))
            case measure => omega
            case rel => exact ⟨2 * root + 1, swp dk (first + root) (first + (2 * root + 1)), by go_num, by omega, Nat.le_refl _, by rw [size_swp]; exact hds, hR3, (show Hid _ from by rw [← HE.out, sd_left_go gt dk (by omega) (fun _ => hL) hG]; exact rfl)⟩
          | false =>
            go_wp2_with (show Calls Yba.prog 66 _ _ _; refine (HH.out.lessI hR1 hds (first + root) (first + (2 * root + 1)) _ _ (by omega) (by omega) (by omega) (by omega) false hG).mono ?_; rintro e w2 ⟨rfl, hR2, hk2⟩)
            (try simp only [Exit.inBlock, Exit.then]); refine bodyPost_ret (results_none rfl _ _ _) rfl ?_
            exact ⟨rfl, by rw [← HE.out, sd_left_stop gt dk (by omega) (fun _ => hL) hG]; exact hR2⟩
      · have h1z : ¬ (2 * (root : Int) + 1 + 1 < (hi : Int)) := by omega
        cases hG : gt dk[first + root]! dk[first + (2 * root + 1)]! with
        | true =>
          go_wp2_with (show Calls Yba.prog 66 _ _ _; refine (HH.out.lessI hR.out hds (first + root) (first + (2 * root + 1)) _ _ (by omega) (by omega) (by omega) (by omega) true hG).mono ?_; rintro e w2 ⟨rfl, hR2, hk2⟩)
          go_wp2_with (show Calls Yba.prog 67 _ _ _; refine (HH.out.swapI hR2 hds (first + root) (first + (2 * root + 1)) _ _ (by omega) (by omega) (by omega) (by omega)).mono ?_; rintro e w3 ⟨rfl, hR3, hk3⟩)
          go_roundg (hi - (2 * root + 1))
          case measure => omega
          case rel => exact ⟨2 * root + 1, swp dk (first + root) (first + (2 * root + 1)), by go_num, by omega, Nat.le_refl _, by rw [size_swp]; exact hds, hR3, (show Hid _ from by rw [← HE.out, sd_left_go gt dk (by omega) (fun h => absurd h h1) hG]; exact rfl)⟩
        | false =>
          go_wp2_with (show Calls Yba.prog 66 _ _ _; refine (HH.out.lessI hR.out hds (first + root) (first + (2 * root + 1)) _ _ (by omega) (by omega) (by omega) (by omega) false hG).mono ?_; rintro e w2 ⟨rfl, hR2, hk2⟩)
          (try simp only [Exit.inBlock, Exit.then]); refine bodyPost_ret (results_none rfl _ _ _) rfl ?_
          exact ⟨rfl, by rw [← HE.out, sd_left_stop gt dk (by omega) (fun h => absurd h h1) hG]; exact hR2⟩

set_option maxHeartbeats 4000000 in
set_option maxRecDepth 100000 in
theorem heapSort_any {R : Array Int → World → Prop} {base N : Nat} {p : Option Addr} (H : Rep R base p N) (a b : Nat) (d : Array Int) (hd : d.size = N) (w : World) (h : R d w) (hab : a ≤ b) (hb : b ≤ N) (hN : N ≤ 1000000) :
    Calls Yba.prog 27 #[.iface 61 (.pointer p), .int .i64 a, .int .i64 b] w fun e w' => e = .returned (.tuple #[]) ∧ R (heapSort gt d a b) w' := by
  have mS := reach_swap p
  have HH : Hid (Rep R base p N) := H
  clear H
  have ecast : ((b - a : Nat) : Int) = (b : Int) - (a : Int) := by omega
  go_enter Yba.func27, Yba.ntmps27
  go_wp2
  go_loopg [9] ((b - a - 1) / 2 + 1) (fun kx s9 wr => s9 = .int .i64 ((kx : Int) - 1) ∧ kx ≤ (b - a - 1) / 2 + 1 ∧ ∃ (dk : Array Int), dk.size = N ∧ Hid (R dk wr) ∧
    Hid (heapBuild gt (b - a) a kx dk = heapBuild gt (b - a) a ((b - a - 1) / 2 + 1) d))
  case atStart => exact ⟨by rw [half_start hab], Nat.le_refl _, d, hd, h, rfl⟩
  case round =>
    obtain ⟨rfl, hkk, dk, hds, S, HE⟩ := hrel
    cases gk with
    | zero =>
      have hB : Hid (dk = heapBuild gt (b - a) a ((b - a - 1) / 2 + 1) d) := HE.out
      clear HE hkk
      go_wp2_with fail
      go_loopg [10] (b - a) (fun kx s10 wr2 => s10 = .int .i64 ((kx : Int) - 1) ∧ kx ≤ b - a ∧ ∃ (dj : Array Int), dj.size = N ∧ Hid (R dj wr2) ∧ Hid (heapPop gt a kx dj = heapPop gt a (b - a) dk))
      case atStart => exact ⟨by rw [ecast], Nat.le_refl _, dk, hds, S, rfl⟩
      case round =>
        clear S
        obtain ⟨rfl, hkk, dj, hdj, S, HE2⟩ := hrel
        cases gk with
        | zero =>
          go_wp2_with fail
          go_end0
          have e : dj = heapSort gt d a b := by rw [heapSort, ← hB.out, ← HE2.out]; rfl
          rw [← e]
          exact ⟨rfl, S.out⟩
        | succ kx =>
          go_wp2_with (show Calls Yba.prog 67 _ _ _; refine (HH.out.swapI S.out hdj a (a + kx) _ _ (by omega) (by push_cast; omega) (by omega) (by omega)).mono ?_; rintro e w1 ⟨rfl, hR1, hk1⟩)
          have hd2 : (swp dj a (a + kx)).size = N := by rw [size_swp]; exact hdj
          have hcall := siftDown_any HH.out 0 kx a (swp dj a (a + kx)) hd2 w1 hR1 (Nat.zero_le _) (by omega) hN
          go_wp2_with (go_at_call 34; refine hcall.mono ?_; rintro e w2 ⟨rfl, hR2⟩)
          go_roundg kx
          case measure => omega
          case rel =>
            have hss : (siftDown gt kx a 0 (swp dj a (a + kx))).size = (swp dj a (a + kx)).size := size_siftDown gt _ _ _ _ _ (Nat.le_refl _)
            exact ⟨by simp, by omega, siftDown gt kx a 0 (swp dj a (a + kx)), by rw [hss, hd2], hR2, HE2⟩
    | succ kx =>
      have hcall := siftDown_any HH.out kx (b - a) a dk hds wr S.out (by omega) (by omega) hN
      rw [ecast] at hcall
      go_wp2_with (go_at_call 34; refine hcall.mono ?_; rintro e w2 ⟨rfl, hR2⟩)
      go_roundg kx
      case measure => omega
      case rel =>
        have hss : (siftDown gt (b - a) a kx dk).size = dk.size := size_siftDown gt _ _ _ _ _ (Nat.le_refl _)
        exact ⟨by simp, by omega, siftDown gt (b - a) a kx dk, by rw [hss, hds], hR2, HE⟩
end Go.Proofs.Ybulkpec
