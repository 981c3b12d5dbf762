/- time.Time's Equal, After, Sub. -/
import Derived.Test.YbulkpecAdd
import Derived.Deep.RegionHeld3
import Derived.Deep.RegionWith
set_option linter.unusedVariables false
namespace Go.Proofs.Ybulkpec
open Go.RowKit

theorem T_split (a : Int) : a = 1000000000 * extOf a + wallOf a := by unfold wallOf extOf; omega

set_option maxHeartbeats 1000000 in
theorem equal_any (a b : Int) (w : World) : Calls Yba.prog 8 #[T a, T b] w fun e w' => e = .returned (.bool (decide (a = b))) ∧ Below w.heap.size w w' := by
  obtain ⟨hx0, hx1⟩ := wall_bounds a
  obtain ⟨hz0, hz1⟩ := wall_bounds b
  have hb := and_mono (bits .and .u64 (wallOf a) (wallOf b)) (by rw [u64_and _ _ hx0 (by omega) hz0 (by omega)]; omega) (by
    rw [u64_and _ _ hx0 (by omega) hz0 (by omega)]
    have := @Nat.and_le_left (wallOf a).toNat (wallOf b).toNat
    omega)
  have ha' := T_split a
  have hb' := T_split b
  have HA : Hid (decide (a = b) = (decide (extOf a = extOf b) && decide (wallOf a = wallOf b))) := by
    show _ = _
    rw [← Bool.decide_and]; congr 1; apply propext; omega
  rw [HA.out]
  clear ha' hb' HA
  unfold T
  generalize wallOf a = x at *
  generalize extOf a = y at *
  generalize wallOf b = z at *
  generalize extOf b = u at *
  by_cases he : y = u
  · subst he
    by_cases hn : x = z
    · subst hn
      go_enter Yba.func8, Yba.ntmps8
      go_wp2_with (first | (go_at_call 12; refine (nsec_any _ 0 x hx0 hx1 _ (by simp)).mono ?_; rintro e w1 ⟨rfl, rfl⟩) | (go_at_call 15; refine (sec_any _ 0 x y hx0 hx1 _ (by simp) (by simp)).mono ?_; rintro e w1 ⟨rfl, rfl⟩))
      go_ret
      exact ⟨by simp, ((Below.refl _ _).alloc (by simp) _).alloc (by simp) _⟩
    · go_enter Yba.func8, Yba.ntmps8
      go_wp2_with (first | (go_at_call_of 12 (Value.pointer (some (Addr.mk w.heap.size 0 none))); refine (nsec_any _ 0 x hx0 hx1 _ (by simp)).mono ?_; rintro e w1 ⟨rfl, rfl⟩) | (go_at_call_of 15 (Value.pointer (some (Addr.mk w.heap.size 0 none))); refine (sec_any _ 0 x y hx0 hx1 _ (by simp) (by simp)).mono ?_; rintro e w1 ⟨rfl, rfl⟩) | (go_at_call 12; refine (nsec_any _ 0 z hz0 hz1 _ (by simp)).mono ?_; rintro e w1 ⟨rfl, rfl⟩) | (go_at_call 15; refine (sec_any _ 0 z y hz0 hz1 _ (by simp) (by simp)).mono ?_; rintro e w1 ⟨rfl, rfl⟩))
      go_ret
      exact ⟨by simp [hn], ((Below.refl _ _).alloc (by simp) _).alloc (by simp) _⟩
  · go_enter Yba.func8, Yba.ntmps8
    go_wp2_with (first | (go_at_call_of 15 (Value.pointer (some (Addr.mk w.heap.size 0 none))); refine (sec_any _ 0 x y hx0 hx1 _ (by simp) (by simp)).mono ?_; rintro e w1 ⟨rfl, rfl⟩) | (go_at_call 15; refine (sec_any _ 0 z u hz0 hz1 _ (by simp) (by simp)).mono ?_; rintro e w1 ⟨rfl, rfl⟩))
    go_ret
    exact ⟨by simp [he], ((Below.refl _ _).alloc (by simp) _).alloc (by simp) _⟩

set_option maxHeartbeats 1000000 in
theorem after_any (a b : Int) (w : World) : Calls Yba.prog 68 #[T a, T b] w fun e w' => e = .returned (.bool (decide (b < a))) ∧ Below w.heap.size w w' := by
  obtain ⟨hx0, hx1⟩ := wall_bounds a
  obtain ⟨hz0, hz1⟩ := wall_bounds b
  have hb := and_mono (bits .and .u64 (wallOf a) (wallOf b)) (by rw [u64_and _ _ hx0 (by omega) hz0 (by omega)]; omega) (by
    rw [u64_and _ _ hx0 (by omega) hz0 (by omega)]
    have := @Nat.and_le_left (wallOf a).toNat (wallOf b).toNat
    omega)
  have ha' := T_split a
  have hb' := T_split b
  have HA : Hid (decide (b < a) = (decide (extOf b < extOf a) || (decide (extOf a = extOf b) && decide (wallOf b < wallOf a)))) := by
    show _ = _
    rw [← Bool.decide_and, ← Bool.decide_or]; congr 1; apply propext; omega
  rw [HA.out]
  clear ha' hb' HA
  unfold T
  generalize wallOf a = x at *
  generalize extOf a = y at *
  generalize wallOf b = z at *
  generalize extOf b = u at *
  by_cases hlt : u < y
  · go_enter Yba.func68, Yba.ntmps68
    go_wp2_with (first | (go_at_call_of 15 (Value.pointer (some (Addr.mk w.heap.size 0 none))); refine (sec_any _ 0 x y hx0 hx1 _ (by simp) (by simp)).mono ?_; rintro e w1 ⟨rfl, rfl⟩) | (go_at_call 15; refine (sec_any _ 0 z u hz0 hz1 _ (by simp) (by simp)).mono ?_; rintro e w1 ⟨rfl, rfl⟩))
    go_ret
    exact ⟨by simp [hlt], ((Below.refl _ _).alloc (by simp) _).alloc (by simp) _⟩
  by_cases he : y = u
  · subst he
    go_enter Yba.func68, Yba.ntmps68
    go_wp2_with (first | (go_at_call_of 12 (Value.pointer (some (Addr.mk w.heap.size 0 none))); refine (nsec_any _ 0 x hx0 hx1 _ (by simp)).mono ?_; rintro e w1 ⟨rfl, rfl⟩) | (go_at_call_of 15 (Value.pointer (some (Addr.mk w.heap.size 0 none))); refine (sec_any _ 0 x y hx0 hx1 _ (by simp) (by simp)).mono ?_; rintro e w1 ⟨rfl, rfl⟩) | (go_at_call 12; refine (nsec_any _ 0 z hz0 hz1 _ (by simp)).mono ?_; rintro e w1 ⟨rfl, rfl⟩) | (go_at_call 15; refine (sec_any _ 0 z y hz0 hz1 _ (by simp) (by simp)).mono ?_; rintro e w1 ⟨rfl, rfl⟩))
    go_ret
    exact ⟨by simp, ((Below.refl _ _).alloc (by simp) _).alloc (by simp) _⟩
  · go_enter Yba.func68, Yba.ntmps68
    go_wp2_with (first | (go_at_call_of 15 (Value.pointer (some (Addr.mk w.heap.size 0 none))); refine (sec_any _ 0 x y hx0 hx1 _ (by simp) (by simp)).mono ?_; rintro e w1 ⟨rfl, rfl⟩) | (go_at_call 15; refine (sec_any _ 0 z u hz0 hz1 _ (by simp) (by simp)).mono ?_; rintro e w1 ⟨rfl, rfl⟩))
    go_ret
    exact ⟨by simp [he], ((Below.refl _ _).alloc (by simp) _).alloc (by simp) _⟩
end Go.Proofs.Ybulkpec
