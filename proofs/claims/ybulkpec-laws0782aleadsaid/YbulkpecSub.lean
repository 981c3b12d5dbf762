/- time.Time's Sub. -/
import Derived.Test.YbulkpecEq
set_option linter.unusedVariables false
namespace Go.Proofs.Ybulkpec
open Go.RowKit

set_option maxHeartbeats 1000000 in
theorem sub_any (a b : Int) (ha0 : -1099511627776 ≤ a) (ha1 : a ≤ 1099511627776) (hb0 : -1099511627776 ≤ b) (hb1 : b ≤ 1099511627776) (w : World) :
    Calls Yba.prog 19 #[T a, T b] w fun e w' => e = .returned (.int .i64 (a - b)) ∧ Below w.heap.size w w' := by
  obtain ⟨hx0, hx1⟩ := wall_bounds a
  obtain ⟨hz0, hz1⟩ := wall_bounds b
  have hb := and_mono (bits .and .u64 (wallOf a) (wallOf b)) (by rw [u64_and _ _ hx0 (by omega) hz0 (by omega)]; omega) (by
    rw [u64_and _ _ hx0 (by omega) hz0 (by omega)]
    have := @Nat.and_le_left (wallOf a).toNat (wallOf b).toNat
    omega)
  have ha' := T_split a
  have hb' := T_split b
  have hadd : Hid (∀ w, Calls Yba.prog 7 #[T b, .int .i64 (a - b)] w fun e w' => e = .returned (T a) ∧ Below w.heap.size w w') := by
    intro w
    have := add_any b (a - b) (by omega) (by omega) (by omega) (by omega) w
    rwa [show b + (a - b) = a by omega] at this
  have heq : Hid (∀ w, Calls Yba.prog 8 #[T a, T a] w fun e w' => e = .returned (.bool true) ∧ Below w.heap.size w w') := by
    intro w
    have := equal_any a a w
    simpa using this
  have hd : a - b = (extOf a - extOf b) * 1000000000 + (wallOf a - wallOf b) := by omega
  unfold T at *
  have hy0 : -10000 ≤ extOf a := by omega
  have hy1 : extOf a ≤ 10000 := by omega
  have hu0 : -10000 ≤ extOf b := by omega
  have hu1 : extOf b ≤ 10000 := by omega
  rw [hd]
  rw [hd] at hadd
  clear hd ha' hb'
  generalize wallOf a = x at *
  generalize extOf a = y at *
  generalize wallOf b = z at *
  generalize extOf b = u at *
  go_enter Yba.func19, Yba.ntmps19
  go_wp2_with (first | (go_at_call_of 12 (Value.pointer (some (Addr.mk w.heap.size 0 none))); refine (nsec_any _ 0 x hx0 hx1 _ (by simp)).mono ?_; rintro e w1 ⟨rfl, rfl⟩) | (go_at_call_of 15 (Value.pointer (some (Addr.mk w.heap.size 0 none))); refine (sec_any _ 0 x y hx0 hx1 _ (by simp) (by simp)).mono ?_; rintro e w1 ⟨rfl, rfl⟩) | (go_at_call 12; refine (nsec_any _ 0 z hz0 hz1 _ (by simp)).mono ?_; rintro e w1 ⟨rfl, rfl⟩) | (go_at_call 15; refine (sec_any _ 0 z u hz0 hz1 _ (by simp) (by simp)).mono ?_; rintro e w1 ⟨rfl, rfl⟩))
  go_region_with (first | (go_at_call 7; refine (hadd.out _).mono ?_; rintro e w1 ⟨rfl, hb1⟩; have k0 := hb1.cell (p := ⟨w.heap.size, 0, none⟩) (by simp; omega); have k1 := hb1.cell (p := ⟨w.heap.size, 1, none⟩) (by simp; omega); have k2 := hb1.cell (p := ⟨w.heap.size, 2, none⟩) (by simp; omega); simp at k0 k1 k2; have HB1 : Hid _ := hb1; clear hb1) | (go_at_call 8; refine (heq.out _).mono ?_; rintro e w2 ⟨rfl, hb2⟩; have HB2 : Hid _ := hb2; clear hb2))
  all_goals
    go_wp2_with fail
    go_ret
    refine ⟨rfl, ?_⟩
    have B1 := HB1.out
    have B2 := HB2.out
    have hs := B1.size
    simp only [World.size_alloc, World.size_drew] at B1 B2 hs
    refine Below.trans (Below.trans ?_ (B1.mono (by omega))) (B2.mono (by omega))
    exact ((((Below.refl w.heap.size w).alloc (Nat.le_refl _) _).alloc (by simp) _).drew)
end Go.Proofs.Ybulkpec
