/- time.Time: sec, nsec, addSec, Add; the law's clamp and at. -/
import Derived.Test.YbulkpecProg
import Derived.WalkKit
import Derived.WalkSpells
import Derived.WalkLawsBesides
import Derived.Laws.BitsAllLaws
set_option linter.unusedVariables false
namespace Go.Proofs.Ybulkpec
open Go.RowKit

/-- The cells of the time that is c nanoseconds behind the zero time. -/
def wallOf (c : Int) : Int := c % 1000000000
def extOf (c : Int) : Int := c / 1000000000
def T (c : Int) : Value := .agg #[.int .u64 (wallOf c), .int .i64 (extOf c), .pointer none]

theorem wall_bounds (c : Int) : 0 ≤ wallOf c ∧ wallOf c < 1000000000 := by unfold wallOf; omega

theorem and_mask (x : Int) (h0 : 0 ≤ x) (h1 : x < 1000000000) : bits .and .u64 x 1073741823 = x := by
  rw [u64_and x _ h0 (by omega) (by omega) (by omega)]
  have := Nat.and_two_pow_sub_one_eq_mod x.toNat 30
  rw [show (1073741823 : Int).toNat = 2 ^ 30 - 1 from rfl, this, Nat.mod_eq_of_lt (by omega)]
  omega
theorem and_mono (x : Int) (h0 : 0 ≤ x) (h1 : x < 1000000000) : bits .and .u64 x 9223372036854775808 = 0 := by
  rw [u64_and x _ h0 (by omega) (by omega) (by omega)]
  have : x.toNat &&& (9223372036854775808 : Int).toNat = 0 := by
    apply Nat.eq_of_testBit_eq
    intro i
    rw [Nat.testBit_and, Nat.zero_testBit]
    by_cases hi : i < 63
    · have h2 : Nat.testBit ((9223372036854775808 : Int).toNat) i = false := by
        have H : ∀ r : Fin 63, Nat.testBit ((9223372036854775808 : Int).toNat) r.val = false := by decide +kernel
        exact H ⟨i, hi⟩
      rw [h2, Bool.and_false]
    · have h2 : Nat.testBit x.toNat i = false := Nat.testBit_lt_two_pow (Nat.lt_of_lt_of_le (show x.toNat < 2 ^ 63 by omega) (Nat.pow_le_pow_right (by decide) (by omega)))
      rw [h2, Bool.false_and]
  rw [this]; rfl
theorem andNot_mask (x : Int) (h0 : 0 ≤ x) (h1 : x < 1000000000) : bits .andNot .u64 x 1073741823 = 0 := by
  rw [u64_andNot x _ h0 (by omega) (by omega) (by omega)]
  have : x.toNat &&& (18446744073709551615 - (1073741823 : Int).toNat) = 0 := by
    apply Nat.eq_of_testBit_eq
    intro i
    rw [Nat.testBit_and, Nat.zero_testBit]
    by_cases hi : i < 30
    · have : Nat.testBit (18446744073709551615 - (1073741823 : Int).toNat) i = false := by
        have H : ∀ r : Fin 30, Nat.testBit (18446744073709551615 - (1073741823 : Int).toNat) r.val = false := by decide +kernel
        exact H ⟨i, hi⟩
      rw [this, Bool.and_false]
    · have : Nat.testBit x.toNat i = false := Nat.testBit_lt_two_pow (Nat.lt_of_lt_of_le (show x.toNat < 2 ^ 30 by omega) (Nat.pow_le_pow_right (by decide) (by omega)))
      rw [this, Bool.false_and]
  rw [this]; rfl
theorem zero_or (x : Int) (h0 : 0 ≤ x) (h1 : x < 1000000000) : bits .or .u64 0 x = x := by
  rw [u64_or 0 x (by omega) (by omega) h0 (by omega)]
  simp; omega

/-- The law's clamp. -/
def cl (x : Int) : Int := if 1099511627776 < x then 1099511627776 else if x < -1099511627776 then -1099511627776 else x

theorem cl_bounds (x : Int) : -1099511627776 ≤ cl x ∧ cl x ≤ 1099511627776 := by unfold cl; split <;> (try split) <;> omega

set_option maxHeartbeats 400000 in
theorem clamp_any (x : Int) (w : World) : Calls Yba.prog 4 #[.int .i64 x] w fun e w' => e = .returned (.int .i64 (cl x)) ∧ w' = w := by
  by_cases h1 : 1099511627776 < x
  · rw [show cl x = 1099511627776 by simp [cl, h1]]
    go_enter Yba.func4, Yba.ntmps4
    go_wp2
    go_ret
    exact ⟨rfl, rfl⟩
  · by_cases h2 : x < -1099511627776
    · rw [show cl x = -1099511627776 by simp [cl, h1, h2]]
      go_enter Yba.func4, Yba.ntmps4
      go_wp2
      go_ret
      exact ⟨rfl, rfl⟩
    · rw [show cl x = x by simp [cl, h1, h2]]
      go_enter Yba.func4, Yba.ntmps4
      go_wp2
      go_ret
      exact ⟨rfl, rfl⟩

set_option maxHeartbeats 400000 in
theorem nsec_any (b off : Nat) (x : Int) (h0 : 0 ≤ x) (h1 : x < 1000000000) (w : World) (hc : w.cell? ⟨b, off, none⟩ = some (.int .u64 x)) :
    Calls Yba.prog 12 #[.pointer (some ⟨b, off, none⟩)] w fun e w' => e = .returned (.int .i32 x) ∧ w' = w := by
  have ha := and_mask x h0 h1
  go_enter Yba.func12, Yba.ntmps12
  go_wp2
  go_ret
  exact ⟨rfl, rfl⟩

set_option maxHeartbeats 400000 in
theorem sec_any (b off : Nat) (x y : Int) (h0 : 0 ≤ x) (h1 : x < 1000000000) (w : World) (hc : w.cell? ⟨b, off, none⟩ = some (.int .u64 x)) (hc1 : w.cell? ⟨b, off + 1, none⟩ = some (.int .i64 y)) :
    Calls Yba.prog 15 #[.pointer (some ⟨b, off, none⟩)] w fun e w' => e = .returned (.int .i64 y) ∧ w' = w := by
  have ha := and_mono x h0 h1
  go_enter Yba.func15, Yba.ntmps15
  go_wp2
  go_ret
  exact ⟨rfl, rfl⟩

set_option maxHeartbeats 400000 in
theorem addSec_any (b off : Nat) (x y d : Int) (h0 : 0 ≤ x) (h1 : x < 1000000000) (hy0 : -1000000000000 ≤ y) (hy1 : y ≤ 1000000000000) (hd0 : -1000000000000 ≤ d) (hd1 : d ≤ 1000000000000) (w : World) (hc : w.cell? ⟨b, off, none⟩ = some (.int .u64 x)) (hc1 : w.cell? ⟨b, off + 1, none⟩ = some (.int .i64 y)) (hf : w.frozen? ⟨b, off + 1, none⟩ = false) :
    Calls Yba.prog 13 #[.pointer (some ⟨b, off, none⟩), .int .i64 d] w fun e w' => e = .returned (.tuple #[]) ∧ w' = w.setCell ⟨b, off + 1, none⟩ (.int .i64 (y + d)) := by
  have ha := and_mono x h0 h1
  go_enter Yba.func13, Yba.ntmps13
  by_cases hd : 0 < d
  · have hs : y < y + d := by omega
    go_wp2
    go_end0
    exact ⟨rfl, rfl⟩
  · have hs : ¬ y < y + d := by omega
    go_wp2
    go_end0
    exact ⟨rfl, rfl⟩
end Go.Proofs.Ybulkpec
