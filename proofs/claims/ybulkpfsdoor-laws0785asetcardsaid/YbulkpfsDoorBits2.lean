/- The bitset's has, within, minus, filled: contracts. -/
import Derived.Test.YbulkpfsDoorBits
import Derived.Laws.BitsAllLaws
import Derived.RegionTactic
import Derived.ChangeAlike
set_option linter.unusedVariables false
namespace Go.Proofs.YbulkpfsDoor
open Go.RowKit Go.Deep

theorem bit_low (m r : Nat) (hm : m ≤ 64) (hr : r < m) : (bits .and .u64 (low m) (IntKind.u64.wrap (2 ^ r)) != 0) = true := by
  have H : ∀ m : Fin 65, ∀ r : Fin 64, r.val < m.val → (bits .and .u64 (low m.val) (IntKind.u64.wrap (2 ^ r.val)) != 0) = true := by decide +kernel
  exact H ⟨m, by omega⟩ ⟨r, by omega⟩ hr

theorem setCell_same {w : World} {b off : Nat} {v : Value} (h : w.cell? ⟨b, off, none⟩ = some v) : w.setCell ⟨b, off, none⟩ v = w := by
  have hb : ∃ c t fr, w.heap[b]? = some (.cells c t fr) ∧ c[off]? = some v := by
    unfold World.cell? at h
    split at h
    · rename_i c t fr hb
      exact ⟨c, t, fr, hb, by simpa using h⟩
    · cases h
  obtain ⟨c, t, fr, hb, hc⟩ := hb
  have e : (w.heap.modify b fun
      | .cells c elem frozen => .cells (if (none : Option Nat).isSome then c else c.setIfInBounds off v) elem frozen
      | o => o) = w.heap := by
    apply Array.ext_getElem?
    intro i
    rw [Array.getElem?_modify]
    by_cases hi : b = i
    · subst hi
      rw [if_pos rfl, hb]
      simp only [Option.map_some, Option.isSome_none, Bool.false_eq_true, if_false]
      congr 2
      apply Array.ext_getElem?
      intro j
      rw [Array.getElem?_setIfInBounds]
      by_cases hj : off = j
      · subst hj
        obtain ⟨hl, he⟩ := Array.getElem?_eq_some_iff.1 hc
        simp [hl, he]
      · rw [if_neg hj]
    · rw [if_neg hi]
  show ({ w with heap := w.heap.modify b fun
      | .cells c elem frozen => .cells (if (none : Option Nat).isSome then c else c.setIfInBounds off v) elem frozen
      | o => o } : World) = w
  rw [e]

theorem andNot_left (y : Int) (h0 : 0 ≤ y) (h1 : y ≤ 18446744073709551615) : bits .andNot .u64 0 y = 0 := by
  rw [u64_andNot 0 y (by omega) (by omega) h0 (by omega)]; simp
theorem andNot_right (x : Int) (h0 : 0 ≤ x) (h1 : x ≤ 18446744073709551615) : bits .andNot .u64 x 0 = x := by
  rw [u64_andNot x 0 h0 (by omega) (by omega) (by omega)]
  have e : x.toNat &&& (18446744073709551615 - (0 : Int).toNat) = x.toNat := by
    have := Nat.and_two_pow_sub_one_eq_mod x.toNat 64
    rw [show (18446744073709551615 - (0 : Int).toNat : Nat) = 2 ^ 64 - 1 from rfl, this]
    exact Nat.mod_eq_of_lt (by omega)
  rw [e]; omega

set_option maxHeartbeats 400000 in
theorem has_any (b off len cap k : Nat) (m : Nat) (hm : m ≤ 64) (hkm : k % 64 < m) (hk : k / 64 < len) (hk2 : k ≤ 1000) (hl : len ≤ 1000) (w : World) (hc : w.cell? ⟨b, off + k / 64, none⟩ = some (.int .u64 (low m))) :
    Calls Ybad.prog 10 #[.slice (some ⟨b, off, none⟩) len cap, .int .i64 k] w fun e w' => e = .returned (.bool true) ∧ ∃ n, w' = w.drewN n := by
  have hd : ((k / 64 : Nat) : Int) < (len : Int) := by omega
  have hd1 : (k : Int) / 64 < (len : Int) := by omega
  obtain ⟨h0, h1⟩ := low_bounds m hm
  have hb := bit_low m (k % 64) hm hkm
  have HB : Hid ((bits .and .u64 (low m) (IntKind.u64.wrap (2 ^ (k % 64))) != 0) = true) := hb
  clear hb
  generalize low m = x at *
  go_enter Ybad.func10, Ybad.ntmps10
  go_wp2_with fail
  go_quiet (fail)
  go_wp2_with fail
  go_ret
  refine ⟨?_, nq, rfl⟩
  show Ending.returned (.bool (bits .and .u64 x (IntKind.u64.wrap (2 ^ (k % 64))) != 0)) = _
  rw [HB.out]

set_option maxHeartbeats 400000 in
theorem within_zero (b off len cap c co len2 cap2 : Nat) (y : Nat → Int) (hll : len ≤ len2) (hl : len2 ≤ 1000) (w : World) (hy : ∀ j, 0 ≤ y j ∧ y j ≤ 18446744073709551615) (hc : ∀ j, j < len → w.cell? ⟨b, off + j, none⟩ = some (.int .u64 0)) (ht : ∀ j, j < len → w.cell? ⟨c, co + j, none⟩ = some (.int .u64 (y j))) :
    Calls Ybad.prog 17 #[.slice (some ⟨b, off, none⟩) len cap, .slice (some ⟨c, co, none⟩) len2 cap2] w fun e w' => e = .returned (.bool true) ∧ w' = w := by
  go_enter Ybad.func17, Ybad.ntmps17
  go_wp2_with fail
  go_loop [9] (fun i => ∃ k : Nat, k ≤ len ∧ i = .int .i64 k) (fun i => len - (intOf i).toNat)
  case atStart => exact ⟨0, Nat.zero_le _, rfl⟩
  case round =>
    obtain ⟨k, hk, rfl⟩ := hrel
    by_cases hkl : k < len
    · have e0 := hc k hkl
      have e1 := ht k hkl
      obtain ⟨y0, y1⟩ := hy k
      have hk2 : ¬ (len2 : Int) ≤ (k : Int) := by omega
      have hk3 : (k : Int) < (len2 : Int) := by omega
      generalize y k = yk at *
      have han := andNot_left yk y0 y1
      clear hc ht hy
      go_wp2_with fail
      go_round
      case rel => exact ⟨k + 1, by omega, by go_num⟩
      case measure => simp [intOf]; omega
    · have : k = len := by omega
      subst this
      clear hc ht hy
      go_wp2_with fail
      go_ret
      exact ⟨rfl, rfl⟩

set_option maxHeartbeats 400000 in
theorem minus_zero (b off len cap c co len2 cap2 : Nat) (x : Nat → Int) (hlen : len2 = len) (hl : len ≤ 1000) (w : World) (hx : ∀ j, 0 ≤ x j ∧ x j ≤ 18446744073709551615) (hc : ∀ j, j < len → w.cell? ⟨b, off + j, none⟩ = some (.int .u64 (x j))) (hf : ∀ j, j < len → w.frozen? ⟨b, off + j, none⟩ = false) (ht : ∀ j, j < len → w.cell? ⟨c, co + j, none⟩ = some (.int .u64 0)) :
    Calls Ybad.prog 26 #[.slice (some ⟨b, off, none⟩) len cap, .slice (some ⟨c, co, none⟩) len cap2] w fun e w' => e = .returned (.tuple #[]) ∧ ∃ n, w' = w.drewN n := by
  go_enter Ybad.func26, Ybad.ntmps26
  go_wp2_with fail
  go_loopw [10] (fun i wr => ∃ k : Nat, k ≤ len ∧ i = .int .i64 k ∧ Hid (∃ n, wr = w.drewN n)) (fun i _ => len - (intOf i).toNat)
  case atStart => exact ⟨0, Nat.zero_le _, rfl, 0, rfl⟩
  case round =>
    obtain ⟨k, hk, rfl, hw⟩ := hrel
    by_cases hkl : k < len
    · have e0 : wr.cell? ⟨b, off + k, none⟩ = some (.int .u64 (x k)) := by obtain ⟨n, rfl⟩ := hw.out; exact hc k hkl
      have e1 : wr.cell? ⟨c, co + k, none⟩ = some (.int .u64 0) := by obtain ⟨n, rfl⟩ := hw.out; exact ht k hkl
      have e2 : wr.frozen? ⟨b, off + k, none⟩ = false := by obtain ⟨n, rfl⟩ := hw.out; exact hf k hkl
      obtain ⟨x0, x1⟩ := hx k
      have han := andNot_right (x k) x0 x1
      have hset : (wr.setCell ⟨b, off + k, none⟩ (.int .u64 (x k))) = wr := setCell_same e0
      have hk3 : (k : Int) < (len : Int) := by omega
      generalize x k = xk at *
      clear hc ht hx hf
      go_wp2_with fail
      go_region
      go_wp2_with fail
      go_roundw
      case rel => exact ⟨k + 1, by omega, by go_num, by obtain ⟨n, rfl⟩ := hw.out; exact ⟨n + 1, rfl⟩⟩
      case measure => simp [intOf]; omega
    · have : k = len := by omega
      subst this
      clear hc ht hx hf
      go_wp2_with fail
      go_end0
      exact ⟨rfl, hw⟩
end Go.Proofs.YbulkpfsDoor
