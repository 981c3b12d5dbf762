/- The bitset's methods: contracts. -/
import Derived.Test.YbulkpfsDoorProg
import Derived.WalkKit
import Derived.WalkSpells
import Derived.WalkLawsBesides
import Derived.Deep.OwnRows
import Derived.Deep.QuietTactic
import Derived.BigQuiet
set_option linter.unusedVariables false
namespace Go.Proofs.YbulkpfsDoor
open Go.RowKit Go.Deep

/-- The word of the m lowest bits. -/
def low (m : Nat) : Int := ((2 ^ m - 1 : Nat) : Int)

def oc1 (x : Int) : Int := IntKind.u64.wrap (bits .and .u64 (x / 2) 6148914691236517205 + bits .and .u64 x 6148914691236517205)
def oc2 (x : Int) : Int := IntKind.u64.wrap (bits .and .u64 (x / 4) 3689348814741910323 + bits .and .u64 x 3689348814741910323)
def oc3 (x : Int) : Int := bits .and .u64 (IntKind.u64.wrap (x / 16 + x)) 1085102592571150095
def oc4 (x : Int) : Int := IntKind.u64.wrap (x + x / 256)
def oc5 (x : Int) : Int := IntKind.u64.wrap (x + x / 65536)
def oc6 (x : Int) : Int := IntKind.u64.wrap (x + x / 4294967296)
def oc (x : Int) : Int := bits .and .i64 (wrap64 (oc6 (oc5 (oc4 (oc3 (oc2 (oc1 x))))))) 127

theorem oc_low (m : Nat) (h : m ≤ 64) : oc (low m) = (m : Int) := by
  have H : ∀ r : Fin 65, oc (low r.val) = (r.val : Int) := by decide +kernel
  exact H ⟨m, by omega⟩

theorem low_bounds (m : Nat) (h : m ≤ 64) : 0 ≤ low m ∧ low m ≤ 18446744073709551615 := by
  have H : ∀ r : Fin 65, 0 ≤ low r.val ∧ low r.val ≤ 18446744073709551615 := by decide +kernel
  exact H ⟨m, by omega⟩

set_option maxHeartbeats 400000 in
theorem ones_oc (x : Int) (h0 : 0 ≤ x) (h1 : x ≤ 18446744073709551615) (w : World) :
    Calls Ybad.prog 13 #[.int .u64 x] w fun e w' => e = .returned (.int .i64 (oc x)) ∧ w = w' := by
  go_enter Ybad.func13, Ybad.ntmps13
  go_wp2_with fail
  go_ret
  refine ⟨?_, rfl⟩
  unfold oc oc6 oc5 oc4 oc3 oc2 oc1
  rfl

theorem ones_low (m : Nat) (h : m ≤ 64) (w : World) : Calls Ybad.prog 13 #[.int .u64 (low m)] w fun e w' => e = .returned (.int .i64 (m : Int)) ∧ w = w' := by
  have hb := low_bounds m h
  have := ones_oc (low m) hb.1 hb.2 w
  rw [oc_low m h] at this
  exact this

/-- How many bits the first k words hold. -/
def sumG (g : Nat → Nat) : Nat → Nat
  | 0 => 0
  | k + 1 => sumG g k + g k
theorem sumG_le (g : Nat → Nat) (hg : ∀ j, g j ≤ 64) : ∀ k, sumG g k ≤ 64 * k
  | 0 => Nat.le_refl _
  | k + 1 => by have := sumG_le g hg k; have := hg k; simp [sumG]; omega

set_option maxHeartbeats 400000 in
theorem count_any (b off len cap : Nat) (g : Nat → Nat) (hg : ∀ j, g j ≤ 64) (hl : len ≤ 1000) (w : World) (hc : ∀ j, j < len → w.cell? ⟨b, off + j, none⟩ = some (.int .u64 (low (g j)))) :
    Calls Ybad.prog 9 #[.slice (some ⟨b, off, none⟩) len cap] w fun e w' => e = .returned (.int .i64 (sumG g len : Nat)) ∧ w = w' := by
  go_enter Ybad.func9, Ybad.ntmps9
  go_wp2_with fail
  go_loop [3, 8] (fun n i => ∃ k : Nat, k ≤ len ∧ i = .int .i64 k ∧ n = .int .i64 (sumG g k : Nat)) (fun _ i => len - (intOf i).toNat)
  case atStart => exact ⟨0, Nat.zero_le _, rfl, rfl⟩
  case round =>
    obtain ⟨k, hk, rfl, rfl⟩ := hrel
    have hs := sumG_le g hg k
    by_cases hkl : k < len
    · have e0 := hc k hkl
      have hgk := hg k
      clear hc hg
      go_wp2_with (go_at_call 13; refine (ones_low _ hgk _).mono ?_; rintro e w' ⟨rfl, rfl⟩)
      go_round
      case rel => exact ⟨k + 1, by omega, by go_num, by simp [sumG]⟩
      case measure => simp [intOf]; omega
    · have : k = len := by omega
      subst this
      clear hc hg
      go_wp2_with fail
      go_ret
      exact ⟨rfl, rfl⟩

theorem count_nil (w : World) (cap : Nat) (x : Option Addr) :
    Calls Ybad.prog 9 #[.slice x 0 cap] w fun e w' => e = .returned (.int .i64 0) ∧ w = w' := by
  go_enter Ybad.func9, Ybad.ntmps9
  go_wp2_with fail
  go_loop [3, 8] (fun n i => i = .int .i64 0 ∧ n = .int .i64 0) (fun _ i => 0)
  case atStart => exact ⟨rfl, rfl⟩
  case round =>
    obtain ⟨rfl, rfl⟩ := hrel
    go_wp2_with fail
    go_ret
    exact ⟨rfl, rfl⟩
end Go.Proofs.YbulkpfsDoor
