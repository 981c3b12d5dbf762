/- The methods of lockStats as contracts. -/
import Derived.Test.YbulkpggAtom
namespace Go.Proofs.Ybulkpgg
open Go.RowKit

/-- The five counters of a lockStats at block b. -/
def IsStats (w : World) (b : Nat) (c t h p a : Int) : Prop :=
  w.cell? ⟨b, 0, none⟩ = some (.int .u64 c) ∧ w.cell? ⟨b, 1, none⟩ = some (.int .i64 t) ∧ w.cell? ⟨b, 2, none⟩ = some (.int .u64 h) ∧ w.cell? ⟨b, 3, none⟩ = some (.int .u64 p) ∧ w.cell? ⟨b, 4, none⟩ = some (.int .u64 a) ∧
  w.frozen? ⟨b, 0, none⟩ = false ∧ w.frozen? ⟨b, 1, none⟩ = false ∧ w.frozen? ⟨b, 2, none⟩ = false ∧ w.frozen? ⟨b, 3, none⟩ = false ∧ w.frozen? ⟨b, 4, none⟩ = false

set_option maxHeartbeats 400000 in
theorem waited_no (b : Nat) (c t h p a d : Int) (w : World) (hI : IsStats w b c t h p a) (h0 : 0 ≤ c) (h1 : c < 100000) :
    Calls Yba.prog 8 #[.pointer (some ⟨b, 0, none⟩), .int .i64 d, .bool false] w fun e w' => e = .returned (.tuple #[]) ∧
      (w.setCell ⟨b, 1, none⟩ (.int .i64 (wrap64 (t + d)))).setCell ⟨b, 0, none⟩ (.int .u64 (c + 1)) = w' := by
  obtain ⟨c0, c1, c2, c3, c4, f0, f1, f2, f3, f4⟩ := hI
  go_enter Yba.func8, Yba.ntmps8
  go_wp2_with (first | (go_at_call 22; refine (addi_any b 1 t d _ (by assumption) (by assumption)).mono ?_; rintro e w' ⟨rfl, rfl⟩) | (go_at_call 23; refine (addu_any b 0 c 1 _ (by go_simp) (by go_simp) h0 (by omega) (by omega)).mono ?_; rintro e w' ⟨rfl, rfl⟩))
  go_end0
  exact ⟨rfl, rfl⟩

set_option maxHeartbeats 400000 in
theorem waited_yes (b : Nat) (c t h p a d : Int) (w : World) (hI : IsStats w b c t h p a) (h0 : 0 ≤ c) (h1 : c < 100000) (g0 : 0 ≤ a) (g1 : a < 100000) :
    Calls Yba.prog 8 #[.pointer (some ⟨b, 0, none⟩), .int .i64 d, .bool true] w fun e w' => e = .returned (.tuple #[]) ∧
      ((w.setCell ⟨b, 1, none⟩ (.int .i64 (wrap64 (t + d)))).setCell ⟨b, 0, none⟩ (.int .u64 (c + 1))).setCell ⟨b, 4, none⟩ (.int .u64 (a + 1)) = w' := by
  obtain ⟨c0, c1, c2, c3, c4, f0, f1, f2, f3, f4⟩ := hI
  go_enter Yba.func8, Yba.ntmps8
  go_wp2_with (first | (go_at_call 22; refine (addi_any b 1 t d _ (by assumption) (by assumption)).mono ?_; rintro e w' ⟨rfl, rfl⟩) | fail)
  refine (addu_any b 0 c 1 _ (by go_simp) (by go_simp) h0 (by omega) (by omega)).mono ?_; rintro e w' ⟨rfl, rfl⟩
  go_wp2_with fail
  refine (addu_any b 4 a 1 _ (by go_simp) (by go_simp) g0 (by omega) (by omega)).mono ?_; rintro e w' ⟨rfl, rfl⟩
  go_wp2
  go_end0
  exact ⟨rfl, rfl⟩

set_option maxHeartbeats 400000 in
theorem handed_no (b : Nat) (c t h p a : Int) (w : World) (hI : IsStats w b c t h p a) (h0 : 0 ≤ h) (h1 : h < 100000) :
    Calls Yba.prog 11 #[.pointer (some ⟨b, 0, none⟩), .bool false] w fun e w' => e = .returned (.tuple #[]) ∧
      w.setCell ⟨b, 2, none⟩ (.int .u64 (h + 1)) = w' := by
  obtain ⟨c0, c1, c2, c3, c4, f0, f1, f2, f3, f4⟩ := hI
  go_enter Yba.func11, Yba.ntmps11
  go_wp2_with fail
  refine (addu_any b 2 h 1 _ (by go_simp) (by go_simp) h0 (by omega) (by omega)).mono ?_; rintro e w' ⟨rfl, rfl⟩
  go_wp2
  go_end0
  exact ⟨rfl, rfl⟩

set_option maxHeartbeats 400000 in
theorem handed_yes (b : Nat) (c t h p a : Int) (w : World) (hI : IsStats w b c t h p a) (h0 : 0 ≤ h) (h1 : h < 100000) (g0 : 0 ≤ p) (g1 : p < 100000) :
    Calls Yba.prog 11 #[.pointer (some ⟨b, 0, none⟩), .bool true] w fun e w' => e = .returned (.tuple #[]) ∧
      (w.setCell ⟨b, 2, none⟩ (.int .u64 (h + 1))).setCell ⟨b, 3, none⟩ (.int .u64 (p + 1)) = w' := by
  obtain ⟨c0, c1, c2, c3, c4, f0, f1, f2, f3, f4⟩ := hI
  go_enter Yba.func11, Yba.ntmps11
  go_wp2_with fail
  refine (addu_any b 2 h 1 _ (by go_simp) (by go_simp) h0 (by omega) (by omega)).mono ?_; rintro e w' ⟨rfl, rfl⟩
  go_wp2_with fail
  refine (addu_any b 3 p 1 _ (by go_simp) (by go_simp) g0 (by omega) (by omega)).mono ?_; rintro e w' ⟨rfl, rfl⟩
  go_wp2
  go_end0
  exact ⟨rfl, rfl⟩
end Go.Proofs.Ybulkpgg
