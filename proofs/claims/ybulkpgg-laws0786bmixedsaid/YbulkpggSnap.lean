/- lockStats.snapshot: its contract. -/
import Derived.Test.YbulkpggStat
import Derived.Deep.RegionHeld3
namespace Go.Proofs.Ybulkpgg
open Go.RowKit

set_option maxHeartbeats 1000000 in
theorem snapshot_any (b : Nat) (c t h p a : Int) (w : World) (hI : IsStats w b c t h p a) (hb : b < w.heap.size) :
    Calls Yba.prog 12 #[.pointer (some ⟨b, 0, none⟩)] w fun e w' => e = .returned (.agg #[.int .u64 c, .int .i64 t, .int .u64 h, .int .u64 p, .int .u64 a]) ∧ Below w.heap.size w w' := by
  obtain ⟨c0, c1, c2, c3, c4, f0, f1, f2, f3, f4⟩ := hI
  go_enter Yba.func12, Yba.ntmps12
  go_wp2_with fail
  refine (loadu_any b 4 a _ (by go_simp)).mono ?_; rintro e w' ⟨rfl, rfl⟩
  go_wp2_with fail
  refine (loadu_any b 3 p _ (by go_simp)).mono ?_; rintro e w' ⟨rfl, rfl⟩
  go_wp2_with fail
  go_region_held3 (fun w' => w'.cell? ⟨b, 0, none⟩ = some (.int .u64 c) ∧ w'.cell? ⟨b, 1, none⟩ = some (.int .i64 t) ∧ w'.cell? ⟨b, 2, none⟩ = some (.int .u64 h)) (go_keep)
    (first | (go_at_call 9; refine (loadi_any b 1 t _ ?_).mono ?_; (go_simp); rintro e w' ⟨rfl, rfl⟩) | (go_at_call 10; refine (loadu_any b 0 c _ ?_).mono ?_; (go_simp); rintro e w' ⟨rfl, rfl⟩) | (go_at_call 10; refine (loadu_any b 2 h _ ?_).mono ?_; (go_simp); rintro e w' ⟨rfl, rfl⟩))
  go_wp2
  exact bodyPost_ret (v := .agg #[.int .u64 c, .int .i64 t, .int .u64 h, .int .u64 p, .int .u64 a]) (by simp [results, Yba.results12, go_sem]) rfl ⟨rfl, ((Below.refl _ _).alloc (Nat.le_refl _) _).drew⟩
end Go.Proofs.Ybulkpgg
