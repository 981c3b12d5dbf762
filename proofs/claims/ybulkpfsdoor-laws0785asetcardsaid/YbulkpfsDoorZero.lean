/- The empty set: contracts of cleared, filled, within, minus at length nought. -/
import Derived.Test.YbulkpfsDoorSetU
set_option linter.unusedVariables false
namespace Go.Proofs.YbulkpfsDoor
open Go.RowKit Go.Deep

theorem clear_nil (w : World) : (Builtin.clear_ #[26] 0 #[.slice none 0 0]).run Ybad.prog w = .ok (.tuple #[]) w := by
  simp [Builtin.clear_, run_underlying Ybad.underlying26]

set_option maxRecDepth 100000 in
theorem cleared_nil (w : World) :
    Calls Ybad.prog 28 #[.slice none 0 0, .int .i64 0] w fun e w' => e = .returned (.slice none 0 0) ∧ w' = w := by
  have hcl := clear_nil
  go_enter Ybad.func28, Ybad.ntmps28
  go_wp2_with fail
  go_ret
  exact ⟨rfl, rfl⟩

theorem filled_nil (w : World) :
    Calls Ybad.prog 20 #[.slice none 0 0, .int .i64 0] w fun e w' => e = .returned (.slice none 0 0) ∧ w' = w := by
  go_enter Ybad.func20, Ybad.ntmps20
  go_wp2_with fail
  refine (cleared_nil _).mono ?_
  rintro e w' ⟨rfl, rfl⟩
  go_wp2_with fail
  go_loop [13] (fun i => i = .int .i64 0) (fun _ => 0)
  case atStart => exact rfl
  case round =>
    obtain rfl := hrel
    go_wp2_with fail
    go_ret
    exact ⟨rfl, rfl⟩

theorem within_nil (Z : Nat) (w : World) :
    Calls Ybad.prog 17 #[.slice (some ⟨Z, 0, none⟩) 0 0, .slice none 0 0] w fun e w' => e = .returned (.bool true) ∧ w' = w := by
  go_enter Ybad.func17, Ybad.ntmps17
  go_wp2_with fail
  go_loop [9] (fun i => i = .int .i64 0) (fun _ => 0)
  case atStart => exact rfl
  case round =>
    obtain rfl := hrel
    go_wp2_with fail
    go_ret
    exact ⟨rfl, rfl⟩

theorem minus_nil (Z : Nat) (w : World) :
    Calls Ybad.prog 26 #[.slice (some ⟨Z, 0, none⟩) 0 0, .slice (some ⟨Z, 0, none⟩) 0 0] w fun e w' => e = .returned (.tuple #[]) ∧ w' = w := by
  go_enter Ybad.func26, Ybad.ntmps26
  go_wp2_with fail
  go_loop [10] (fun i => i = .int .i64 0) (fun _ => 0)
  case atStart => exact rfl
  case round =>
    obtain rfl := hrel
    go_wp2_with fail
    go_end0
    exact ⟨rfl, rfl⟩
end Go.Proofs.YbulkpfsDoor
