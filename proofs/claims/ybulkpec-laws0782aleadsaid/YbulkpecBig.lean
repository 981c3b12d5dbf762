/- The law at a long argument. -/
import Derived.Test.YbulkpecLawB
set_option linter.unusedVariables false
namespace Go.Proofs.Ybulkpec
open Go.RowKit

set_option maxHeartbeats 2000000 in
set_option maxRecDepth 100000 in
theorem law_big (id : Int) (am : Option Addr) (M Mc : Nat) (ao : Option Addr) (N Nc : Nat) (term nowO campO leaseO hbO ltO : Int) (pv : Bool) (w : World) (hbig : 1024 < M ∨ 1024 < N) :
    Calls Yba.prog 3 #[.agg #[.int .u16 id, .slice am M Mc, .slice ao N Nc, .int .u64 term, .int .i64 nowO, .int .i64 campO, .int .i64 leaseO, .int .i64 hbO, .int .i64 ltO, .bool pv]] w fun e w' => e = .returned (.bool true) ∧ Below w.heap.size w w' := by
  by_cases h1 : 1024 < M
  · have hMi : (1024 : Int) < (M : Int) := by omega
    clear hbig
    go_enter Yba.func3, Yba.ntmps3
    go_wp2_with fail
    go_ret
    exact ⟨rfl, (Below.refl _ _).alloc (Nat.le_refl _) _⟩
  · have hMi : ¬ (1024 : Int) < (M : Int) := by omega
    have hNi : (1024 : Int) < (N : Int) := by omega
    clear hbig
    go_enter Yba.func3, Yba.ntmps3
    go_wp2_with fail
    go_ret
    exact ⟨rfl, (Below.refl _ _).alloc (Nat.le_refl _) _⟩
end Go.Proofs.Ybulkpec
