/- math/bits.Len in the plain layer's words. -/
import Derived.Test.YbulkpecLen0
import Derived.Test.YbulkpecSort
import Derived.Sort.Walk7
import Derived.Sort.WalkA14
set_option linter.unusedVariables false
namespace Go.Proofs.Ybulkpec
open Go.RowKit Go.Sort

theorem len_any (n : Nat) (h1 : n < 65536) (w : World) :
    Calls Yba.prog 20 #[.int .u64 n] w fun e w' => e = .returned (.int .i64 (bitsLen n : Nat)) ∧ w' = w := by
  have h := bits_Len n w (by omega) (by omega)
  rw [show ((n : Int)).toNat = n from by omega, bitLen_eq n (by omega)] at h
  exact h
end Go.Proofs.Ybulkpec
