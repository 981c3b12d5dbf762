/- The atomics of sync/atomic as contracts over this dump. -/
import Derived.Test.YbulkpggProg
import Derived.WalkKit
import Derived.WalkSpells
import Derived.Laws.LoneSync
namespace Go.Proofs.Ybulkpgg
open Go.RowKit

theorem u64_add (x y : Int) (h0 : 0 ≤ x) (h1 : 0 ≤ y) (h : x + y < 18446744073709551616) (w : World) : (Op.intArith .add .u64 x y).run Yba.prog w = .ok (.int .u64 (x + y)) w := by
  have e : IntKind.u64.wrap (x + y) = x + y := by simp [IntKind.wrap, IntKind.bits, IntKind.signed]; omega
  simp [go_sem, e]

theorem i64_add (x y : Int) (w : World) : (Op.intArith .add .i64 x y).run Yba.prog w = .ok (.int .i64 (wrap64 (x + y))) w := by
  simp [go_sem, wrap64, IntKind.wrap_i64]

theorem storeI64 {a : Addr} {y : Int} {u : Value} {w : World} (hc : w.cell? a = some u) (hz : w.frozen? a = false) :
    (callFunc 21 #[.pointer (some a), .int .i64 y]).run Yba.prog w = .ok (.value (.tuple #[])) (w.setCell a (.int .i64 y)) :=
  run_call_store (P := Yba.prog) Yba.func21 (by kernel_rfl) (by kernel_rfl) (by kernel_rfl) (by kernel_rfl) hc hz
theorem loadI64 {a : Addr} {x : Int} {w : World} (hc : w.cell? a = some (.int .i64 x)) :
    (callFunc 24 #[.pointer (some a)]).run Yba.prog w = .ok (.value (.int .i64 x)) w :=
  run_call_load (P := Yba.prog) Yba.func24 (by kernel_rfl) (by kernel_rfl) (by kernel_rfl) .i64 (by kernel_rfl) hc
theorem loadU64 {a : Addr} {x : Int} {w : World} (hc : w.cell? a = some (.int .u64 x)) :
    (callFunc 25 #[.pointer (some a)]).run Yba.prog w = .ok (.value (.int .u64 x)) w :=
  run_call_load (P := Yba.prog) Yba.func25 (by kernel_rfl) (by kernel_rfl) (by kernel_rfl) .u64 (by kernel_rfl) hc
theorem addI64 {a : Addr} {x y : Int} {w : World} (hc : w.cell? a = some (.int .i64 x)) (hz : w.frozen? a = false) :
    (callFunc 30 #[.pointer (some a), .int .i64 y]).run Yba.prog w = .ok (.value (.int .i64 (wrap64 (x + y)))) (w.setCell a (.int .i64 (wrap64 (x + y)))) :=
  run_call_add (P := Yba.prog) Yba.func30 (by kernel_rfl) (by kernel_rfl) (by kernel_rfl) .i64 (by kernel_rfl) hc hz (i64_add x y w)
theorem addU64 {a : Addr} {x y : Int} {w : World} (hc : w.cell? a = some (.int .u64 x)) (hz : w.frozen? a = false) (h0 : 0 ≤ x) (h1 : 0 ≤ y) (h : x + y < 18446744073709551616) :
    (callFunc 31 #[.pointer (some a), .int .u64 y]).run Yba.prog w = .ok (.value (.int .u64 (x + y))) (w.setCell a (.int .u64 (x + y))) :=
  run_call_add (P := Yba.prog) Yba.func31 (by kernel_rfl) (by kernel_rfl) (by kernel_rfl) .u64 (by kernel_rfl) hc hz (u64_add x y h0 h1 h w)

set_option maxHeartbeats 400000 in
theorem store_any (b o : Nat) (y : Int) (u : Value) (w : World) (hc : w.cell? ⟨b, o, none⟩ = some u) (hz : w.frozen? ⟨b, o, none⟩ = false) :
    Calls Yba.prog 7 #[.pointer (some ⟨b, o, none⟩), .int .i64 y] w fun e w' => e = .returned (.tuple #[]) ∧ w.setCell ⟨b, o, none⟩ (.int .i64 y) = w' := by
  have h := storeI64 (y := y) hc hz
  go_enter Yba.func7, Yba.ntmps7
  go_wp2
  go_end0
  exact ⟨rfl, rfl⟩
set_option maxHeartbeats 400000 in
theorem loadi_any (b o : Nat) (x : Int) (w : World) (hc : w.cell? ⟨b, o, none⟩ = some (.int .i64 x)) :
    Calls Yba.prog 9 #[.pointer (some ⟨b, o, none⟩)] w fun e w' => e = .returned (.int .i64 x) ∧ w = w' := by
  have h := loadI64 hc
  go_enter Yba.func9, Yba.ntmps9
  go_wp2
  go_ret
  exact ⟨rfl, rfl⟩
set_option maxHeartbeats 400000 in
theorem loadu_any (b o : Nat) (x : Int) (w : World) (hc : w.cell? ⟨b, o, none⟩ = some (.int .u64 x)) :
    Calls Yba.prog 10 #[.pointer (some ⟨b, o, none⟩)] w fun e w' => e = .returned (.int .u64 x) ∧ w = w' := by
  have h := loadU64 hc
  go_enter Yba.func10, Yba.ntmps10
  go_wp2
  go_ret
  exact ⟨rfl, rfl⟩
set_option maxHeartbeats 400000 in
theorem addi_any (b o : Nat) (x y : Int) (w : World) (hc : w.cell? ⟨b, o, none⟩ = some (.int .i64 x)) (hz : w.frozen? ⟨b, o, none⟩ = false) :
    Calls Yba.prog 22 #[.pointer (some ⟨b, o, none⟩), .int .i64 y] w fun e w' => e = .returned (.int .i64 (wrap64 (x + y))) ∧ w.setCell ⟨b, o, none⟩ (.int .i64 (wrap64 (x + y))) = w' := by
  have h := addI64 (y := y) hc hz
  go_enter Yba.func22, Yba.ntmps22
  go_wp2
  go_ret
  exact ⟨rfl, rfl⟩
set_option maxHeartbeats 400000 in
theorem addu_any (b o : Nat) (x y : Int) (w : World) (hc : w.cell? ⟨b, o, none⟩ = some (.int .u64 x)) (hz : w.frozen? ⟨b, o, none⟩ = false) (h0 : 0 ≤ x) (h1 : 0 ≤ y) (hs : x + y < 18446744073709551616) :
    Calls Yba.prog 23 #[.pointer (some ⟨b, o, none⟩), .int .u64 y] w fun e w' => e = .returned (.int .u64 (x + y)) ∧ w.setCell ⟨b, o, none⟩ (.int .u64 (x + y)) = w' := by
  have h := addU64 hc hz h0 h1 hs
  clear hs h0 h1
  go_enter Yba.func23, Yba.ntmps23
  go_wp2
  go_ret
  exact ⟨rfl, rfl⟩
end Go.Proofs.Ybulkpgg
