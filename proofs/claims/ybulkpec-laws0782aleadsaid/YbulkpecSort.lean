/- sort.Sort over *latestFirst: the frame, and insertionSort. -/
import Derived.Test.YbulkpecProg
import Derived.Sort.WalkA
import Derived.Deep.LoopGhost
set_option linter.unusedVariables false
namespace Go.Proofs.Ybulkpec
open Go.RowKit Go.Sort

/-- Later first. -/
def gt (x y : Int) : Bool := decide (y < x)

/-- The blocks from 'base' on that lay in w read the same in w'. -/
def Keep (base : Nat) (w w' : World) : Prop := w.heap.size ≤ w'.heap.size ∧ ∀ b, base ≤ b → b < w.heap.size → w'.heap[b]? = w.heap[b]?

theorem reach_len (p : Option Addr) : ∀ w, Sem.run Yba.prog (method (Yba.prog.types.size + 100) 61 (.pointer p) "Len") w = .ok (65, .pointer p) w := fun w => by kernel_rfl
theorem reach_less (p : Option Addr) : ∀ w, Sem.run Yba.prog (method (Yba.prog.types.size + 100) 61 (.pointer p) "Less") w = .ok (66, .pointer p) w := fun w => by kernel_rfl
theorem reach_swap (p : Option Addr) : ∀ w, Sem.run Yba.prog (method (Yba.prog.types.size + 100) 61 (.pointer p) "Swap") w = .ok (67, .pointer p) w := fun w => by kernel_rfl

/-- What a representation of a row of N numbers behind the pointer p is to give. -/
structure Rep (R : Array Int → World → Prop) (base : Nat) (p : Option Addr) (N : Nat) : Prop where
  drewN : ∀ {d : Array Int} {w : World} (k : Nat), R d w → R d (w.drewN k)
  alloc : ∀ {d : Array Int} {w : World} (o : Obj), R d w → R d (w.alloc o)
  setNew : ∀ {d : Array Int} {w : World} {a : Addr} (v : Value), R d w → base ≤ a.block → R d (w.setCell a v)
  base_le : ∀ {d : Array Int} {w : World}, R d w → base ≤ w.heap.size
  len : ∀ {d : Array Int} {w : World}, R d w → Calls Yba.prog 65 #[.pointer p] w fun e w' => e = .returned (.int .i64 N) ∧ R d w'
  less : ∀ {d : Array Int} {w : World}, R d w → d.size = N → ∀ i j : Nat, i < N → j < N → Calls Yba.prog 66 #[.pointer p, .int .i64 i, .int .i64 j] w fun e w' => e = .returned (.bool (gt d[i]! d[j]!)) ∧ R d w' ∧ Keep base w w'
  swap : ∀ {d : Array Int} {w : World}, R d w → d.size = N → ∀ i j : Nat, i < N → j < N → Calls Yba.prog 67 #[.pointer p, .int .i64 i, .int .i64 j] w fun e w' => e = .returned (.tuple #[]) ∧ R (swp d i j) w' ∧ Keep base w w'

set_option maxHeartbeats 2000000 in
set_option maxRecDepth 100000 in
theorem insertionSort_any {R : Array Int → World → Prop} {base N : Nat} {p : Option Addr} (H : Rep R base p N) (a b : Nat) (d : Array Int) (hd : d.size = N) (w : World) (h : R d w) (hab : a ≤ b) (hb : b ≤ N) (hN : N ≤ 1000000) :
    Calls Yba.prog 26 #[.iface 61 (.pointer p), .int .i64 a, .int .i64 b] w fun e w' => e = .returned (.tuple #[]) ∧ R (Sort.insertionSort gt d a b) w' := by
  have mL := reach_less p; have mS := reach_swap p
  have HH : Hid (Rep R base p N) := H
  clear H
  go_enter Yba.func26, Yba.ntmps26
  go_wp2
  go_loopw [6] (fun vi wr => ∃ (i : Nat) (dk : Array Int), vi = .int .i64 i ∧ a < i ∧ i ≤ b + 1 ∧ dk.size = N ∧ Hid (R dk wr) ∧
      Hid (insOuter gt a b i dk = insOuter gt a b (a + 1) d)) (fun vi _ => b + 1 - (intOf vi).toNat)
  case atStart => exact ⟨a + 1, d, by go_num, by omega, by omega, hd, h, rfl⟩
  case round =>
    obtain ⟨i, dk, rfl, hai, hib, hsk, hR, HO⟩ := hrel
    by_cases hlt : i < b
    · have hlti : (i : Int) < (b : Int) := by omega
      go_wp2_with fail
      go_loopw [7] (fun vj wr2 => ∃ (j : Nat) (dj : Array Int), vj = .int .i64 j ∧ a ≤ j ∧ j ≤ i ∧ dj.size = N ∧ Hid (R dj wr2) ∧
          Hid (insInner gt a j dj = insInner gt a i dk)) (fun vj _ => (intOf vj).toNat)
      case atStart => exact ⟨i, dk, rfl, by omega, Nat.le_refl _, hsk, hR, rfl⟩
      case round =>
        obtain ⟨j, dj, rfl, haj, hji, hsj, hRj, HI⟩ := hrel
        by_cases hja : a < j
        · have hjai : (a : Int) < (j : Int) := by omega
          have hl := HH.out.less hRj.out hsj j (j - 1) (by omega) (by omega)
          rw [show (((j - 1 : Nat) : Int)) = (j : Int) - 1 by omega] at hl
          cases hlv : gt dj[j]! dj[j - 1]! with
          | true =>
            rw [hlv] at hl
            go_wp2_with (show Calls Yba.prog 66 _ _ _; refine hl.mono ?_; rintro e w1 ⟨rfl, hR1, hk1⟩)
            have hs := HH.out.swap hR1 hsj j (j - 1) (by omega) (by omega)
            rw [show (((j - 1 : Nat) : Int)) = (j : Int) - 1 by omega] at hs
            clear hk1
            go_wp2_with (show Calls Yba.prog 67 _ _ _; refine hs.mono ?_; rintro e w2 ⟨rfl, hR2, hk2⟩)
            go_roundw
            case rel => exact ⟨j - 1, swp dj j (j - 1), by go_num, by omega, by omega, by rw [size_swp]; exact hsj, hR2, by rw [← HI.out, insInner_go gt a j dj hja hlv]; exact rfl⟩
            case measure => simp [intOf]; omega
          | false =>
            rw [hlv] at hl
            go_wp2_with (show Calls Yba.prog 66 _ _ _; refine hl.mono ?_; rintro e w1 ⟨rfl, hR1, hk1⟩)
            go_roundw
            case rel => exact ⟨i + 1, dj, by go_num, by omega, by omega, hsj, hR1, by rw [← HO.out, insOuter_go _ _ _ _ _ hlt, ← HI.out, insInner_stop _ _ _ _ (.inr hlv)]; exact rfl⟩
            case measure => simp [intOf]; omega
        · have hjai : ¬ (a : Int) < (j : Int) := by omega
          go_wp2_with fail
          go_roundw
          case rel => exact ⟨i + 1, dj, by go_num, by omega, by omega, hsj, hRj, by rw [← HO.out, insOuter_go _ _ _ _ _ hlt, ← HI.out, insInner_stop _ _ _ _ (.inl (by omega))]; exact rfl⟩
          case measure => simp [intOf]; omega
    · have hlti : ¬ (i : Int) < (b : Int) := by omega
      go_wp2_with fail
      go_end0
      exact ⟨rfl, by unfold Sort.insertionSort; rw [← HO.out, insOuter_stop _ _ _ _ _ hlt]; exact hR.out⟩
end Go.Proofs.Ybulkpec
