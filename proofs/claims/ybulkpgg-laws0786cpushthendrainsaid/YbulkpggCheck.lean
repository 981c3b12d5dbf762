/- zzs0786ccheck: true at a queue that is the model's. -/
import Derived.Test.YbulkpggLinkAny
import Derived.LaidEqlPtr
set_option linter.unusedVariables false
namespace Go.Proofs.Ybulkpgg
open Go.RowKit

theorem info56 : ∃ j, Yba.prog.info? 56 = some j := by
  have h : (Yba.prog.info? 56).isSome = true := by kernel_rfl
  exact Option.isSome_iff_exists.1 h

theorem neq_same (o : Option Addr) (w : World) : (binOp .neq 49 (.pointer o) (.pointer o)).run Yba.prog w = .ok (.bool false) w := by
  obtain ⟨j, hj⟩ := info56
  cases o with
  | none => simp [go_sem]
  | some a =>
    have h : ∀ d : Nat, (Op.equalIn (d + 1) 49 (.pointer (some a)) (.pointer (some a))).run Yba.prog w = .ok true w := fun d => by
      simp [Op.equalIn, run_underlying Yba.underlying49, sizeOf, typeInfo, hj, run_sameAddr_same]
    simp only [binOp]
    simp [Op.equal, Op.maxDepth, h 9999]

set_option maxHeartbeats 1000000 in
theorem check_any (Q Rw Rm : Nat) (A : Nat → Nat) (S : Nat → Int) (l : List Nat) (kw cw cm : Nat) (w : World) (hQ : Que w Q A S l) (hlen : l.length ≤ 1024) (hkw : kw ≤ 1024)
    (hlt : ∀ (j i : Nat), l[j]? = some i → i < kw) (hws : ∀ i, i < kw → w.cell? ⟨Rw, i, none⟩ = some (ptr A (some i))) (hmd : ∀ (j i : Nat), l[j]? = some i → w.cell? ⟨Rm, j, none⟩ = some (.int .i64 i)) :
    Calls Yba.prog 15 #[.pointer (some ⟨Q, 0, none⟩), .slice (some ⟨Rw, 0, none⟩) kw cw, .slice (some ⟨Rm, 0, none⟩) l.length cm] w fun e w' => e = .returned (.bool true) ∧ w = w' := by
  have q0 := hQ.q.cell (i := 0) (by omega)
  have q1 := hQ.q.cell (i := 1) (by omega)
  have q2 := hQ.q.cell (i := 2) (by omega)
  simp [qF] at q0 q1 q2
  rw [ptr] at q0
  go_enter Yba.func15, Yba.ntmps15
  go_wp2_with fail
  go_loop [7, 8, 9] (fun pv cu i => ∃ k : Nat, k ≤ l.length ∧ i = .int .i64 k ∧ pv = ptr A (prv l k) ∧ cu = ptr A l[k]?) (fun _ _ i => l.length - (intOf i).toNat)
  case atStart => exact ⟨0, Nat.zero_le _, rfl, rfl, rfl⟩
  case round =>
    obtain ⟨k, hk, rfl, rfl, rfl⟩ := hrel
    by_cases hkl : k < l.length
    · have hex : ∃ x, l[k]? = some x := ⟨_, List.getElem?_eq_getElem hkl⟩
      obtain ⟨x, hx⟩ := hex
      have hsame := neq_same
      have hxk := hlt k x hx
      have c1 := hmd k x hx
      have c2 := hws x hxk
      have hN := hQ.node k x hx
      have n2 := hN.cell (i := 2) (by omega)
      have n3 := hN.cell (i := 3) (by omega)
      simp [nF] at n2 n3
      rw [hx, ptr_some]
      rw [ptr_some] at c2
      rw [ptr] at n3
      rw [ptr] at n2 ⊢
      have HX : Hid (l[k]? = some x) := hx
      clear hx q0 q1 q2 hmd hws hlt hQ hN
      go_wp2_with fail
      go_round
      case rel =>
        have hx := HX.out
        exact ⟨k + 1, by omega, by go_num, by rw [prv_pos l (k + 1) (by omega), Nat.add_sub_cancel, hx, ptr_some], rfl⟩
      case measure => simp [intOf]; omega
    · have hkk : k = l.length := by omega
      subst hkk
      have hsame := neq_same
      have hnil : l[l.length]? = none := by simp
      have hpv : prv l l.length = l[l.length - 1]? := by
        by_cases h0 : l.length = 0
        · rw [h0]; simp [prv]; simpa using h0
        · exact prv_pos l _ (by omega)
      rw [hnil, hpv, ptr_none]
      rw [ptr] at q1 ⊢
      by_cases h0 : 0 < l.length
      · have hex : ∃ x, l[0]? = some x := ⟨_, List.getElem?_eq_getElem h0⟩
        obtain ⟨x, hx⟩ := hex
        have hxk := hlt 0 x hx
        have c1 := hmd 0 x hx
        have c2 := hws x hxk
        have hN := hQ.node 0 x hx
        have n1 := hN.cell (i := 1) (by omega)
        simp [nF] at n1
        rw [ptr_some] at c2
        rw [hx] at q2
        simp only [hsOf] at q2
        clear hx hmd hws hlt hQ hN hnil hpv q0
        go_wp2_with fail
        refine (loadi_any Q 2 _ _ q2).mono ?_
        rintro e w' ⟨rfl, rfl⟩
        go_wp2_with fail
        go_ret
        exact ⟨rfl, rfl⟩
      · have h1 : l[0]? = none := List.getElem?_eq_none (by omega)
        rw [h1] at q2
        simp only [hsOf] at q2
        clear h1 hmd hws hlt hQ hnil hpv q0
        go_wp2_with fail
        refine (loadi_any Q 2 _ _ q2).mono ?_
        rintro e w' ⟨rfl, rfl⟩
        go_wp2_with fail
        go_ret
        exact ⟨rfl, rfl⟩
end Go.Proofs.Ybulkpgg
