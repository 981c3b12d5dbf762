/- slot, Contains, scalar, value, keeping: contracts for a pinned choice. -/
import Derived.Test.YbulkpfsDoorSpan
import Derived.Deep.QuietTactic
import Derived.BigQuiet
set_option linter.unusedVariables false
namespace Go.Proofs.YbulkpfsDoor
open Go.RowKit

theorem eql23 (w : World) (a : Option Addr) (n c n' c' : Nat) : (binOp .eql 23 (.slice a n c) (.slice none n' c')).run Ybad.prog w = .ok (.bool a.isNone) w := Lib.run_eql_slice_nil w _ _ a n c n' c' Ybad.underlying23

set_option maxHeartbeats 400000 in
theorem slot_any (M : Nat) (p q : Int) (h0 : 0 ≤ p) (h1 : p ≤ 2000) (w : World) (m0 : w.cell? ⟨M, 0, none⟩ = some (.int .i64 1)) :
    Calls Ybad.prog 14 #[.pointer (some ⟨M, 0, none⟩), .int .i64 0, .int .i64 0, .int .i64 p, .int .i64 q] w fun e w' => e = .returned (.int .i64 p) ∧ w = w' := by
  go_enter Ybad.func14, Ybad.ntmps14
  go_wp2_with fail
  go_ret
  exact ⟨rfl, rfl⟩

set_option maxHeartbeats 400000 in
theorem index_nil (x : Int) (w : World) : Calls Ybad.prog 27 #[.slice none 0 0, .int .i64 x] w fun e w' => e = .returned (.int .i64 (-1)) ∧ w = w' := by
  go_enter Ybad.func27, Ybad.ntmps27
  go_wp2_with fail
  go_loop [8] (fun i => i = .int .i64 0) (fun _ => 0)
  case atStart => rfl
  case round =>
    obtain rfl := hrel
    go_wp2_with fail
    go_ret
    exact ⟨rfl, rfl⟩

set_option maxHeartbeats 400000 in
theorem index_one (K : Nat) (x : Int) (w : World) (hk : w.cell? ⟨K, 0, none⟩ = some (.int .i64 x)) : Calls Ybad.prog 27 #[.slice (some ⟨K, 0, none⟩) 1 1, .int .i64 x] w fun e w' => e = .returned (.int .i64 0) ∧ w = w' := by
  go_enter Ybad.func27, Ybad.ntmps27
  go_wp2_with fail
  go_loop [8] (fun i => i = .int .i64 0) (fun _ => 0)
  case atStart => rfl
  case round =>
    obtain rfl := hrel
    go_wp2_with fail
    go_ret
    exact ⟨rfl, rfl⟩

set_option maxHeartbeats 400000 in
theorem contains_nil (x : Int) (w : World) : Calls Ybad.prog 15 #[.slice none 0 0, .int .i64 x] w fun e w' => e = .returned (.bool false) ∧ w = w' := by
  go_enter Ybad.func15, Ybad.ntmps15
  go_wp2_with (go_at_call 27; refine (index_nil _ _).mono ?_; rintro e w' ⟨rfl, rfl⟩)
  go_ret
  exact ⟨rfl, rfl⟩

set_option maxHeartbeats 400000 in
theorem contains_one (K : Nat) (x : Int) (w : World) (hk : w.cell? ⟨K, 0, none⟩ = some (.int .i64 x)) : Calls Ybad.prog 15 #[.slice (some ⟨K, 0, none⟩) 1 1, .int .i64 x] w fun e w' => e = .returned (.bool true) ∧ w = w' := by
  go_enter Ybad.func15, Ybad.ntmps15
  go_wp2_with (go_at_call 27; refine (index_one _ _ _ hk).mono ?_; rintro e w' ⟨rfl, rfl⟩)
  go_ret
  exact ⟨rfl, rfl⟩

set_option maxHeartbeats 400000 in
theorem scalar_range (A : Nat) (lo v : Int) (h0 : -200 ≤ lo) (h1 : lo ≤ 200) (h2 : -2147483648 ≤ v) (h3 : v ≤ 2147483647) (w : World) (a0 : w.cell? ⟨A, 0, none⟩ = some (.int .i64 lo)) (a2 : w.cell? ⟨A, 2, none⟩ = some (.slice none 0 0)) :
    Calls Ybad.prog 19 #[.pointer (some ⟨A, 0, none⟩), .int .i32 v] w fun e w' => e = .returned (.int .i64 (lo + v - 1)) ∧ w = w' := by
  have hnil := eql23
  go_enter Ybad.func19, Ybad.ntmps19
  go_wp2_with fail
  go_ret
  exact ⟨rfl, rfl⟩

set_option maxHeartbeats 400000 in
theorem value_out (C : Nat) (lo hi x : Int) (hx : x < lo ∨ hi < x) (w : World) (a0 : w.cell? ⟨C, 0, none⟩ = some (.int .i64 lo)) (a1 : w.cell? ⟨C, 1, none⟩ = some (.int .i64 hi)) (a2 : w.cell? ⟨C, 2, none⟩ = some (.slice none 0 0)) :
    Calls Ybad.prog 18 #[.pointer (some ⟨C, 0, none⟩), .int .i64 x] w fun e w' => e = .returned (.tuple #[.int .i32 0, .bool false]) ∧ w = w' := by
  have hnil := eql23
  by_cases h : x < lo
  · go_enter Ybad.func18, Ybad.ntmps18
    go_wp2_with fail
    go_ret2
    exact ⟨rfl, rfl⟩
  · have h' : hi < x := by omega
    clear hx
    go_enter Ybad.func18, Ybad.ntmps18
    go_wp2_with fail
    go_ret2
    exact ⟨rfl, rfl⟩

set_option maxHeartbeats 400000 in
theorem value_in (C : Nat) (lo hi x : Int) (hl : ¬ x < lo) (hh : ¬ hi < x) (h0 : -200 ≤ lo) (h1 : lo ≤ 200) (h2 : hi ≤ lo + 255) (w : World) (a0 : w.cell? ⟨C, 0, none⟩ = some (.int .i64 lo)) (a1 : w.cell? ⟨C, 1, none⟩ = some (.int .i64 hi)) (a2 : w.cell? ⟨C, 2, none⟩ = some (.slice none 0 0)) :
    Calls Ybad.prog 18 #[.pointer (some ⟨C, 0, none⟩), .int .i64 x] w fun e w' => e = .returned (.tuple #[.int .i32 (x - lo + 1), .bool true]) ∧ w = w' := by
  have hnil := eql23
  have b1 : 0 ≤ x - lo := by omega
  have b2 : x - lo ≤ 255 := by omega
  go_enter Ybad.func18, Ybad.ntmps18
  go_wp2_with fail
  go_ret2
  exact ⟨rfl, rfl⟩
end Go.Proofs.YbulkpfsDoor
namespace Go.Proofs.YbulkpfsDoor
open Go.RowKit

/-- The machine of the law on a pinned choice. -/
structure Pin (w : World) (M Pb C U Ab T nst p : Nat) (alo lo hi sz v : Int) : Prop where
  m0 : w.cell? ⟨M, 0, none⟩ = some (.int .i64 1)
  m2 : w.cell? ⟨M, 2, none⟩ = some (.slice (some ⟨Ab, 0, none⟩) 1 1)
  m3 : w.cell? ⟨M, 3, none⟩ = some (.slice (some ⟨Pb, 0, none⟩) 1 1)
  p3 : w.cell? ⟨Pb, 3, none⟩ = some (.slice (some ⟨C, 0, none⟩) 1 1)
  p5 : w.cell? ⟨Pb, 5, none⟩ = some (.slice (some ⟨U, 0, none⟩) 1 1)
  u0 : w.cell? ⟨U, 0, none⟩ = some (.int .i64 0)
  u1 : w.cell? ⟨U, 1, none⟩ = some (.int .i64 0)
  u2 : w.cell? ⟨U, 2, none⟩ = some (.int .i64 0)
  u3 : w.cell? ⟨U, 3, none⟩ = some (.int .i64 6)
  u7 : w.cell? ⟨U, 7, none⟩ = some (.int .i64 0)
  c0 : w.cell? ⟨C, 0, none⟩ = some (.int .i64 lo)
  c1 : w.cell? ⟨C, 1, none⟩ = some (.int .i64 hi)
  c2 : w.cell? ⟨C, 2, none⟩ = some (.slice none 0 0)
  c8 : w.cell? ⟨C, 8, none⟩ = some (.bool false)
  c9 : w.cell? ⟨C, 9, none⟩ = some (.int .i64 sz)
  c12 : w.cell? ⟨C, 12, none⟩ = some (.bool false)
  a0 : w.cell? ⟨Ab, 0, none⟩ = some (.int .i64 alo)
  a2 : w.cell? ⟨Ab, 2, none⟩ = some (.slice none 0 0)
  t : w.cell? ⟨T, p, none⟩ = some (.int .i32 v)
  hp : p < nst
  hn : nst ≤ 1025
  ha : -200 ≤ alo ∧ alo ≤ 200
  hlo : -200 ≤ lo ∧ lo ≤ 200
  hhi : hi ≤ lo + 255
  hv : -2147483648 ≤ v ∧ v ≤ 2147483647

theorem slot_same (M : Nat) (p q : Int) (h0 : 0 ≤ p) (h1 : p ≤ 2000) (w : World) (m0 : w.cell? ⟨M, 0, none⟩ = some (.int .i64 1)) :
    Calls Ybad.prog 14 #[.pointer (some ⟨M, 0, none⟩), .int .i64 0, .int .i64 0, .int .i64 p, .int .i64 q] w fun e w' => e = .returned (.int .i64 p) ∧ w' = w :=
  (slot_any M p q h0 h1 w m0).mono fun _ _ ⟨a, b⟩ => ⟨a, b.symm⟩

set_option maxRecDepth 100000 in
set_option maxHeartbeats 1000000 in
theorem keeping_nil (M Pb C U Ab T nst p : Nat) (alo lo hi sz v : Int) (w : World) (h : Pin w M Pb C U Ab T nst p alo lo hi sz v) :
    Calls Ybad.prog 11 #[.pointer (some ⟨M, 0, none⟩), .int .i64 0, .int .i64 0, .slice (some ⟨T, 0, none⟩) nst nst, .int .i64 p, .int .i64 0, .slice none 0 0] w fun e w' => e = .returned (.tuple #[.int .i32 0, .bool false]) ∧ ∃ n, w' = w.drewN n := by
  have m0 := h.m0; have m3 := h.m3; have p5 := h.p5; have u0 := h.u0; have u1 := h.u1; have u2 := h.u2; have u3 := h.u3; have u7 := h.u7
  have hp := h.hp; have hn := h.hn
  have hpi : (p : Int) ≤ 2000 := by omega
  have hp0 : (0 : Int) ≤ (p : Int) := by omega
  clear h
  go_enter Ybad.func11, Ybad.ntmps11
  go_wp2_with fail
  go_loopw [32] (fun i wr => (i = .int .i64 0 ∨ i = .int .i64 1) ∧ Hid (∃ n, wr = w.drewN n)) (fun i _ => 1 - (intOf i).toNat)
  case atStart => exact ⟨.inl rfl, 0, rfl⟩
  case round =>
    obtain ⟨hi, hw⟩ := hrel
    have cl : ∀ a : Addr, wr.cell? a = w.cell? a := by obtain ⟨n, rfl⟩ := hw.out; intro a; simp
    rcases hi with rfl | rfl
    · have m0' := (cl _).trans m0; have m3' := (cl _).trans m3; have p5' := (cl _).trans p5; have u0' := (cl _).trans u0; have u1' := (cl _).trans u1; have u2' := (cl _).trans u2; have u3' := (cl _).trans u3; have u7' := (cl _).trans u7
      clear cl m0 m3 p5 u0 u1 u2 u3 u7
      go_wp2_with fail
      go_quiet ((go_at_call 14; refine Calls.quiet_of_same (slot_same _ _ _ ?_ ?_ _ ?_); exact hp0; exact hpi; go_simp))
      go_wp2_with (go_at_call 15; refine (contains_nil _ _).mono ?_; rintro e w' ⟨rfl, rfl⟩)
      go_roundw
      case rel => exact ⟨.inr rfl, by obtain ⟨n, rfl⟩ := hw.out; exact ⟨n + nq, by rw [World.drewN_drewN]⟩⟩
      case measure => simp [intOf]
    · clear cl
      go_wp2_with fail
      go_ret2
      exact ⟨rfl, hw⟩

theorem scalar_same (A : Nat) (lo v : Int) (h0 : -200 ≤ lo) (h1 : lo ≤ 200) (h2 : -2147483648 ≤ v) (h3 : v ≤ 2147483647) (w : World) (a0 : w.cell? ⟨A, 0, none⟩ = some (.int .i64 lo)) (a2 : w.cell? ⟨A, 2, none⟩ = some (.slice none 0 0)) :
    Calls Ybad.prog 19 #[.pointer (some ⟨A, 0, none⟩), .int .i32 v] w fun e w' => e = .returned (.int .i64 (lo + v - 1)) ∧ w' = w :=
  (scalar_range A lo v h0 h1 h2 h3 w a0 a2).mono fun _ _ ⟨a, b⟩ => ⟨a, b.symm⟩

/-- What the choice's value is that keeps the attribute: 0 where none does. -/
def pinV (alo lo hi v : Int) : Int := if v = 0 then 0 else if alo + v - 1 < lo ∨ hi < alo + v - 1 then 0 else alo + v - 1 - lo + 1

def pinB (alo lo hi v : Int) : Bool := if alo + v - 1 < lo ∨ hi < alo + v - 1 then false else true

theorem value_same (C : Nat) (alo lo hi v : Int) (hv : ¬ v = 0) (h0 : -200 ≤ lo) (h1 : lo ≤ 200) (h2 : hi ≤ lo + 255) (w : World) (a0 : w.cell? ⟨C, 0, none⟩ = some (.int .i64 lo)) (a1 : w.cell? ⟨C, 1, none⟩ = some (.int .i64 hi)) (a2 : w.cell? ⟨C, 2, none⟩ = some (.slice none 0 0)) :
    Calls Ybad.prog 18 #[.pointer (some ⟨C, 0, none⟩), .int .i64 (alo + v - 1)] w fun e w' => e = .returned (.tuple #[.int .i32 (pinV alo lo hi v), .bool (pinB alo lo hi v)]) ∧ w' = w := by
  unfold pinV pinB
  rw [if_neg hv]
  by_cases h : alo + v - 1 < lo ∨ hi < alo + v - 1
  · rw [if_pos h, if_pos h]
    exact (value_out C lo hi _ h w a0 a1 a2).mono fun _ _ ⟨a, b⟩ => ⟨a, b.symm⟩
  · rw [if_neg h, if_neg h]
    exact (value_in C lo hi _ (by omega) (by omega) h0 h1 h2 w a0 a1 a2).mono fun _ _ ⟨a, b⟩ => ⟨a, b.symm⟩

set_option maxRecDepth 100000 in
set_option maxHeartbeats 1000000 in
theorem keeping_zero (M Pb C U Ab T nst p K : Nat) (alo lo hi sz : Int) (w : World) (h : Pin w M Pb C U Ab T nst p alo lo hi sz 0) (hk : w.cell? ⟨K, 0, none⟩ = some (.int .i64 p)) :
    Calls Ybad.prog 11 #[.pointer (some ⟨M, 0, none⟩), .int .i64 0, .int .i64 0, .slice (some ⟨T, 0, none⟩) nst nst, .int .i64 p, .int .i64 0, .slice (some ⟨K, 0, none⟩) 1 1] w fun e w' => e = .returned (.tuple #[.int .i32 0, .bool true]) ∧ ∃ n, w' = w.drewN n := by
  have m0 := h.m0; have m3 := h.m3; have p5 := h.p5; have u0 := h.u0; have u1 := h.u1; have u2 := h.u2; have u3 := h.u3; have u7 := h.u7; have t := h.t
  have hp := h.hp; have hn := h.hn
  have hpi : (p : Int) ≤ 2000 := by omega
  have hp0 : (0 : Int) ≤ (p : Int) := by omega
  clear h
  go_enter Ybad.func11, Ybad.ntmps11
  go_wp2_with fail
  go_loopw [32] (fun i wr => i = .int .i64 0 ∧ Hid (wr = w)) (fun i _ => 1 - (intOf i).toNat)
  case atStart => exact ⟨rfl, rfl⟩
  case round =>
    obtain ⟨rfl, hw⟩ := hrel
    have cl : ∀ a : Addr, wr.cell? a = w.cell? a := by intro a; rw [hw.out]
    have m0' := (cl _).trans m0; have m3' := (cl _).trans m3; have p5' := (cl _).trans p5; have u0' := (cl _).trans u0; have u1' := (cl _).trans u1; have u2' := (cl _).trans u2; have u3' := (cl _).trans u3; have u7' := (cl _).trans u7; have t' := (cl _).trans t; have hk' := (cl _).trans hk
    clear cl m0 m3 p5 u0 u1 u2 u3 u7 t hk
    go_wp2_with fail
    go_quiet ((go_at_call 14; refine Calls.quiet_of_same (slot_same _ _ _ ?_ ?_ _ ?_); exact hp0; exact hpi; go_simp))
    go_wp2_with (go_at_call 15; refine (contains_one _ _ _ (by go_simp)).mono ?_; rintro e w' ⟨rfl, rfl⟩)
    go_ret2
    exact ⟨rfl, nq, by rw [hw.out]⟩

set_option maxRecDepth 100000 in
set_option maxHeartbeats 1000000 in
theorem keeping_some (M Pb C U Ab T nst p K : Nat) (alo lo hi sz v : Int) (hv : ¬ v = 0) (w : World) (h : Pin w M Pb C U Ab T nst p alo lo hi sz v) (hk : w.cell? ⟨K, 0, none⟩ = some (.int .i64 p)) :
    Calls Ybad.prog 11 #[.pointer (some ⟨M, 0, none⟩), .int .i64 0, .int .i64 0, .slice (some ⟨T, 0, none⟩) nst nst, .int .i64 p, .int .i64 0, .slice (some ⟨K, 0, none⟩) 1 1] w fun e w' => e = .returned (.tuple #[.int .i32 (pinV alo lo hi v), .bool true]) ∧ ∃ n, w' = w.drewN n := by
  have m0 := h.m0; have m2 := h.m2; have m3 := h.m3; have p3 := h.p3; have p5 := h.p5; have u0 := h.u0; have u1 := h.u1; have u2 := h.u2; have u3 := h.u3; have u7 := h.u7; have t := h.t; have c8 := h.c8
  have hp := h.hp; have hn := h.hn
  have hpi : (p : Int) ≤ 2000 := by omega
  have hp0 : (0 : Int) ≤ (p : Int) := by omega
  have hpn : (p : Int) < (nst : Int) := by omega
  have hv' : (v == 0) = false := by simpa using hv
  have a0 := h.a0; have a2 := h.a2; have c0 := h.c0; have c1 := h.c1; have c2 := h.c2
  have ha := h.ha; have hlo := h.hlo; have hhi := h.hhi; have hvb := h.hv
  clear h
  go_enter Ybad.func11, Ybad.ntmps11
  go_wp2_with fail
  go_loopw [32] (fun i wr => i = .int .i64 0 ∧ Hid (wr = w)) (fun i _ => 1 - (intOf i).toNat)
  case atStart => exact ⟨rfl, rfl⟩
  case round =>
    obtain ⟨rfl, hw⟩ := hrel
    have hww := hw.out
    subst hww
    go_wp2_with fail
    go_quiet ((go_at_call 14; refine Calls.quiet_of_same (slot_same _ _ _ ?_ ?_ _ ?_); exact hp0; exact hpi; go_simp))
    go_wp2_with (go_at_call 15; refine (contains_one _ _ _ (by go_simp)).mono ?_; rintro e w' ⟨rfl, rfl⟩)
    generalize hw2 : wr.drewN nq = w2
    have cl : ∀ a : Addr, w2.cell? a = wr.cell? a := by intro a; rw [← hw2]; simp
    have m2' := (cl _).trans m2; have u1' := (cl _).trans u1; have t' := (cl _).trans t; have c8' := (cl _).trans c8; have p3' := (cl _).trans p3
    have HW : Hid (wr.drewN nq = w2) := hw2
    have HV : Hid (∀ n, Calls Ybad.prog 18 #[.pointer (some ⟨C, 0, none⟩), .int .i64 (alo + v - 1)] (w2.drewN n) fun e w' => e = .returned (.tuple #[.int .i32 (pinV alo lo hi v), .bool (pinB alo lo hi v)]) ∧ w' = w2.drewN n) :=
      fun n => value_same C alo lo hi v hv hlo.1 hlo.2 hhi (w2.drewN n) (by simpa using (cl _).trans c0) (by simpa using (cl _).trans c1) (by simpa using (cl _).trans c2)
    have HS : Hid (∀ n, Calls Ybad.prog 19 #[.pointer (some ⟨Ab, 0, none⟩), .int .i32 v] (w2.drewN n) fun e w' => e = .returned (.int .i64 (alo + v - 1)) ∧ w' = w2.drewN n) :=
      fun n => scalar_same Ab alo v ha.1 ha.2 hvb.1 hvb.2 (w2.drewN n) (by simpa using (cl _).trans a0) (by simpa using (cl _).trans a2)
    clear hw2 cl
    go_quiet ((first | (go_at_call 19; exact Calls.quiet_of_same (HS.out _)) | (go_at_call 18; exact Calls.quiet_of_same (HV.out _))))
    go_wp2_with fail
    go_ret2
    exact ⟨rfl, _, by rw [← HW.out, World.drewN_drewN]⟩
end Go.Proofs.YbulkpfsDoor
