/- The bitset's put: contract. -/
import Derived.Test.YbulkpfsDoorFill
import Derived.Deep.LoopGhost
import Derived.OpenShut
set_option linter.unusedVariables false
namespace Go.Proofs.YbulkpfsDoor
open Go.RowKit Go.Deep

/-- Words. -/
def Words (xs : List Value) : Prop := ∀ v ∈ xs, ∃ z : Int, v = .int .u64 z ∧ 0 ≤ z ∧ z ≤ 18446744073709551615

/-- The variable at A holds a bitset of len words, in a row of its own from block 'base' on. -/
def AllSt (w : World) (A base len : Nat) : Prop := ∃ v xs, w.cell? ⟨A, 0, none⟩ = some v ∧ w.frozen? ⟨A, 0, none⟩ = false ∧ w.ownsRow base 83 1 v len xs ∧ Words xs

theorem AllSt.word {w : World} {A base len j : Nat} (h : AllSt w A base len) (hj : j < len) :
    ∃ g cap x, base ≤ g ∧ 0 ≤ x ∧ x ≤ 18446744073709551615 ∧ w.cell? ⟨A, 0, none⟩ = some (.slice (some ⟨g, 0, none⟩) len cap) ∧ w.cell? ⟨g, j, none⟩ = some (.int .u64 x) ∧ w.frozen? ⟨g, j, none⟩ = false ∧
      ∀ z : Int, 0 ≤ z → z ≤ 18446744073709551615 → A < base → AllSt (w.setCell ⟨g, j, none⟩ (.int .u64 z)) A base len := by
  obtain ⟨v, xs, ha, hf, hown, hw⟩ := h
  obtain ⟨hxl, ⟨_, h0⟩ | ⟨g, cap, cur, rfl, hbase, hb, h1, h2, h3, h4⟩⟩ := hown
  · omega
  simp only [Nat.mul_one] at hxl h3 h4
  have hx : ∃ x, xs[j]? = some x := ⟨_, List.getElem?_eq_getElem (by omega)⟩
  obtain ⟨x, hx⟩ := hx
  obtain ⟨z, rfl, hz0, hz1⟩ := hw x (List.mem_of_getElem? hx)
  have hcj : cur[j]? = some (.int .u64 z) := by
    rw [← h4, List.getElem?_take, if_pos hj] at hx
    simpa using hx
  refine ⟨g, cap, z, hbase, hz0, hz1, ha, ?_, ?_, ?_⟩
  · simp [World.cell?, hb, hcj]
  · simp [World.frozen?, hb]
  · intro y hy0 hy1 hA
    refine ⟨_, xs.set j (.int .u64 y), ?_, ?_, ⟨by simpa using hxl, .inr ⟨g, cap, cur.setIfInBounds j (.int .u64 y), rfl, hbase, ?_, h1, h2, by simpa using h3, ?_⟩⟩, ?_⟩
    · rw [World.cell?_setCell_other _ _ _ _ (fun e => by have := congrArg Addr.block e; simp at this; omega)]; exact ha
    · simpa using hf
    · simp [World.setCell, Array.getElem?_modify, hb]
    · rw [← h4]; simp [List.take_set]
    · intro u hu
      rcases List.mem_or_eq_of_mem_set hu with h | rfl
      · exact hw u h
      · exact ⟨y, rfl, hy0, hy1⟩

theorem or_bounds (x y : Int) : 0 ≤ bits .or .u64 x y ∧ bits .or .u64 x y ≤ 18446744073709551615 := bounds_u64 (wf_bits _ _ _ _)

set_option maxHeartbeats 1000000 in
theorem put_any (A base len k : Nat) (hk : k / 64 ≤ len) (hk2 : k ≤ 1000) (hl : len ≤ 1000) (hA : A < base) (w : World) (h : AllSt w A base len) (hb : base ≤ w.heap.size) :
    Calls Ybad.prog 8 #[.pointer (some ⟨A, 0, none⟩), .int .i64 k] w fun e w' => e = .returned (.tuple #[]) ∧ AllSt w' A base (max len (k / 64 + 1)) ∧ Below A w w' ∧ base ≤ w'.heap.size := by
  obtain ⟨i0, hi, hz0, hz1, hz2⟩ := info_parts Ybad.info83
  go_enter Ybad.func8, Ybad.ntmps8
  go_wp2_with fail
  go_loopg [7] (k / 64 + 1 - len) (fun gh _ wr => ∃ n, len ≤ n ∧ n ≤ max len (k / 64 + 1) ∧ gh = k / 64 + 1 - n ∧ AllSt wr A base n ∧ Below A w wr ∧ base ≤ wr.heap.size)
  case atStart => exact ⟨len, Nat.le_refl _, by omega, rfl, h, Below.refl _ _, hb⟩
  case round =>
    obtain ⟨n, hn1, hn2, rfl, hst, hbel, hbs⟩ := hrel
    by_cases hc : n ≤ k / 64
    · obtain ⟨v, xs, ha, hf, hown, hw⟩ := hst
      have hci : (n : Int) ≤ (k : Int) / 64 := by omega
      have hv : ∃ a c, v = .slice a n c := by
        rcases hown.2 with ⟨rfl, rfl⟩ | ⟨g, cap, cur, rfl, _⟩
        · exact ⟨none, 0, rfl⟩
        · exact ⟨_, _, rfl⟩
      obtain ⟨a, c, rfl⟩ := hv
      have hAw : A < wr.heap.size := by omega
      clear h
      go_wp2_with (at_builtin; refine wpList_append_own _ rfl _ _ 27 rfl base 83 i0 (.int .u64 0) 1 8 Ybad.underlying27 hi hz0 hz1 hz2 rfl (by decide) _ _ _ rfl (hown.alloc _) ⟨wr.heap.size, 0, none⟩ 1 1 [.int .u64 0] rfl rfl ?c1 ?c2 ?c3 ?c4 ?c5 ?_)
      case c1 =>
        intro j u hj
        match j, hj with
        | 0, hj => simp at hj; subst hj; simp [Addr.add]
      case c2 => intro u hu; simp at hu; subst hu; rfl
      case c3 => unfold maxLen; omega
      case c4 => omega
      case c5 => simp; omega
      intro v' w1 hown' hgrow hnn
      have hown2 := hown'
      obtain ⟨hxl, ⟨rfl, h00⟩ | ⟨g, cap', cur, rfl, hbase, hbk, r1, r2, r3, r4⟩⟩ := hown2
      · exact absurd rfl hnn
      have hne : some A ≠ (Value.slice a n c).ownBlock := by
        rcases hown.2 with ⟨e, _⟩ | ⟨g', cap2, cur2, e, hb2, _⟩
        · rw [e]; simp [Value.ownBlock]
        · rw [e]; simp [Value.ownBlock]; omega
      have hkA : w1.heap[A]? = wr.heap[A]? := (hgrow.block A (by simp; omega) hne).trans (Below.heap_alloc _ _ _ hAw)
      have ha1 : w1.cell? ⟨A, 0, none⟩ = some (.slice a n c) := (World.cell?_of_block (w := wr) (a := ⟨A, 0, none⟩) hkA).trans ha
      have hf1 : w1.frozen? ⟨A, 0, none⟩ = false := (World.frozen?_of_block (w := wr) (a := ⟨A, 0, none⟩) hkA).trans hf
      have hbel1 : Below A w w1 := (hbel.alloc (by omega) _).grown hgrow (by simp; omega) (fun j hj => by
        rcases hown.2 with ⟨e, _⟩ | ⟨g', cap2, cur2, e, hb2, _⟩
        · rw [e] at hj; simp [Value.ownBlock] at hj
        · rw [e] at hj; simp [Value.ownBlock] at hj; omega)
      have hbs1 : base ≤ w1.heap.size := by have := hgrow.size; simp at this; omega
      have hwd : Words (xs ++ [.int .u64 0]) := by
        intro u hu
        rcases List.mem_append.1 hu with h | h
        · exact hw u h
        · simp at h; subst h; exact ⟨0, rfl, by omega, by omega⟩
      have HN : Hid (AllSt (w1.setCell ⟨A, 0, none⟩ (.slice (some ⟨g, 0, none⟩) (n + 1) cap')) A base (n + 1)) := ⟨_, _, World.cell?_setCell_same _ _ _ ha1, by simpa using hf1, ownsRow_setCell_below hown' hA _, hwd⟩
      have HB : Hid (Below A w (w1.setCell ⟨A, 0, none⟩ (.slice (some ⟨g, 0, none⟩) (n + 1) cap'))) := hbel1.setCell (Nat.le_refl _) _
      clear hown hown' hgrow hnn hbk r1 r2 r3 r4 hkA hbel1 hwd ha hf hw hxl hne
      go_wp2_with fail
      go_roundg (k / 64 + 1 - (n + 1))
      case measure => omega
      case rel => exact ⟨n + 1, by omega, by omega, rfl, HN.out, HB.out, by simpa using hbs1⟩
    · have hnn : n = max len (k / 64 + 1) := by omega
      have hj : k / 64 < n := by omega
      obtain ⟨g, cap, x, hg, hx0, hx1, ha, hcx, hfx, hset⟩ := hst.word hj
      have hset1 := hset (bits .or .u64 x (IntKind.u64.wrap (2 ^ (k % 64)))) (or_bounds _ _).1 (or_bounds _ _).2 hA
      have HS : Hid (AllSt (wr.setCell ⟨g, k / 64, none⟩ (.int .u64 (bits .or .u64 x (IntKind.u64.wrap (2 ^ (k % 64)))))) A base n) := hset1
      have hne : ¬ A = g := by omega
      have hne' : ¬ g = A := by omega
      have hci : ¬ (n : Int) ≤ (k : Int) / 64 := by omega
      have hci2 : (k : Int) / 64 < (n : Int) := by omega
      have HN : Hid (n = max len (k / 64 + 1)) := hnn
      clear hset hset1 hst h hnn
      go_wp2_with fail
      go_region
      go_wp2_with fail
      go_end0
      rw [← HN.out]
      exact ⟨rfl, HS.out, (hbel.setCell (by show A ≤ g; omega) _).drew, by simpa using hbs⟩
end Go.Proofs.YbulkpfsDoor
