/- The node's block; leaseFrom. -/
import Derived.Test.YbulkpecRep
set_option linter.unusedVariables false
namespace Go.Proofs.Ybulkpec
open Go.RowKit

/-- Block nb holds the 37 cells f of a Node. -/
def Nd (w : World) (nb : Nat) (f : Nat → Value) : Prop := ∀ k, k < 37 → w.cell? ⟨nb, k, none⟩ = some (f k) ∧ w.frozen? ⟨nb, k, none⟩ = false

def upd (f : Nat → Value) (k : Nat) (v : Value) : Nat → Value := fun j => if j = k then v else f j

theorem upd_same (f : Nat → Value) (k : Nat) (v : Value) : upd f k v k = v := by simp [upd]
theorem upd_other (f : Nat → Value) (k : Nat) (v : Value) (j : Nat) (h : j ≠ k) : upd f k v j = f j := by simp [upd, h]

theorem Nd.of_block {w w' : World} {nb : Nat} {f : Nat → Value} (h : Nd w nb f) (e : w'.heap[nb]? = w.heap[nb]?) : Nd w' nb f := fun k hk =>
  ⟨(World.cell?_of_block (w := w) (a := ⟨nb, k, none⟩) e).trans (h k hk).1, (World.frozen?_of_block (w := w) (a := ⟨nb, k, none⟩) e).trans (h k hk).2⟩

theorem Nd.lt {w : World} {nb : Nat} {f : Nat → Value} (h : Nd w nb f) : nb < w.heap.size := by
  have hc := (h 0 (by decide)).1
  by_cases hl : nb < w.heap.size
  · exact hl
  · unfold World.cell? at hc
    rw [Array.getElem?_eq_none (Nat.le_of_not_lt hl)] at hc
    cases hc

theorem Nd.below {w w' : World} {nb : Nat} {f : Nat → Value} (h : Nd w nb f) (k : Below w.heap.size w w') : Nd w' nb f := h.of_block (k.block nb h.lt)

theorem Nd.setCell {w : World} {nb : Nat} {f : Nat → Value} (h : Nd w nb f) (k : Nat) (v : Value) : Nd (w.setCell ⟨nb, k, none⟩ v) nb (upd f k v) := by
  intro j hj
  refine ⟨?_, by simpa using (h j hj).2⟩
  by_cases e : j = k
  · subst e
    rw [World.cell?_setCell_same _ _ _ (h j hj).1, upd_same]
  · rw [World.cell?_setCell_other _ _ _ _ (ne_off (by omega)), upd_other _ _ _ _ e]; exact (h j hj).1

theorem Nd.setFar {w : World} {nb : Nat} {f : Nat → Value} (h : Nd w nb f) (a : Addr) (v : Value) (ha : nb ≠ a.block) : Nd (w.setCell a v) nb f := h.of_block (Below.heap_setCell _ _ _ _ ha)
theorem Nd.drew {w : World} {nb : Nat} {f : Nat → Value} (h : Nd w nb f) : Nd w.drew nb f := h
theorem Nd.alloc {w : World} {nb : Nat} {f : Nat → Value} (h : Nd w nb f) (o : Obj) : Nd (w.alloc o) nb f := h.of_block (Below.heap_alloc _ _ _ h.lt)

theorem Beside.refl (nb : Nat) (w : World) : Beside nb w w := ⟨rfl, rfl, rfl, Nat.le_refl _, fun _ _ _ => rfl⟩
theorem Beside.trans {nb : Nat} {a b c : World} (h : Beside nb a b) (k : Beside nb b c) : Beside nb a c :=
  ⟨k.os.trans h.os, k.tape.trans h.tape, k.output.trans h.output, Nat.le_trans h.size k.size, fun j h1 h2 => (k.block j (Nat.lt_of_lt_of_le h1 h.size) h2).trans (h.block j h1 h2)⟩
/-- Another block, one that is new, has turned. -/
theorem Beside.other {nb blk : Nat} {a b c : World} (h : Beside nb a b) (k : Beside blk b c) (hb : a.heap.size ≤ blk) : Beside nb a c :=
  ⟨k.os.trans h.os, k.tape.trans h.tape, k.output.trans h.output, Nat.le_trans h.size k.size, fun j h1 h2 => (k.block j (Nat.lt_of_lt_of_le h1 h.size) (by omega)).trans (h.block j h1 h2)⟩
theorem Beside.below {nb : Nat} {a b c : World} (h : Beside nb a b) (k : Below b.heap.size b c) : Beside nb a c :=
  ⟨k.os.trans h.os, k.tape.trans h.tape, k.output.trans h.output, Nat.le_trans h.size k.size, fun j h1 h2 => (k.block j (Nat.lt_of_lt_of_le h1 h.size)).trans (h.block j h1 h2)⟩
theorem Beside.setCell {nb : Nat} {a b : World} (h : Beside nb a b) (k : Nat) (v : Value) : Beside nb a (b.setCell ⟨nb, k, none⟩ v) :=
  ⟨h.os, h.tape, h.output, by simpa using h.size, fun j h1 h2 => (Below.heap_setCell _ _ _ _ h2).trans (h.block j h1 h2)⟩
theorem Beside.setFar {nb : Nat} {a b : World} (h : Beside nb a b) (p : Addr) (v : Value) (hp : a.heap.size ≤ p.block) : Beside nb a (b.setCell p v) :=
  ⟨h.os, h.tape, h.output, by simpa using h.size, fun j h1 h2 => (Below.heap_setCell _ _ _ _ (by omega)).trans (h.block j h1 h2)⟩
theorem Beside.alloc {nb : Nat} {a b : World} (h : Beside nb a b) (o : Obj) : Beside nb a (b.alloc o) := h.below ((Below.refl _ _).alloc (Nat.le_refl _) _)
theorem Beside.grown {nb : Nat} {a b c : World} {row : Option Nat} (h : Beside nb a b) (k : b.grownBy c row) (hr : ∀ j, row = some j → a.heap.size ≤ j) : Beside nb a c :=
  ⟨k.os.trans h.os, k.tape.trans h.tape, k.output.trans h.output, Nat.le_trans h.size k.size, fun j h1 h2 => (k.block j (Nat.lt_of_lt_of_le h1 h.size) (fun e => by have := hr j e.symm; omega)).trans (h.block j h1 h2)⟩
theorem Beside.toBelow {nb B : Nat} {a b : World} (h : Beside nb a b) (h1 : B ≤ nb) (h2 : B ≤ a.heap.size) : Below B a b :=
  ⟨h.os, h.tape, h.output, h.size, fun j hj => h.block j (by omega) (by omega)⟩

set_option maxHeartbeats 1000000 in
theorem leaseFrom_any (nb : Nat) (f : Nat → Value) (lt c : Int) (w : World) (hn : Nd w nb f) (h3 : f 3 = .int .i64 lt) (hl0 : -1099511627776 ≤ lt) (hl1 : lt ≤ 1099511627776) (hc0 : -1099511627776 ≤ c) (hc1 : c ≤ 1099511627776) :
    Calls Yba.prog 17 #[.pointer (some ⟨nb, 0, none⟩), T c] w fun e w' => e = .returned (T (c + (lt - lt.tdiv 100))) ∧ Below w.heap.size w w' := by
  have c3 := (hn 3 (by decide)).1
  rw [h3] at c3
  have hlt := hn.lt
  have hd : -10995116278 ≤ lt.tdiv 100 ∧ lt.tdiv 100 ≤ 10995116278 := by
    have h1 := Int.mul_tdiv_add_tmod lt 100
    have h2 := Int.tmod_lt_of_pos lt (show (0:Int) < 100 by decide)
    have h4 := Int.tmod_lt_of_pos (-lt) (show (0:Int) < 100 by decide)
    rw [Int.neg_tmod] at h4
    omega
  obtain ⟨hd0, hd1⟩ := hd
  generalize hq : lt.tdiv 100 = q at *
  have ha : Hid (∀ w, Calls Yba.prog 7 #[T c, .int .i64 (lt - q)] w fun e w' => e = .returned (T (c + (lt - q))) ∧ Below w.heap.size w w') := fun w => add_any c (lt - q) (by omega) (by omega) (by omega) (by omega) w
  unfold T at *
  generalize wallOf c = x at *
  generalize extOf c = y at *
  generalize wallOf (c + (lt - q)) = x2 at *
  generalize extOf (c + (lt - q)) = y2 at *
  have hne : ¬ nb = w.heap.size := by omega
  have hne2 : ¬ nb = w.heap.size + 1 := by omega
  have wq : IntKind.i64.wrap q = q := by simp [IntKind.wrap, IntKind.bits, IntKind.signed]; omega
  have wq2 : IntKind.i64.wrap (lt - q) = lt - q := by simp [IntKind.wrap, IntKind.bits, IntKind.signed]; omega
  have hne3 : ¬ w.heap.size = nb := by omega
  have hne4 : ¬ w.heap.size + 1 = nb := by omega
  clear hn h3
  go_enter Yba.func17, Yba.ntmps17
  go_wp2_with fail
  go_region_held3 (fun w' => w'.cell? ⟨nb, 3, none⟩ = some (.int .i64 lt) ∧ w'.cell? ⟨w.heap.size, 0, none⟩ = some (.int .u64 x) ∧ w'.cell? ⟨w.heap.size, 1, none⟩ = some (.int .i64 y) ∧ w'.cell? ⟨w.heap.size, 2, none⟩ = some (.pointer none)) (go_keep)
    ((go_at_call 7; refine (ha.out _).mono ?_; rintro e w1 ⟨rfl, hb1⟩; have g0 := keepCell hb1 (keepCell ((((Below.refl w.heap.size w).alloc (Nat.le_refl _) _).alloc (by simp) _).drew) c3); have k0 := hb1.cell (p := ⟨w.heap.size, 0, none⟩) (by simp; omega); have k1 := hb1.cell (p := ⟨w.heap.size, 1, none⟩) (by simp; omega); have k2 := hb1.cell (p := ⟨w.heap.size, 2, none⟩) (by simp; omega); have j0 := hb1.cell (p := ⟨w.heap.size + 1, 0, none⟩) (by simp); have j1 := hb1.cell (p := ⟨w.heap.size + 1, 1, none⟩) (by simp); have j2 := hb1.cell (p := ⟨w.heap.size + 1, 2, none⟩) (by simp); have f0 := hb1.frozen (p := ⟨w.heap.size + 1, 0, none⟩) (by simp); have f1 := hb1.frozen (p := ⟨w.heap.size + 1, 1, none⟩) (by simp); have f2 := hb1.frozen (p := ⟨w.heap.size + 1, 2, none⟩) (by simp); simp at k0 k1 k2 j0 j1 j2 f0 f1 f2; have HB : Hid _ := hb1; clear hb1))
  go_wp2_with fail
  (try simp only [Exit.inBlock, Exit.then]); refine bodyPost_ret (by simp [results, Yba.results17, go_sem, j0, j1, j2]; try rfl) rfl ?_
  refine ⟨rfl, ?_⟩
  have B := HB.out
  simp only [World.size_drew, World.size_alloc] at B
  exact ((((((((Below.refl w.heap.size w).alloc (Nat.le_refl _) _).alloc (by simp) _).drew).trans (B.mono (by omega))).setCell (by show w.heap.size ≤ w.heap.size + 1; omega) _).setCell (by show w.heap.size ≤ w.heap.size + 1; omega) _).setCell (by show w.heap.size ≤ w.heap.size + 1; omega) _)
end Go.Proofs.Ybulkpec
