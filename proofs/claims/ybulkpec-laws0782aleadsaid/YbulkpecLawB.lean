/- The law's walk in segments: what each hands on. -/
import Derived.Test.YbulkpecLawA
set_option linter.unusedVariables false
namespace Go.Proofs.Ybulkpec
open Go.RowKit Go.Maps

/-- What is left of a row of statements behind the first n. -/
def dropC : Nat → Code → Code
  | 0, c => c
  | n + 1, .seq _ b => dropC n b
  | _ + 1, c => c

/-- What the law is to leave. -/
def lawPost (w : World) : Exit → Act → World → Prop := bodyPost Yba.prog Yba.f3 fun e w' => e = .returned (.bool true) ∧ Below w.heap.size w w'

/-- Behind lead: the argument's box, the members, the node, the messages. -/
structure Base (w : World) (pcs : Nat → Value) (m : Nat) (mem : Nat → Int) (nb : Nat) (f : Nat → Value) (b0 B : Nat) (L : List Int) (id term sent : Int) (wr : World) : Prop where
  below : Below w.heap.size w wr
  box : Cells wr w.heap.size 10 pcs
  mems : Cells wr (w.heap.size + 1) m fun i => .int .u16 (mem i)
  nd : Nd wr nb f
  own : wr.ownsRow b0 55 6 (f 35) L.length (msgCells id term sent L)
  lt1 : w.heap.size + 2 < nb
  lt2 : nb < b0
  top : ∀ g, (f 35).ownBlock = some g → g < B
  lt3 : nb < B
  size : B ≤ wr.heap.size

theorem Base.ownLt {w : World} {pcs : Nat → Value} {m : Nat} {mem : Nat → Int} {nb b0 B : Nat} {f : Nat → Value} {L : List Int} {id term sent : Int} {wr : World} (h : Base w pcs m mem nb f b0 B L id term sent wr) {g : Nat} (hg : (f 35).ownBlock = some g) : b0 ≤ g := by
  rcases h.own.2 with ⟨e, _⟩ | ⟨g', cap2, cur2, e, hb2, _⟩
  · rw [e] at hg; simp [Value.ownBlock] at hg
  · rw [e] at hg; simp [Value.ownBlock] at hg; omega

theorem Base.below' {w : World} {pcs : Nat → Value} {m : Nat} {mem : Nat → Int} {nb b0 B : Nat} {f : Nat → Value} {L : List Int} {id term sent : Int} {wr wr' : World} (h : Base w pcs m mem nb f b0 B L id term sent wr) (k : Below wr.heap.size wr wr') : Base w pcs m mem nb f b0 B L id term sent wr' := by
  have h1 := h.lt1; have h2 := h.lt2; have h3 := h.lt3; have h4 := h.size
  have h0 := h.below.size
  exact ⟨h.below.trans (k.mono h0), h.box.of_block (k.block _ (by omega)), h.mems.of_block (k.block _ (by omega)), h.nd.below k, owns_below h.own k, h1, h2, h.top, h3, Nat.le_trans h4 k.size⟩

theorem Base.drew {w : World} {pcs : Nat → Value} {m : Nat} {mem : Nat → Int} {nb b0 B : Nat} {f : Nat → Value} {L : List Int} {id term sent : Int} {wr : World} (h : Base w pcs m mem nb f b0 B L id term sent wr) : Base w pcs m mem nb f b0 B L id term sent wr.drew :=
  h.below' ((Below.refl _ wr).drew)

theorem below_drewN (w : World) (n : Nat) : Below w.heap.size w (w.drewN n) := ⟨rfl, rfl, rfl, Nat.le_refl _, fun _ _ => rfl⟩
theorem Base.drewN {w : World} {pcs : Nat → Value} {m : Nat} {mem : Nat → Int} {nb b0 B : Nat} {f : Nat → Value} {L : List Int} {id term sent : Int} {wr : World} (h : Base w pcs m mem nb f b0 B L id term sent wr) (n : Nat) : Base w pcs m mem nb f b0 B L id term sent (wr.drewN n) :=
  h.below' (below_drewN wr n)

/-- A store into a block beside them. -/
theorem Base.setFar {w : World} {pcs : Nat → Value} {m : Nat} {mem : Nat → Int} {nb b0 B : Nat} {f : Nat → Value} {L : List Int} {id term sent : Int} {wr : World} (h : Base w pcs m mem nb f b0 B L id term sent wr) (a : Addr) (u : Value)
    (ha : (w.heap.size + 2 ≤ a.block ∧ a.block < nb) ∨ B ≤ a.block) : Base w pcs m mem nb f b0 B L id term sent (wr.setCell a u) := by
  have h1 := h.lt1; have h2 := h.lt2; have h3 := h.lt3; have h4 := h.size
  refine ⟨h.below.setCell (by omega) _, h.box.of_block (Below.heap_setCell _ _ _ _ (by omega)), h.mems.of_block (Below.heap_setCell _ _ _ _ (by omega)), h.nd.of_block (Below.heap_setCell _ _ _ _ (by omega)), ?_, h1, h2, h.top, h3, by simpa using h4⟩
  refine h.own.kept (row := some a.block) ⟨rfl, rfl, rfl, by simp, fun i _ hi => Below.heap_setCell _ _ _ _ (fun e => hi (by rw [e]))⟩ ?_
  cases hv : (f 35).ownBlock with
  | none => exact .inl rfl
  | some g =>
    right
    have e1 := h.ownLt hv
    have e2 := h.top g hv
    intro e
    injection e with e
    omega

/-- The node behind lead. -/
structure Led (f0 : Nat → Value) (H N m : Nat) (id term due lt : Int) (val : Nat → Int) (f : Nat → Value) : Prop where
  e7 : f 7 = .int .u8 2
  e8 : f 8 = .int .u16 id
  e12 : f 12 = .map none
  e5 : f 5 = .int .u64 term
  e6 : f 6 = .int .u16 0
  e16 : f 16 = .map (some (H + 1))
  e9 : f 9 = .int .u64 (wallOf due)
  e10 : f 10 = .int .i64 (extOf due)
  e11 : f 11 = .pointer none
  lease : LeaseIs f0 f lt N m val

/-- What lead makes of what stood ahead of it. -/
theorem led_of {w : World} {pcs : Nat → Value} {H m N : Nat} {mem val g : Nat → Int} {D : DataW Unit} {nb : Nat} {id term hb lt now camp lease : Int} {r : Option Nat} {wx w' : World}
    (hH : w.heap.size + 2 ≤ H) (hnb : H + 2 ≤ nb) (hlt : nb < wx.heap.size) (hM : Mid w pcs H m N N mem val g D wx)
    (hL : LeadPost wx nb (fN id (w.heap.size + 1) m hb lt term r camp lease (H + 1)) id term (now - camp) (now + hb) lt N m val (Lk mem id m) w') :
    ∃ f b0 B, Base w pcs m mem nb f b0 B (Lk mem id m) id term (now - camp) w' ∧ Led (fN id (w.heap.size + 1) m hb lt term r camp lease (H + 1)) H N m id term (now + hb) lt val f ∧ Cells w' H N (fun i => .int .i64 (g i)) ∧ w'.ownsMap Yba.prog 22 timeElem (H + 1) N D ∧ B ≤ w'.heap.size := by
  obtain ⟨hb, f, n1, e7, e8, e12, e5, e6, e16, e9, e10, e11, hlease, v, b0, hb0, rfl, hown⟩ := hL
  have hbel : Below (H + 2) wx w' := hb.toBelow hnb (by have := hM.size; omega)
  have hM' := hM.kept hH hbel
  refine ⟨f, b0, w'.heap.size, ⟨hM'.below, hM'.box, hM'.mems, n1, hown, by omega, by omega, ?_, n1.lt, Nat.le_refl _⟩, ⟨e7, e8, e12, e5, e6, e16, e9, e10, e11, hlease⟩, hM'.vals, hM'.map, Nat.le_refl _⟩
  intro g' hg
  rcases hown.2 with ⟨e, _⟩ | ⟨g2, cap2, cur2, e, hb2, hg2, _⟩
  · rw [e] at hg; simp [Value.ownBlock] at hg
  · rw [e] at hg
    simp [Value.ownBlock] at hg
    subst hg
    exact (Array.getElem?_eq_some_iff.1 hg2).1

/-- The cells of a time. -/
def tf (c : Int) : Nat → Value
  | 0 => .int .u64 (wallOf c)
  | 1 => .int .i64 (extOf c)
  | _ => .pointer none

theorem cells_below {w w' : World} {b n : Nat} {g : Nat → Value} (h : Cells w b n g) (hb : b < w.heap.size) (k : Below w.heap.size w w') : Cells w' b n g := h.of_block (k.block b hb)
end Go.Proofs.Ybulkpec
