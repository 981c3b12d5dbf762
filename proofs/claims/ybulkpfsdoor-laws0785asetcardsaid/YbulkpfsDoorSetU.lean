/- valueSpan at a set choice: contracts. -/
import Derived.Test.YbulkpfsDoorSpan
import Derived.Test.YbulkpfsDoorBounds
set_option linter.unusedVariables false
namespace Go.Proofs.YbulkpfsDoor
open Go.RowKit Go.Deep

structure SetSt (w : World) (M Pb C n P cc ac : Nat) (ca aa : Option Addr) (fr : Int) (free : Bool) : Prop where
  m3 : w.cell? ⟨M, 3, none⟩ = some (.slice (some ⟨Pb, 0, none⟩) 1 1)
  m27 : w.cell? ⟨M, 27, none⟩ = some (.slice none 0 0)
  m27f : w.frozen? ⟨M, 27, none⟩ = false
  p3 : w.cell? ⟨Pb, 3, none⟩ = some (.slice (some ⟨C, 0, none⟩) 1 1)
  p5 : w.cell? ⟨Pb, 5, none⟩ = some (.slice none 0 0)
  c2 : w.cell? ⟨C, 2, none⟩ = some (.slice ca n cc)
  c5 : w.cell? ⟨C, 5, none⟩ = some (.slice aa P ac)
  c7 : w.cell? ⟨C, 7, none⟩ = some (.int .i64 fr)
  c8 : w.cell? ⟨C, 8, none⟩ = some (.bool true)
  c12 : w.cell? ⟨C, 12, none⟩ = some (.bool free)
  c13 : w.cell? ⟨C, 13, none⟩ = some (.slice none 0 0)

/-- The span of a set, its four parts in the block Z of P words each. -/
def setV (Z n P cc : Nat) (ca : Option Addr) (fr : Int) : Value := .agg #[.bool true, .int .i32 0, .int .i32 0, .int .i32 0, .int .i64 0, .slice (some ⟨Z, 0, none⟩) P P, .slice (some ⟨Z, P, none⟩) P P, .slice none 0 0, .slice none 0 0, .slice (some ⟨Z, 2 * P, none⟩) P P, .bool false, .slice (some ⟨Z, 3 * P, none⟩) P P, .pointer none, .slice ca n cc, .int .i64 fr, .slice none 0 0]

/-- The sixteen cells of the span. -/
def setCs (Z n P cc : Nat) (ca : Option Addr) (fr : Int) : Array Value := #[.bool true, .int .i32 0, .int .i32 0, .int .i32 0, .int .i64 0, .slice (some ⟨Z, 0, none⟩) P P, .slice (some ⟨Z, P, none⟩) P P, .slice none 0 0, .slice none 0 0, .slice (some ⟨Z, 2 * P, none⟩) P P, .bool false, .slice (some ⟨Z, 3 * P, none⟩) P P, .pointer none, .slice ca n cc, .int .i64 fr, .slice none 0 0]

theorem load_whole {P : Program} (w : World) (g : Nat) (t ty : TypeId) (cs : Array Value) (d : TypeDesc) (hg : w.heap[g]? = some (.cells cs t (0, 0)))
    (hu : P.underlying ty = some d) (hd : (match d with | .struct _ | .array _ _ => true | _ => false) = true) (hi : (P.info? ty).map (·.size) = some cs.size) :
    (Instr.loadAt ty (.pointer (some ⟨g, 0, none⟩))).run P w = .ok (.agg cs) w := by
  simp only [Instr.loadAt, Instr.sureAddr, Sem.run_bind, Sem.run_pure, Result.andThen_ok, run_loadVar_row w g t ty cs (0, 0) d hg hu hd hi]

theorem setRow_same (w : World) (g : Nat) (cs : Array Value) (t : TypeId) (hg : w.heap[g]? = some (.cells cs t (0, 0))) : w.setRow g cs = w := by
  have hh : (w.setRow g cs).heap = w.heap := by
    simp only [World.setRow]
    apply Array.ext_getElem?
    intro i
    rw [Array.getElem?_modify]
    by_cases h : g = i
    · subst h; rw [if_pos rfl, hg]; rfl
    · rw [if_neg h]
  calc w.setRow g cs = { w with heap := (w.setRow g cs).heap } := rfl
    _ = { w with heap := w.heap } := by rw [hh]
    _ = w := rfl

theorem store_whole {P : Program} (w : World) (g : Nat) (t ty : TypeId) (cs : Array Value) (hg : w.heap[g]? = some (.cells cs t (0, 0)))
    (hi : (P.info? ty).map (·.size) = some cs.size) (h1 : cs.all (·.oneCell') = true) :
    (Instr.storeAt ty (.pointer (some ⟨g, 0, none⟩)) (.agg cs)).run P w = .ok () w := by
  simp only [Instr.storeAt, Instr.sureAddr, Sem.run_bind, Sem.run_pure, Result.andThen_ok, run_storeVar_row w g t ty cs cs hg hi rfl h1, setRow_same w g cs t hg]

theorem Ybad.size41 : (Ybad.prog.info? 41).map (·.size) = some 16 := by kernel_rfl

/-- What the row holds in the end. -/
def rowF (free : Bool) (n P : Nat) : Nat → Value := fun j => .int .u64 (if free = true then 0 else if P ≤ j ∧ j < 2 * P then low (wb n (j - P)) else 0)

/-- The world behind the span's store. -/
def setW (w : World) (cs : Array Value) (N : Nat) : World := ((w.alloc (.cells cs 41)).alloc (.cells (madeCells #[.int .u64 0] N) 83)).drew

theorem set_world (w : World) (cs : Array Value) (N : Nat) : (setW w cs N).rowIs (w.heap.size + 1) 83 N (fun _ => .int .u64 0) ∧ (setW w cs N).heap[w.heap.size]? = some (.cells cs 41 (0, 0)) ∧ Below w.heap.size w (setW w cs N) ∧ (setW w cs N).heap.size = w.heap.size + 2 := by
  have hb : Below w.heap.size w ((w.alloc (.cells cs 41)).alloc (.cells (madeCells #[.int .u64 0] N) 83)) := ((Below.refl _ _).alloc (Nat.le_refl _) _).alloc (by simp) _
  refine ⟨?_, ?_, hb.drew, ?_⟩
  · have := (World.rowIs_made (w.alloc (.cells cs 41)) (.int .u64 0) N 83).drew
    simpa [setW] using this
  · show ((w.alloc (.cells cs 41)).alloc (.cells (madeCells #[.int .u64 0] N) 83)).heap[w.heap.size]? = _
    rw [Below.heap_alloc _ _ _ (by simp)]
    exact Array.getElem?_push_size
  · show ((w.alloc (.cells cs 41)).alloc (.cells (madeCells #[.int .u64 0] N) 83)).heap.size = _
    simp
theorem setCs_one (Z n P cc : Nat) (ca : Option Addr) (fr : Int) : (setCs Z n P cc ca fr).all (·.oneCell') = true := by simp [setCs, Value.oneCell']

theorem row_facts (w : World) (g : Nat) (t : TypeId) (cs : Array Value) (hg : w.heap[g]? = some (.cells cs t (0, 0))) (i : Nat) (v : Value) (hv : cs[i]? = some v) : w.cell? ⟨g, i, none⟩ = some v ∧ w.frozen? ⟨g, i, none⟩ = false ∧ w.setCell ⟨g, i, none⟩ v = w := by
  have hc : w.cell? ⟨g, i, none⟩ = some v := by rw [cell_of_row w g i cs t (0, 0) hg]; exact hv
  exact ⟨hc, by simp [World.frozen?, hg], setCell_same hc⟩

/-- The span's cells, one by one. -/
structure SpanAt (w : World) (S Z n P Q2 Q3 cc : Nat) (ca : Option Addr) (fr : Int) : Prop where
  c0 : w.cell? ⟨S, 0, none⟩ = some (.bool true)
  f0 : w.frozen? ⟨S, 0, none⟩ = false
  s0 : w.setCell ⟨S, 0, none⟩ (.bool true) = w
  c1 : w.cell? ⟨S, 1, none⟩ = some (.int .i32 0)
  f1 : w.frozen? ⟨S, 1, none⟩ = false
  s1 : w.setCell ⟨S, 1, none⟩ (.int .i32 0) = w
  c2 : w.cell? ⟨S, 2, none⟩ = some (.int .i32 0)
  f2 : w.frozen? ⟨S, 2, none⟩ = false
  s2 : w.setCell ⟨S, 2, none⟩ (.int .i32 0) = w
  c3 : w.cell? ⟨S, 3, none⟩ = some (.int .i32 0)
  f3 : w.frozen? ⟨S, 3, none⟩ = false
  s3 : w.setCell ⟨S, 3, none⟩ (.int .i32 0) = w
  c4 : w.cell? ⟨S, 4, none⟩ = some (.int .i64 0)
  f4 : w.frozen? ⟨S, 4, none⟩ = false
  s4 : w.setCell ⟨S, 4, none⟩ (.int .i64 0) = w
  c5 : w.cell? ⟨S, 5, none⟩ = some (.slice (some ⟨Z, 0, none⟩) P P)
  f5 : w.frozen? ⟨S, 5, none⟩ = false
  s5 : w.setCell ⟨S, 5, none⟩ (.slice (some ⟨Z, 0, none⟩) P P) = w
  c6 : w.cell? ⟨S, 6, none⟩ = some (.slice (some ⟨Z, P, none⟩) P P)
  f6 : w.frozen? ⟨S, 6, none⟩ = false
  s6 : w.setCell ⟨S, 6, none⟩ (.slice (some ⟨Z, P, none⟩) P P) = w
  c7 : w.cell? ⟨S, 7, none⟩ = some (.slice none 0 0)
  f7 : w.frozen? ⟨S, 7, none⟩ = false
  s7 : w.setCell ⟨S, 7, none⟩ (.slice none 0 0) = w
  c8 : w.cell? ⟨S, 8, none⟩ = some (.slice none 0 0)
  f8 : w.frozen? ⟨S, 8, none⟩ = false
  s8 : w.setCell ⟨S, 8, none⟩ (.slice none 0 0) = w
  c9 : w.cell? ⟨S, 9, none⟩ = some (.slice (some ⟨Z, Q2, none⟩) P P)
  f9 : w.frozen? ⟨S, 9, none⟩ = false
  s9 : w.setCell ⟨S, 9, none⟩ (.slice (some ⟨Z, Q2, none⟩) P P) = w
  c10 : w.cell? ⟨S, 10, none⟩ = some (.bool false)
  f10 : w.frozen? ⟨S, 10, none⟩ = false
  s10 : w.setCell ⟨S, 10, none⟩ (.bool false) = w
  c11 : w.cell? ⟨S, 11, none⟩ = some (.slice (some ⟨Z, Q3, none⟩) P P)
  f11 : w.frozen? ⟨S, 11, none⟩ = false
  s11 : w.setCell ⟨S, 11, none⟩ (.slice (some ⟨Z, Q3, none⟩) P P) = w
  c12 : w.cell? ⟨S, 12, none⟩ = some (.pointer none)
  f12 : w.frozen? ⟨S, 12, none⟩ = false
  s12 : w.setCell ⟨S, 12, none⟩ (.pointer none) = w
  c13 : w.cell? ⟨S, 13, none⟩ = some (.slice ca n cc)
  f13 : w.frozen? ⟨S, 13, none⟩ = false
  s13 : w.setCell ⟨S, 13, none⟩ (.slice ca n cc) = w
  c14 : w.cell? ⟨S, 14, none⟩ = some (.int .i64 fr)
  f14 : w.frozen? ⟨S, 14, none⟩ = false
  s14 : w.setCell ⟨S, 14, none⟩ (.int .i64 fr) = w
  c15 : w.cell? ⟨S, 15, none⟩ = some (.slice none 0 0)
  f15 : w.frozen? ⟨S, 15, none⟩ = false
  s15 : w.setCell ⟨S, 15, none⟩ (.slice none 0 0) = w

theorem SpanAt.of {w : World} {S Z n P cc : Nat} {ca : Option Addr} {fr : Int} (h : w.heap[S]? = some (.cells (setCs Z n P cc ca fr) 41 (0, 0))) : SpanAt w S Z n P (2 * P) (3 * P) cc ca fr := by
  obtain ⟨c0, f0, s0⟩ := row_facts w S 41 _ h 0 _ rfl
  obtain ⟨c1, f1, s1⟩ := row_facts w S 41 _ h 1 _ rfl
  obtain ⟨c2, f2, s2⟩ := row_facts w S 41 _ h 2 _ rfl
  obtain ⟨c3, f3, s3⟩ := row_facts w S 41 _ h 3 _ rfl
  obtain ⟨c4, f4, s4⟩ := row_facts w S 41 _ h 4 _ rfl
  obtain ⟨c5, f5, s5⟩ := row_facts w S 41 _ h 5 _ rfl
  obtain ⟨c6, f6, s6⟩ := row_facts w S 41 _ h 6 _ rfl
  obtain ⟨c7, f7, s7⟩ := row_facts w S 41 _ h 7 _ rfl
  obtain ⟨c8, f8, s8⟩ := row_facts w S 41 _ h 8 _ rfl
  obtain ⟨c9, f9, s9⟩ := row_facts w S 41 _ h 9 _ rfl
  obtain ⟨c10, f10, s10⟩ := row_facts w S 41 _ h 10 _ rfl
  obtain ⟨c11, f11, s11⟩ := row_facts w S 41 _ h 11 _ rfl
  obtain ⟨c12, f12, s12⟩ := row_facts w S 41 _ h 12 _ rfl
  obtain ⟨c13, f13, s13⟩ := row_facts w S 41 _ h 13 _ rfl
  obtain ⟨c14, f14, s14⟩ := row_facts w S 41 _ h 14 _ rfl
  obtain ⟨c15, f15, s15⟩ := row_facts w S 41 _ h 15 _ rfl
  exact ⟨c0, f0, s0, c1, f1, s1, c2, f2, s2, c3, f3, s3, c4, f4, s4, c5, f5, s5, c6, f6, s6, c7, f7, s7, c8, f8, s8, c9, f9, s9, c10, f10, s10, c11, f11, s11, c12, f12, s12, c13, f13, s13, c14, f14, s14, c15, f15, s15⟩
theorem BSt.drew {w : World} {M Pb C S Z n P cc : Nat} {ca : Option Addr} (h : BSt w M Pb C S Z n P cc ca) : BSt w.drew M Pb C S Z n P cc ca :=
  ⟨h.m3, h.m27, h.m27f, h.p3, h.c2, h.c13, h.s5, h.s6, h.s6f, h.z.drew⟩
end Go.Proofs.YbulkpfsDoor
