/- renew. -/
import Derived.Test.YbulkpecMap
import Derived.Test.YbulkpecPlain
import Derived.Deep.RegionLaw
import Derived.Deep.DrawnRows
set_option linter.unusedVariables false
namespace Go.Proofs.Ybulkpec
attribute [local go_sem ↓] Go.wp_at_zero Go.wp_at_succ
open Go.RowKit Go.Maps

theorem setCell_same {w : World} {b off : Nat} {v : Value} (h : w.cell? ⟨b, off, none⟩ = some v) : w.setCell ⟨b, off, none⟩ v = w := by
  have hb : ∃ c t fr, w.heap[b]? = some (.cells c t fr) ∧ c[off]? = some v := by
    unfold World.cell? at h
    split at h
    · rename_i c t fr hb
      exact ⟨c, t, fr, hb, by simpa using h⟩
    · cases h
  obtain ⟨c, t, fr, hb, hc⟩ := hb
  have e : (w.heap.modify b fun
      | .cells c elem frozen => .cells (if (none : Option Nat).isSome then c else c.setIfInBounds off v) elem frozen
      | o => o) = w.heap := by
    apply Array.ext_getElem?
    intro i
    rw [Array.getElem?_modify]
    by_cases hi : b = i
    · subst hi
      rw [if_pos rfl, hb]
      simp only [Option.map_some, Option.isSome_none, Bool.false_eq_true, if_false]
      congr 2
      apply Array.ext_getElem?
      intro j
      rw [Array.getElem?_setIfInBounds]
      by_cases hj : off = j
      · subst hj
        obtain ⟨hl, he⟩ := Array.getElem?_eq_some_iff.1 hc
        simp [hl, he]
      · rw [if_neg hj]
    · rw [if_neg hi]
  show ({ w with heap := w.heap.modify b fun
      | .cells c elem frozen => .cells (if (none : Option Nat).isSome then c else c.setIfInBounds off v) elem frozen
      | o => o } : World) = w
  rw [e]

theorem hide {p : Prop} (h : p) : Hid p := h

/-- The step of a range over such a map. -/
theorem wpList_next_times {P : Program} (w : World) {ops : Array Oper} {rest : List Oper} {o : Oper} {a : Act} {Q : Exit → Act → World → Prop} (hP : P = Yba.prog) (hg : o.guard = none) (it : Operand) (hop : o.op = Op.next it false)
    (mb r n : Nat) (D : DataW Unit) (val : Nat → Int) (left : Lit → Bool) (cnt : Nat) (xs : List Int) (hit : a.eval it = .pointer (some ⟨r, 0, none⟩)) (h : w.ranges P 22 timeElem mb r n D left cnt) (HD : Filled D n val) (HG : Got n val left xs)
    (hDone : (∀ kl, left kl = false) → wpList P ops Q rest (a.put o.dst (.tuple #[.bool false])) w)
    (hMore : ∀ (i : Nat) (w' : World) (cnt' : Nat), i < n → left (key i) = true → w'.ranges P 22 timeElem mb r n D (fun z => left z && !z.sameKey (key i)) cnt' → cnt' < cnt → w.grownBy w' (some r) → w'.heap.size = w.heap.size →
      (Instr.entry (.pointer (some ⟨r, 0, none⟩))).run P w' = .ok (.tuple #[.int .u16 ((i + 1 : Nat) : Int), .agg #[.int .u64 (wallOf (val i)), .int .i64 (extOf (val i)), .pointer none]]) w' →
      wpList P ops Q rest (a.put o.dst (.tuple #[.bool true, .int .u16 ((i + 1 : Nat) : Int), .agg #[.int .u64 (wallOf (val i)), .int .i64 (extOf (val i)), .pointer none]])) w') :
    wpList P ops Q (o :: rest) a w := by
  subst hP
  refine wpList_next_ranges w hg it hop 22 law22 timeElem (Value.int .u16) T (fun key kl hkey => by obtain ⟨x, rfl, _⟩ := Maps.keyOf_int_inv Yba.underlying22 hkey; exact ⟨x, rfl⟩) (fun v y hv => by obtain ⟨c, rfl, _⟩ := timeElem_inv hv; exact ⟨c, rfl⟩)
    mb r n D left cnt hit h (fun _ hl => hDone hl) (fun x c kl y w' cnt' hkey hlk hv hat hrg hlt hgr hsz hen => ?_)
  obtain ⟨x', ex, rfl, hwx⟩ := Maps.keyOf_int_inv Yba.underlying22 hkey
  cases ex
  obtain ⟨i, hi, e⟩ := HG.only _ hlk
  obtain ⟨c', ec, rfl⟩ := timeElem_inv hv
  obtain rfl := T_inj ec
  have ex : x = ((i + 1 : Nat) : Int) := by unfold key at e; injection e
  subst ex
  have ev : c = val i := by
    have h1 := hat (.lit (.bool true))
    have h2 := HD.atk i hi (.lit (.bool true))
    rw [show (Lit.int .u16 ((i + 1 : Nat) : Int)) = key i from rfl] at h1
    rw [h1] at h2
    simpa using h2
  subst ev
  exact hMore i w' cnt' hi hlk hrg hlt hgr hsz hen

/-- renew on a node that leads others. -/
def RenewPost (w : World) (nb : Nat) (f : Nat → Value) (lt : Int) (n m : Nat) (val : Nat → Int) (w' : World) : Prop :=
  Beside nb w w' ∧ ∃ (f' : Nat → Value) (d : List Int), Nd w' nb f' ∧ (∀ k, k ≠ 18 → k ≠ 19 → k ≠ 20 → k ≠ 36 → f' k = f k) ∧ d.Perm ((List.range n).map val) ∧ d.Pairwise (fun a b : Int => b ≤ a) ∧
    f' 18 = .int .u64 (wallOf (d[m / 2 - 1]! + (lt - lt.tdiv 100))) ∧ f' 19 = .int .i64 (extOf (d[m / 2 - 1]! + (lt - lt.tdiv 100))) ∧ f' 20 = .pointer none

theorem grownBy_set (w : World) (nb k : Nat) (v : Value) : w.grownBy (w.setCell ⟨nb, k, none⟩ v) (some nb) :=
  ⟨rfl, rfl, rfl, by simp, fun i _ h => Below.heap_setCell _ _ _ _ (fun e => h (by rw [e]))⟩

theorem upd_upd (f : Nat → Value) (k : Nat) (v v' : Value) : upd (upd f k v) k v' = upd f k v' := by
  funext j
  by_cases e : j = k
  · subst e; rw [upd_same, upd_same]
  · rw [upd_other _ _ _ _ e, upd_other _ _ _ _ e, upd_other _ _ _ _ e]

theorem renew_round {w wr w1 w2 : World} {nb mb n cnt1 g cap i : Nat} {f : Nat → Value} {D : DataW Unit} {val : Nat → Int} {left' : Lit → Bool} {xs : List Int} {v : Value} {A B : Obj} {x y : Int} (hne : mb ≠ nb) (hlt : nb < w.heap.size) (hmlt : mb < w.heap.size)
    (HB : Beside nb w wr) (HNd : Nd wr nb (upd f 36 v)) (HR1 : w1.ranges Yba.prog 22 timeElem mb w.heap.size n D left' cnt1) (HG1 : wr.grownBy w1 (some w.heap.size)) (HS1 : w1.heap.size = wr.heap.size)
    (HO1 : w1.ownsRow (w.heap.size + 1) 32 3 v xs.length (rowCells xs)) (hvb : v.ownBlock ≠ some w.heap.size) (hvn : v.ownBlock ≠ some nb) (hsz : w.heap.size + 1 ≤ wr.heap.size) (hx : wallOf (val i) = x) (hy : extOf (val i) = y)
    (HO2 : w2.ownsRow (w.heap.size + 1) 32 3 (.slice (some ⟨g, 0, none⟩) (xs.length + 1) cap) (xs.length + 1) (rowCells xs ++ [.int .u64 x, .int .i64 y, .pointer none]))
    (HG2 : (((w1.alloc A).alloc B).drew).grownBy w2 v.ownBlock) (HGot : Got n val left' (xs ++ [val i])) (q36 : w2.cell? ⟨nb, 36, none⟩ = some v) :
    (w2.setCell ⟨nb, 36, none⟩ (.slice (some ⟨g, 0, none⟩) (xs.length + 1) cap)).ranges Yba.prog 22 timeElem mb w.heap.size n D left' cnt1 ∧ Hid (Got n val left' (xs ++ [val i])) ∧
      (w2.setCell ⟨nb, 36, none⟩ (.slice (some ⟨g, 0, none⟩) (xs.length + 1) cap)).cell? ⟨nb, 36, none⟩ = some (.slice (some ⟨g, 0, none⟩) (xs.length + 1) cap) ∧
      Hid ((w2.setCell ⟨nb, 36, none⟩ (.slice (some ⟨g, 0, none⟩) (xs.length + 1) cap)).ownsRow (w.heap.size + 1) 32 3 (.slice (some ⟨g, 0, none⟩) (xs.length + 1) cap) (xs ++ [val i]).length (rowCells (xs ++ [val i]))) ∧
      Hid (Beside nb w (w2.setCell ⟨nb, 36, none⟩ (.slice (some ⟨g, 0, none⟩) (xs.length + 1) cap))) ∧ Hid (Nd (w2.setCell ⟨nb, 36, none⟩ (.slice (some ⟨g, 0, none⟩) (xs.length + 1) cap)) nb (upd f 36 (.slice (some ⟨g, 0, none⟩) (xs.length + 1) cap))) ∧
      w.heap.size + 1 ≤ (w2.setCell ⟨nb, 36, none⟩ (.slice (some ⟨g, 0, none⟩) (xs.length + 1) cap)).heap.size := by
  have hvlt : ∀ j, v.ownBlock = some j → w.heap.size + 1 ≤ j := by
    intro j hj
    rcases HO1.2 with ⟨e, _⟩ | ⟨g', cap2, cur2, e, hb2, _⟩
    · rw [e] at hj; simp [Value.ownBlock] at hj
    · rw [e] at hj; simp [Value.ownBlock] at hj; omega
  obtain ⟨g1, c1, e1, hg1, hg2⟩ := HO2.form (by omega)
  have eg : g = g1 := by
    injection e1 with e _ _
    injection e with e
    injection e
  subst eg
  have hrA : (((w1.alloc A).alloc B).drew).ranges Yba.prog 22 timeElem mb w.heap.size n D left' cnt1 := (HR1.alloc A).alloc B
  have hrB := hrA.kept HG2 (fun e => by have := hvlt mb e.symm; omega) (fun e => hvb e.symm)
  have hrC := hrB.kept (grownBy_set w2 nb 36 (.slice (some ⟨g, 0, none⟩) (xs.length + 1) cap)) (fun e => hne (by injection e)) (fun e => by injection e; omega)
  have hb1 : Beside nb w w1 := HB.grown HG1 (fun j e => by injection e; omega)
  have hb2 : Beside nb w w2 := (((hb1.alloc A).alloc B).drew).grown HG2 (fun j e => by have := hvlt j e; omega)
  have hn1 : Nd w1 nb (upd f 36 v) := HNd.of_block (HG1.block nb (by omega) (fun e => by injection e; omega))
  have hn2 : Nd w2 nb (upd f 36 v) := (((hn1.alloc A).alloc B).drew).of_block (HG2.block nb (by simp; omega) (fun e => hvn e.symm))
  have hn3 := hn2.setCell 36 (.slice (some ⟨g, 0, none⟩) (xs.length + 1) cap)
  rw [upd_upd] at hn3
  refine ⟨hrC, HGot, World.cell?_setCell_same _ _ _ q36, ?_, hb2.setCell _ _, hn3, ?_⟩
  · show World.ownsRow _ _ _ _ _ _ _
    rw [← rowCells_append, List.length_append, hx, hy]
    exact HO2.kept (grownBy_set w2 nb 36 _) (.inr (fun e => by simp [Value.ownBlock] at e; omega))
  · have := HG2.size
    simp at this ⊢
    omega

/-- What the sort leaves. -/
def SortPost (w : World) (nb g cap n q : Nat) (f : Nat → Value) (val : Nat → Int) (d : List Int) (z : Int) (w3 : World) : Prop :=
  z = d[q]! ∧ d.Perm ((List.range n).map val) ∧ d.Pairwise (fun a b : Int => b ≤ a) ∧ Beside nb w w3 ∧ Nd w3 nb (upd f 36 (.slice (some ⟨g, 0, none⟩) n cap)) ∧ -1099511627776 ≤ z ∧ z ≤ 1099511627776

theorem sort_step {w wr : World} {nb g cap n q : Nat} {f : Nat → Value} {val : Nat → Int} {xs : List Int} (hlt : nb < w.heap.size) (HB : Beside nb w wr) (HN : Nd wr nb (upd f 36 (.slice (some ⟨g, 0, none⟩) n cap)))
    (HO : wr.ownsRow (w.heap.size + 1) 32 3 (.slice (some ⟨g, 0, none⟩) n cap) n (rowCells xs)) (hxn : xs.length = n) (hp : xs.Perm ((List.range n).map val)) (hv : ∀ i, i < n → -1099511627776 ≤ val i ∧ val i ≤ 1099511627776) (hq : q < n) (hn : n ≤ 1024) :
    Calls Yba.prog 16 #[.iface 61 (.pointer (some ⟨nb, 36, none⟩))] wr fun e w3 => e = .returned (.tuple #[]) ∧ ∃ d z, SortPost w nb g cap n q f val d z w3 ∧ w3.cell? ⟨nb, 36, none⟩ = some (.slice (some ⟨g, 0, none⟩) n cap) ∧
      w3.cell? ⟨g, q * 3, none⟩ = some (.int .u64 (wallOf z)) ∧ w3.cell? ⟨g, q * 3 + 1, none⟩ = some (.int .i64 (extOf z)) ∧ w3.cell? ⟨g, q * 3 + 2, none⟩ = some (.pointer none) := by
  subst hxn
  obtain ⟨g1, c1, e1, hg1, hg2⟩ := HO.form (by omega)
  have eg : g = g1 := by
    injection e1 with e _ _
    injection e with e
    injection e
  subst eg
  have hrow := Row.of_owns HO
  have c36 := (HN 36 (by decide)).1
  rw [upd_same] at c36
  have hrep := rep_times wr nb g xs.length cap (by omega) HN.lt hg2 (by omega) c36
  refine (sort_any hrep (by omega) xs.toArray (by simp) wr ⟨Beside.refl g wr, hrow, by simp⟩).mono ?_
  rintro e w3 ⟨rfl, d', hpm, hs, hb, hr, hsz⟩
  have hn3 : Nd w3 nb (upd f 36 (.slice (some ⟨g, 0, none⟩) xs.length cap)) := HN.of_block (hb.block nb HN.lt (by omega))
  obtain ⟨a0, a1, a2, _, _, _⟩ := hr q (by omega)
  have hget : d'[q]! = d'.toList[q]! := by
    rw [getElem!_pos d' q (by omega), getElem!_pos d'.toList q (by simpa using (by omega))]
    simp
  rw [hget] at a0 a1
  have c36' := (hn3 36 (by decide)).1
  rw [upd_same] at c36'
  have hpp : d'.toList.Perm ((List.range xs.length).map val) := by
    have h1 := hpm.2.2
    have e1 : d'.extract 0 xs.length = d' := by rw [← hsz]; simp
    have e2 : xs.toArray.extract 0 xs.length = xs.toArray := by simp
    rw [e1, e2] at h1
    exact h1.trans hp
  have hbd : -1099511627776 ≤ d'.toList[q]! ∧ d'.toList[q]! ≤ 1099511627776 := by
    have hm : d'.toList[q]! ∈ (List.range xs.length).map val := by
      refine hpp.mem_iff.1 ?_
      rw [getElem!_pos d'.toList q (by simpa using (by omega))]
      exact List.getElem_mem _
    obtain ⟨i, hi, e⟩ := List.mem_map.1 hm
    rw [← e]
    exact hv i (List.mem_range.1 hi)
  exact ⟨rfl, d'.toList, d'.toList[q]!, ⟨rfl, hpp, falling_of_sorted d' xs.length hsz hs, HB.other hb (by omega), hn3, hbd.1, hbd.2⟩, c36', a0, a1, a2⟩

set_option maxHeartbeats 2000000 in
set_option maxRecDepth 100000 in
theorem renew_any (nb mb : Nat) (f : Nat → Value) (lt : Int) (n m : Nat) (val : Nat → Int) (D : DataW Unit) (ma : Option Addr) (mc : Nat) (w : World)
    (hn : Nd w nb f) (h1 : f 1 = .slice ma m mc) (h3 : f 3 = .int .i64 lt) (h16 : f 16 = .map (some mb)) (h36 : f 36 = .slice none 0 0) (hmap : w.ownsMap Yba.prog 22 timeElem mb n D) (hD : Filled D n val)
    (hm : m / 2 ≤ n) (hm0 : 0 < m / 2) (hm1 : m ≤ 1024) (hn1 : n ≤ 1024) (hv : ∀ i, i < n → -1099511627776 ≤ val i ∧ val i ≤ 1099511627776) (hl0' : -1099511627776 ≤ lt) (hl1 : lt ≤ 1099511627776) (hne : mb ≠ nb) :
    Calls Yba.prog 9 #[.pointer (some ⟨nb, 0, none⟩)] w fun e w' => e = .returned (.tuple #[]) ∧ RenewPost w nb f lt n m val w' := by
  obtain ⟨i0, hi, hz0, hz1, hz2⟩ := info_parts Yba.info32
  have hlt := hn.lt
  have c1 := (hn 1 (by decide)).1
  have c16 := (hn 16 (by decide)).1
  have c36 := (hn 36 (by decide)).1
  have g36 := (hn 36 (by decide)).2
  rw [h1] at c1; rw [h16] at c16; rw [h36] at c36
  have HN : Hid (Nd w nb f) := hn
  have HM : Hid (w.ownsMap Yba.prog 22 timeElem mb n D) := hmap
  have HD : Hid (Filled D n val) := hD
  have HV : Hid (∀ i, i < n → -1099511627776 ≤ val i ∧ val i ≤ 1099511627776) := hv
  clear hn hmap hD hv
  obtain ⟨q, hmq⟩ : ∃ q, m / 2 = q + 1 := ⟨m / 2 - 1, by omega⟩
  have hmz : (m : Int) / 2 = (q : Int) + 1 := by omega
  have hq : ((q : Int) + 1 == 0) = false := by rw [beq_eq_false_iff_ne]; omega
  have hqn : q < n := by omega
  have hqb : q ≤ 1024 := by omega
  have HMQ : Hid (m / 2 = q + 1) := hmq
  clear hm hm0 hmq
  have hset := setCell_same c36
  go_enter Yba.func9, Yba.ntmps9
  go_wp2_with (at_range; refine wpList_range_own _ rfl _ 28 rfl 22 32 law22 Yba.underlying28 timeElem mb n D rfl HM.out ?_; intro w0 hrg0 hg0 hs0)
  go_frame
  clear hset
  go_loopw [27] (fun _ wr => ∃ left cnt xs v, wr.ranges Yba.prog 22 timeElem mb w.heap.size n D left cnt ∧ Hid (Got n val left xs) ∧ wr.cell? ⟨nb, 36, none⟩ = some v ∧ Hid (wr.ownsRow (w.heap.size + 1) 32 3 v xs.length (rowCells xs)) ∧ Hid (Beside nb w wr) ∧ Hid (Nd wr nb (upd f 36 v)) ∧ w.heap.size + 1 ≤ wr.heap.size)
    (fun _ wr => wr.rangeLeft mb w.heap.size)
  case atStart =>
    have hb0 : w0.heap[nb]? = w.heap[nb]? := hg0.block nb hlt (by simp)
    have hn0 : Nd w0 nb (upd f 36 (.slice none 0 0)) := by
      rw [show upd f 36 (.slice none 0 0) = f from by funext j; by_cases e : j = 36; (· subst e; rw [upd_same, h36]); (· rw [upd_other _ _ _ _ e])]
      exact HN.out.of_block hb0
    exact ⟨_, _, [], .slice none 0 0, hrg0, Got.start HD.out, (World.cell?_of_block (w := w) (a := ⟨nb, 36, none⟩) hb0).trans c36, ⟨rfl, .inl ⟨rfl, rfl⟩⟩, (Beside.refl nb w).grown hg0 (fun j e => by cases e), hn0, by omega⟩
  case round =>
    obtain ⟨left, cnt, xs, v, hrg, HG, d36, HO, HB, HNd, hsz⟩ := hrel
    have e36 : wr.frozen? ⟨nb, 36, none⟩ = false := (HNd.out 36 (by decide)).2
    clear c1 c16 c36 g36 hrg0 hg0 hs0
    go_wp2_with (at_next; refine wpList_next_times _ rfl rfl _ rfl mb w.heap.size n D val left cnt xs rfl hrg HD.out HG.out ?_ ?_)
    · intro hl0
      have hperm := Got.done HG.out hl0
      have hlen : xs.length = n := by simpa using hperm.length_eq
      have HO' := HO.out
      rw [hlen] at HO'
      obtain ⟨g, cap, rfl, hgb, hgl⟩ := HO'.form (by omega)
      have hso := hide (sort_step (q := q) (HN.out).lt HB.out HNd.out HO' hlen hperm HV.out hqn hn1)
      have hqi : (q : Int) < (n : Int) := by omega
      have hlease : Hid (∀ w3 d z, SortPost w nb g cap n q f val d z w3 → Calls Yba.prog 17 #[.pointer (some ⟨nb, 0, none⟩), T z] w3 fun e w' => e = .returned (T (z + (lt - lt.tdiv 100))) ∧ Below w3.heap.size w3 w') :=
        fun w3 d z hsp => leaseFrom_any nb _ lt z w3 hsp.2.2.2.2.1 (by rw [upd_other _ _ _ _ (by decide)]; exact h3) hl0' hl1 hsp.2.2.2.2.2.1 hsp.2.2.2.2.2.2
      unfold T at hlease
      clear hperm HO' hl0 hrg HO HG HV HM HD hlen
      go_wp2_with (first | (go_at_call 16; refine (hso.out).mono ?_; rintro e w3 ⟨rfl, d, z, hsp, t36, a0, a1, a2⟩; have HSP := hide hsp; clear hsp) | (go_at_call 17; refine (hlease.out _ _ _ HSP.out).mono ?_; rintro e w4 ⟨rfl, hb4⟩; have n4 := (HSP.out.2.2.2.2.1).below hb4; have b18 := (n4 18 (by decide)).1; have b19 := (n4 19 (by decide)).1; have b20 := (n4 20 (by decide)).1; have z18 := (n4 18 (by decide)).2; have z19 := (n4 19 (by decide)).2; have z20 := (n4 20 (by decide)).2; have HN4 := hide n4; have HB4 := hide hb4; clear n4 hb4))
      go_end0
      obtain ⟨p0, p1, p2, p3, p4, p5, p6⟩ := HSP.out
      subst p0
      refine ⟨rfl, (((p3.below HB4.out).setCell _ _).setCell _ _).setCell _ _, _, d, ((HN4.out.setCell 18 _).setCell 19 _).setCell 20 _, ?_, p1, p2, ?_, ?_, ?_⟩
      · intro k k1 k2 k3 k4
        rw [upd_other _ _ _ _ k3, upd_other _ _ _ _ k2, upd_other _ _ _ _ k1, upd_other _ _ _ _ k4]
      · rw [upd_other _ _ _ _ (by decide), upd_other _ _ _ _ (by decide), upd_same, HMQ.out]; rfl
      · rw [upd_other _ _ _ _ (by decide), upd_same, HMQ.out]; rfl
      · rw [upd_same]
    · intro i w1 cnt1 hin hlk hrg1 hcnt hg1 hs1 hen
      have k36 : w1.cell? ⟨nb, 36, none⟩ = some v := by
        rw [hg1.cell_far _ (by show nb < wr.heap.size; omega) (by simp; omega)]; exact d36
      have l36 : w1.frozen? ⟨nb, 36, none⟩ = false := by
        rw [hg1.frozen_far _ (by show nb < wr.heap.size; omega) (by simp; omega)]; exact e36
      have hlen := Got.lt HG.out i hlk
      have hvb : v.ownBlock ≠ some w.heap.size := by
        rcases HO.out.2 with ⟨e, _⟩ | ⟨g', cap2, cur2, e, hb2, _⟩
        · rw [e]; simp [Value.ownBlock]
        · rw [e]; simp [Value.ownBlock]; omega
      have hvn : v.ownBlock ≠ some nb := by
        rcases HO.out.2 with ⟨e, _⟩ | ⟨g', cap2, cur2, e, hb2, _⟩
        · rw [e]; simp [Value.ownBlock]
        · rw [e]; simp [Value.ownBlock]; omega
      have HO1 : Hid (w1.ownsRow (w.heap.size + 1) 32 3 v xs.length (rowCells xs)) := HO.out.kept hg1 (Or.inr hvb)
      have hsz1 : w.heap.size + 1 ≤ w1.heap.size := by omega
      have HRG : Hid (wr.ranges Yba.prog 22 timeElem mb w.heap.size n D left cnt) := hrg
      have HR1 : Hid (w1.ranges Yba.prog 22 timeElem mb w.heap.size n D (fun z => left z && !z.sameKey (key i)) cnt1) := hrg1
      have HG1 := hide hg1
      have HS1 : Hid (w1.heap.size = wr.heap.size) := hs1
      have nlt0 : nb < w1.heap.size := by omega
      have nlt : ¬ nb = w1.heap.size := by omega
      have nlt2 : ¬ nb = w1.heap.size + 1 := by omega
      clear hrg1 hg1 hs1 hrg d36 e36
      generalize hx : wallOf (val i) = x at *
      generalize hy : extOf (val i) = y at *
      go_wp2_with fail
      go_region_law ((refine step_append_lies _ (by rfl) _ _ _ (by rfl) (w.heap.size + 1) 32 i0 _ 3 24 Yba.underlying47 hi hz0 hz1 hz2 rfl (by omega) v xs.length (rowCells xs) (by rfl) (((HO1.out.alloc _).alloc _).drew) ⟨w1.heap.size + 1, 0, none⟩ 1 1 [.int .u64 x, .int .i64 y, .pointer none] (by rfl) (by rfl) (World.news_of_block (cs := #[.int .u64 x, .int .i64 y, .pointer none]) (t := 32) (fr := (0, 0)) (heap_alloc2_new w1 _ _)) (by simp [Value.oneCell']) (by omega) (by unfold maxLen; omega) (by omega) (by simp; omega) (w1.heap.size + 2) (by simp) ?_; intro g cap w2 hown2 hgrow hat hlt2; have q36 : w2.cell? ⟨nb, 36, none⟩ = some v := (hgrow.cell_far _ (by simp; omega) (Ne.symm hvn)).trans (keepCell ((((Below.refl _ w1).alloc (Nat.le_refl _) _).alloc (by simp) _).drew) k36); have r36 : w2.frozen? ⟨nb, 36, none⟩ = false := (hgrow.frozen_far _ (by simp; omega) (Ne.symm hvn)).trans ((((((Below.refl w1.heap.size w1).alloc (Nat.le_refl _) _).alloc (by simp) _).drew).frozen nlt0).trans l36); have HO2 := hide hown2; have HG2 := hide hgrow; clear hown2 hgrow))
      all_goals
        have RR := renew_round hne (Nd.lt HN.out) (HM.out.lt) HB.out HNd.out HR1.out HG1.out HS1.out HO1.out hvb hvn hsz hx hy HO2.out HG2.out (Got.step HG.out i hlk) q36
        have HRR := hide RR
        clear RR
        go_wp2_with fail
        go_roundw
        case rel => exact ⟨_, cnt1, xs ++ [val i], _, HRR.out⟩
        case measure => rw [HRR.out.1.left_eq, HRG.out.left_eq]; exact hcnt
end Go.Proofs.Ybulkpec
