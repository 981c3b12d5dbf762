/- The stages of a round: the state's facts carried along. -/
import Derived.Test.YbulkpggCheck
import Derived.Test.YbulkpggIns
import Derived.Lib.JoinLaws
set_option linter.unusedVariables false
namespace Go.Proofs.Ybulkpgg
open Go.RowKit Go.Deep

theorem Yba.info49 : (Yba.prog.info? 49).map (fun i => (i.zero, i.size, i.bytes)) = some (some (.pointer none), 1, 8) := by kernel_rfl
theorem Yba.info3 : (Yba.prog.info? 3).map (fun i => (i.zero, i.size, i.bytes)) = some (some (.int .i64 0), 1, 8) := by kernel_rfl

structure LState (w wr : World) (B n k : Nat) (A : Nat → Nat) (S : Nat → Int) (l : List Nat) (fw fm : Nat → Value) : Prop where
  len : l.length = k
  lt : ∀ (j i : Nat), l[j]? = some i → i < k
  que : Que wr B A S l
  blk : ∀ i, i < k → B + 2 < A i ∧ A i < wr.heap.size
  ws : wr.rowIs (B + 1) 49 n fw
  fws : ∀ i, i < k → fw i = ptr A (some i)
  md : wr.rowIs (B + 2) 3 n fm
  fmd : ∀ (j i : Nat), l[j]? = some i → fm j = .int .i64 i
  bel : Below B w wr
  sz : B + 2 < wr.heap.size

theorem lstate_start (w : World) (n : Nat) : LState w (((w.alloc (Obj.cells #[Value.pointer none, Value.pointer none, Value.int IntKind.i64 0] 51)).alloc (Obj.cells (madeCells #[Value.pointer none] n) 49)).alloc (Obj.cells (madeCells #[Value.int IntKind.i64 0] n) 3))
    w.heap.size n 0 (fun _ => 0) (fun _ => 0) [] (fun _ => .pointer none) (fun _ => .int .i64 0) := by
  refine ⟨rfl, ?_, ⟨?_, ?_, ?_, ?_⟩, ?_, ?_, ?_, ?_, ?_, ?_, ?_⟩
  · intro j i h; simp at h
  · refine World.rowIs.alloc (World.rowIs.alloc ((World.rowIs_alloc w #[Value.pointer none, Value.pointer none, Value.int IntKind.i64 0] 51 _ ?_)) _) _
    intro i hi
    match i, hi with
    | 0, _ => rfl
    | 1, _ => rfl
    | 2, _ => rfl
  · intro j i h; simp at h
  · intro j i h; simp at h
  · intro j _ i _ h; simp at h
  · intro i h; omega
  · have := World.rowIs_made (w.alloc (Obj.cells #[Value.pointer none, Value.pointer none, Value.int IntKind.i64 0] 51)) (.pointer none) n 49
    simpa using this.alloc (Obj.cells (madeCells #[Value.int IntKind.i64 0] n) 3)
  · intro i h; omega
  · have := World.rowIs_made ((w.alloc (Obj.cells #[Value.pointer none, Value.pointer none, Value.int IntKind.i64 0] 51)).alloc (Obj.cells (madeCells #[Value.pointer none] n) 49)) (.int .i64 0) n 3
    simpa using this
  · intro j i h; simp at h
  · exact (((Below.refl _ _).alloc (Nat.le_refl _) _).alloc (by simp) _).alloc (by simp; omega) _
  · simp

/-- The queue in a world that has the same blocks, under a naming that agrees. -/
theorem Que.carry {w w' : World} {Q : Nat} {A A' : Nat → Nat} {S S' : Nat → Int} {l : List Nat} (hQ : Que w Q A S l) (hA : ∀ i, i ∈ l → A' i = A i) (hS : ∀ i, i ∈ l → S' i = S i)
    (h0 : w'.heap[Q]? = w.heap[Q]?) (h1 : ∀ i, i ∈ l → w'.heap[A i]? = w.heap[A i]?) : Que w' Q A' S' l := by
  have memb : ∀ (j i : Nat), l[j]? = some i → i ∈ l := fun j i h => List.mem_of_getElem? h
  have hp : ∀ j : Nat, ptr A' l[j]? = ptr A l[j]? := by
    intro j
    cases h : l[j]? with
    | none => rfl
    | some i => rw [ptr_some, ptr_some, hA i (memb j i h)]
  have hh : hsOf S' l[0]? = hsOf S l[0]? := by
    cases h : l[0]? with
    | none => rfl
    | some i => simp only [hsOf]; rw [hS i (memb 0 i h)]
  have hpv : ∀ j, ptr A' (prv l j) = ptr A (prv l j) := by
    intro j; unfold prv; split
    · rfl
    · exact hp _
  refine ⟨?_, ?_, ?_, ?_⟩
  · rw [hp, hp, hh]; exact hQ.q.of_block h0
  · intro j i h
    rw [hA i (memb j i h), hS i (memb j i h), hpv, hp]
    exact (hQ.node j i h).of_block (h1 i (memb j i h))
  · intro j i h; rw [hA i (memb j i h)]; exact hQ.ne j i h
  · intro j j' i i' h h' e
    rw [hA i (memb j i h), hA i' (memb j' i' h')] at e
    exact hQ.inj j j' i i' h h' e

/-- Behind the new waiter and the append of its pointer. -/
structure LMid (w w3 : World) (B n k W : Nat) (A : Nat → Nat) (S : Nat → Int) (l : List Nat) (fw fm : Nat → Value) : Prop where
  len : l.length = k
  lt : ∀ (j i : Nat), l[j]? = some i → i < k
  que : Que w3 B A S l
  blk : ∀ i, i < k → B + 2 < A i ∧ A i < W
  new : A k = W
  row : ∃ v2 v3, w3.rowIs W 56 4 (nF (S k) v2 v3)
  ws : w3.rowIs (B + 1) 49 n fw
  fws : ∀ i, i < k + 1 → fw i = ptr A (some i)
  md : w3.rowIs (B + 2) 3 n fm
  fmd : ∀ (j i : Nat), l[j]? = some i → fm j = .int .i64 i
  bel : Below B w w3
  sz : B + 2 < W ∧ W < w3.heap.size

theorem LState.stage {w wr : World} {B n k : Nat} {A : Nat → Nat} {S : Nat → Int} {l : List Nat} {fw fm : Nat → Value} (h : LState w wr B n k A S l fw fm) (s : Int) :
    LMid w (((wr.setCell ⟨B + 1, k, none⟩ (.pointer (some ⟨wr.heap.size, 0, none⟩))).alloc (.cells #[.chan none, .int .i64 s, .pointer none, .pointer none] 56)).alloc (.cells #[.pointer (some ⟨wr.heap.size, 0, none⟩)] 49))
      B n k wr.heap.size (fun i => if i = k then wr.heap.size else A i) (fun i => if i = k then s else S i) l (fun j => if j = k then .pointer (some ⟨wr.heap.size, 0, none⟩) else fw j) fm := by
  have memb : ∀ i, i ∈ l → i < k := fun i hi => by
    obtain ⟨j, hj⟩ := List.getElem?_of_mem hi
    exact h.lt j i hj
  have hsz := h.sz
  have keep : ∀ b, b ≠ B + 1 → b < wr.heap.size → (((wr.setCell ⟨B + 1, k, none⟩ (.pointer (some ⟨wr.heap.size, 0, none⟩))).alloc (.cells #[.chan none, .int .i64 s, .pointer none, .pointer none] 56)).alloc (.cells #[.pointer (some ⟨wr.heap.size, 0, none⟩)] 49)).heap[b]? = wr.heap[b]? := by
    intro b hb hlt
    rw [Below.heap_alloc _ _ _ (by simp; omega), Below.heap_alloc _ _ _ (by simpa using hlt), Below.heap_setCell _ _ _ _ hb]
  refine ⟨h.len, h.lt, ?_, ?_, ?_, ?_, ?_, ?_, ?_, h.fmd, ?_, ?_⟩
  · refine h.que.carry (fun i hi => if_neg (by have := memb i hi; omega)) (fun i hi => if_neg (by have := memb i hi; omega)) (keep B (by omega) (by omega)) (fun i hi => ?_)
    have := h.blk i (memb i hi)
    exact keep _ (by omega) (by omega)
  · intro i hi; rw [if_neg (by omega)]; exact h.blk i hi
  · exact if_pos rfl
  · refine ⟨.pointer none, .pointer none, ?_⟩
    have := World.rowIs_alloc (wr.setCell ⟨B + 1, k, none⟩ (.pointer (some ⟨wr.heap.size, 0, none⟩))) #[.chan none, .int .i64 s, .pointer none, .pointer none] 56 (nF s (.pointer none) (.pointer none)) (fun i hi => by
      match i, hi with
      | 0, _ => rfl
      | 1, _ => rfl
      | 2, _ => rfl
      | 3, _ => rfl)
    rw [if_pos rfl]
    simpa using this.alloc (.cells #[.pointer (some ⟨wr.heap.size, 0, none⟩)] 49)
  · exact ((h.ws.set k _).alloc _).alloc _
  · intro i hi
    by_cases e : i = k
    · rw [if_pos e, ptr_some, if_pos e]
    · rw [if_neg e, ptr_some, if_neg e, ← ptr_some]; exact h.fws i (by omega)
  · exact ((h.md.setOther (by simp) _).alloc _).alloc _
  · exact ((h.bel.setCell (by show B ≤ B + 1; omega) _).alloc (by simp; omega) _).alloc (by simp; omega) _
  · exact ⟨h.sz, by simp; omega⟩

theorem LMid.link {w w3 : World} {B n k W : Nat} {A : Nat → Nat} {S : Nat → Int} {l : List Nat} {fw fm : Nat → Value} (h : LMid w w3 B n k W A S l fw fm) (p : Nat) (hp : p ≤ k) :
    Calls Yba.prog 13 #[.pointer (some ⟨B, 0, none⟩), ptr A (prv l p), .pointer (some ⟨W, 0, none⟩)] w3 fun e w4 => e = .returned (.tuple #[]) ∧ Que w4 B A S (ins l p k) ∧ w4.rowIs (B + 1) 49 n fw ∧ w4.rowIs (B + 2) 3 n fm ∧ Below B w w4 ∧ w4.heap.size = w3.heap.size := by
  have memb : ∀ i, i ∈ l → i < k := fun i hi => by
    obtain ⟨j, hj⟩ := List.getElem?_of_mem hi
    exact h.lt j i hj
  obtain ⟨v2, v3, hrow⟩ := h.row
  obtain ⟨s1, s2⟩ := h.sz
  have hxQ : ¬ B = A k := by rw [h.new]; omega
  have hxl : ∀ i ∈ l, ¬ A i = A k := fun i hi => by have := h.blk i (memb i hi); rw [h.new]; omega
  have hL := link_any B A S l p k v2 v3 w3 h.que (by rw [h.len]; exact hp) (by rw [h.new]; exact hrow) hxQ hxl
  rw [h.new] at hL
  refine hL.mono ?_
  rintro e w4 ⟨rfl, hLk, hO⟩
  have nm : ∀ b, b ≤ B + 2 → b ≠ B → ¬ Mine B A k l b := by
    intro b hb hb0 hm
    rcases hm with rfl | rfl | ⟨i, hi, rfl⟩
    · exact hb0 rfl
    · have := h.new; omega
    · have := h.blk i (memb i hi); omega
  exact ⟨rfl, hLk.que h.que (by rw [h.len]; exact hp) hxQ hxl, hO.row (nm _ (by omega) (by omega)) h.ws, hO.row (nm _ (by omega) (by omega)) h.md,
    h.bel.trans (hO.below fun b hb => nm b (by omega) (by omega)), hO.size⟩

theorem Only.setCells {bs : Nat → Prop} {a : World} {b : Nat} (hb : bs b) : ∀ (vs : List Value) (o : Nat) (w : World), Only bs a w → Only bs a (w.setCells b o vs)
  | [], _, _, h => h
  | v :: r, o, w, h => Only.setCells hb r (o + 1) _ (h.setCell (by exact hb) v)
theorem Only.drew {bs : Nat → Prop} {a w : World} (h : Only bs a w) : Only bs a w.drew := ⟨h.os, h.tape, h.output, h.size, h.block⟩

theorem rowIs_shape {w : World} {b : Nat} {t : TypeId} {n : Nat} {f : Nat → Value} (h : w.rowIs b t n f) : w.shape? b = some (t, n) := by
  obtain ⟨c, hb, hn, _⟩ := h
  simp [World.shape?, hb, hn]

theorem insert_any (Rm k n p x vb vc : Nat) (fm : Nat → Value) (l : List Nat) (w : World) (hr : w.rowIs Rm 3 n fm) (hl : l.length = k) (hk : k + 1 ≤ n) (hn : n ≤ 1024)
    (hf : ∀ (j i : Nat), l[j]? = some i → fm j = .int .i64 i) (hp : p ≤ k) (hv : w.rowIs vb 3 1 (fun _ => .int .i64 x)) (hne : vb ≠ Rm) :
    Calls Yba.prog 14 #[.slice (some ⟨Rm, 0, none⟩) k n, .int .i64 p, .slice (some ⟨vb, 0, none⟩) 1 vc] w fun e w' => e = .returned (.slice (some ⟨Rm, 0, none⟩) (k + 1) n) ∧
      (∃ fm', w'.rowIs Rm 3 n fm' ∧ ∀ (j i : Nat), (ins l p x)[j]? = some i → fm' j = .int .i64 i) ∧ Only (fun b => b = Rm) w w' := by
  have hv0 := hv.cell (i := 0) (by omega)
  by_cases hpk : p = k
  · subst hpk
    refine (insert_end Rm p n vb vc (.int .i64 x) w hk hn (by rw [hr.cell (by omega)]; rfl) (hr.frozen _) hv0 rfl).mono ?_
    rintro e w' ⟨rfl, rfl⟩
    refine ⟨rfl, ⟨_, rowIs_setCells _ _ _ _ hr, fun j i h => ?_⟩, Only.setCells (bs := fun b => b = Rm) rfl _ _ _ (Only.refl _ _)⟩
    have hjl : j < p + 1 := by
      have := (List.getElem?_eq_some_iff.1 h).1
      rw [ins_length l p x (by omega)] at this; omega
    by_cases e : j = p
    · subst e
      rw [ins_eq l j x (by omega)] at h
      obtain rfl : x = i := by simpa using h
      simp
    · rw [ins_lt l p x j (by omega) (by omega)] at h
      show (if _ then _ else _) = _
      rw [if_neg (by omega)]
      exact hf j i h
  · have hlm : (l.map fun i : Nat => Value.int .i64 (i : Int)).length = k := by simp [hl]
    refine (insert_shift Rm k n p vb vc (l.map fun i : Nat => Value.int .i64 (i : Int)) (.int .i64 x) w (by omega) hk hn hne hlm ?_ ?_ ?_ hv0 ?_ rfl _ _ _ _ (rowIs_shape hv) (rowIs_shape hr) (by omega) (hv.frozen _) (hv.frozen _)).mono ?_
    · intro j v h
      rw [List.getElem?_map] at h
      cases e : l[j]? with
      | none => rw [e] at h; simp at h
      | some i =>
        rw [e] at h
        have hj := (List.getElem?_eq_some_iff.1 e).1
        rw [Nat.zero_add, hr.cell (by omega), hf j i e]
        simpa using h
    · intro j hj; rw [Nat.zero_add, hr.cell (by omega)]; rfl
    · intro j hj; exact hr.frozen _
    · intro v hv; simp at hv; obtain ⟨i, _, rfl⟩ := hv; rfl
    · rintro e w' ⟨rfl, rfl⟩
      refine ⟨rfl, ⟨_, rowIs_setCells _ _ _ _ (rowIs_setCells _ _ _ _ hr.drew), fun j i h => ?_⟩, Only.setCells (bs := fun b => b = Rm) rfl _ _ _ (Only.setCells (bs := fun b => b = Rm) rfl _ _ _ (Only.refl _ _).drew)⟩
      have hjl : j < k + 1 := by
        have := (List.getElem?_eq_some_iff.1 h).1
        rw [ins_length l p x (by omega)] at this; omega
      rcases Nat.lt_trichotomy j p with hlt | heq | hgt
      · rw [ins_lt l p x j (by omega) hlt] at h
        show (if _ then _ else (if _ then _ else _)) = _
        rw [if_neg (by omega), if_neg (by omega)]
        exact hf j i h
      · subst heq
        rw [ins_eq l j x (by omega)] at h
        obtain rfl : x = i := by simpa using h
        show (if _ then _ else _) = _
        rw [if_pos (by simp)]
        simp
      · obtain ⟨m, rfl⟩ : ∃ m, j = m + 1 := ⟨j - 1, by omega⟩
        rw [ins_gt l p x m (by omega) (by omega)] at h
        show (if _ then _ else (if _ then _ else _)) = _
        rw [if_neg (by simp; omega), if_pos (by simp; omega)]
        rw [List.getElem?_drop, show p + (m + 1 - (0 + (p + 1))) = m from by omega, List.getElem?_map, h]
        rfl

/-- The state behind the round. -/
theorem lstate_next {w w4 w6 : World} {B n k W : Nat} {A : Nat → Nat} {S : Nat → Int} {l : List Nat} {fw fm' : Nat → Value} {o : Obj} (p : Nat) (hp : p ≤ k) (hlen : l.length = k) (hlt : ∀ (j i : Nat), l[j]? = some i → i < k)
    (hblk : ∀ i, i < k → B + 2 < A i ∧ A i < W) (hnew : A k = W) (hfw : ∀ i, i < k + 1 → fw i = ptr A (some i))
    (hQ : Que w4 B A S (ins l p k)) (hws : w4.rowIs (B + 1) 49 n fw) (hbel : Below B w w4) (hsz : B + 2 < W ∧ W < w4.heap.size)
    (hmd : w6.rowIs (B + 2) 3 n fm') (hfm : ∀ (j i : Nat), (ins l p k)[j]? = some i → fm' j = .int .i64 i) (hO : Only (fun b => b = B + 2) (w4.alloc o) w6) :
    LState w w6 B n (k + 1) A S (ins l p k) fw fm' := by
  have kp : ∀ b, b ≠ B + 2 → b < w4.heap.size → w6.heap[b]? = w4.heap[b]? := fun b h1 h2 => (hO.block b h1).trans (Below.heap_alloc _ _ _ h2)
  have hsz6 : w6.heap.size = w4.heap.size + 1 := by rw [hO.size]; simp
  have lt' : ∀ (j i : Nat), (ins l p k)[j]? = some i → i < k + 1 := by
    intro j i hj
    rcases Nat.lt_trichotomy j p with h | h | h
    · rw [ins_lt l p k j (by omega) h] at hj; have := hlt j i hj; omega
    · subst h; rw [ins_eq l j k (by omega)] at hj; have : k = i := by simpa using hj
      omega
    · obtain ⟨m, rfl⟩ : ∃ m, j = m + 1 := ⟨j - 1, by omega⟩
      rw [ins_gt l p k m (by omega) (by omega)] at hj; have := hlt m i hj; omega
  have bk : ∀ i, i < k + 1 → B + 2 < A i ∧ A i < w4.heap.size := by
    intro i hi
    by_cases e : i = k
    · subst e; rw [hnew]; exact hsz
    · have := hblk i (by omega); omega
  refine ⟨by rw [ins_length l p k (by omega), hlen], lt', ?_, ?_, ?_, hfw, hmd, hfm, ?_, by omega⟩
  · refine hQ.carry (fun _ _ => rfl) (fun _ _ => rfl) (kp B (by omega) (by omega)) (fun i hi => ?_)
    obtain ⟨j, hj⟩ := List.getElem?_of_mem hi
    have := bk i (lt' j i hj)
    exact kp _ (by omega) (by omega)
  · intro i hi; have := bk i hi; omega
  · exact hws.of_block (kp _ (by omega) (by omega))
  · exact (hbel.alloc (by omega) o).trans (hO.below fun b hb => by omega)

theorem LState.stage' {w wr : World} {B n k : Nat} {A : Nat → Nat} {S : Nat → Int} {l : List Nat} {fw fm : Nat → Value} (h : LState w wr B n k A S l fw fm) (s : Int) :
    ∃ A' S' fw', (∀ i, i < k → A' i = A i) ∧
    LMid w (((wr.setCell ⟨B + 1, k, none⟩ (.pointer (some ⟨wr.heap.size, 0, none⟩))).alloc (.cells #[.chan none, .int .i64 s, .pointer none, .pointer none] 56)).alloc (.cells #[.pointer (some ⟨wr.heap.size, 0, none⟩)] 49))
      B n k wr.heap.size A' S' l fw' fm :=
  ⟨_, _, _, fun i hi => if_neg (by omega), h.stage s⟩

theorem one_row (w : World) (x : Nat) : (w.alloc (.cells #[.int .i64 x] 3)).rowIs w.heap.size 3 1 (fun _ => .int .i64 x) :=
  World.rowIs_alloc w #[.int .i64 x] 3 _ (fun i hi => by
    match i, hi with
    | 0, _ => rfl)

theorem check_state {w w6 : World} {B n k : Nat} {A : Nat → Nat} {S : Nat → Int} {l : List Nat} {fw fm : Nat → Value} (h : LState w w6 B n k A S l fw fm) (hk : k ≤ n) (hn : n ≤ 1024) :
    Calls Yba.prog 15 #[.pointer (some ⟨B, 0, none⟩), .slice (some ⟨B + 1, 0, none⟩) k n, .slice (some ⟨B + 2, 0, none⟩) k n] w6 fun e w' => e = .returned (.bool true) ∧ w6 = w' := by
  have hC := check_any B (B + 1) (B + 2) A S l k n n w6 h.que (by rw [h.len]; omega) (by omega) h.lt (fun i hi => by rw [h.ws.cell (by omega), h.fws i hi]) (fun j i hj => by
    have hjl := (List.getElem?_eq_some_iff.1 hj).1
    have := h.len
    rw [h.md.cell (by omega), h.fmd j i hj])
  rw [h.len] at hC
  exact hC
end Go.Proofs.Ybulkpgg
