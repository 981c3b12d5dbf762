/- The law's last loop. -/
import Derived.Test.YbulkpecLawB
import Derived.Deep.DeepCutAuto
import Derived.BigQuiet
set_option linter.unusedVariables false
namespace Go.Proofs.Ybulkpec
attribute [local go_sem ↓] Go.wp_at_zero Go.wp_at_succ
open Go.RowKit Go.Maps

theorem Lk_split {mem : Nat → Int} {id : Int} {i : Nat} (h : mem i ≠ id) : ∀ j, i < j → ∃ rest, Lk mem id j = Lk mem id i ++ mem i :: rest
  | 0, hj => by omega
  | j + 1, hj => by
    by_cases e : i = j
    · subst e
      exact ⟨[], by rw [Lk_take h]⟩
    · obtain ⟨rest, hr⟩ := Lk_split h j (by omega)
      by_cases e2 : mem j = id
      · exact ⟨rest, by rw [Lk_skip e2, hr]⟩
      · exact ⟨rest ++ [mem j], by rw [Lk_take e2, hr]; simp⟩

theorem msgCells_get (id term sent : Int) : ∀ (L : List Int) (k : Nat) (t : Int), L[k]? = some t → (msgCells id term sent L)[k * 6]? = some (.int .u8 4) ∧ (msgCells id term sent L)[k * 6 + 1]? = some (.int .u16 id) ∧ (msgCells id term sent L)[k * 6 + 2]? = some (.int .u16 t) ∧
    (msgCells id term sent L)[k * 6 + 3]? = some (.int .u16 0) ∧ (msgCells id term sent L)[k * 6 + 4]? = some (.int .u64 term) ∧ (msgCells id term sent L)[k * 6 + 5]? = some (.int .i64 sent)
  | [], k, t, h => by simp at h
  | c :: r, 0, t, h => by
    simp at h
    subst h
    exact ⟨rfl, rfl, rfl, rfl, rfl, rfl⟩
  | c :: r, k + 1, t, h => by
    have := msgCells_get id term sent r k t (by simpa using h)
    refine ⟨?_, ?_, ?_, ?_, ?_, ?_⟩
    · rw [show (k + 1) * 6 = k * 6 + 1 + 1 + 1 + 1 + 1 + 1 by omega]; exact this.1
    · rw [show (k + 1) * 6 + 1 = k * 6 + 1 + 1 + 1 + 1 + 1 + 1 + 1 by omega]; exact this.2.1
    · rw [show (k + 1) * 6 + 2 = k * 6 + 2 + 1 + 1 + 1 + 1 + 1 + 1 by omega]; exact this.2.2.1
    · rw [show (k + 1) * 6 + 3 = k * 6 + 3 + 1 + 1 + 1 + 1 + 1 + 1 by omega]; exact this.2.2.2.1
    · rw [show (k + 1) * 6 + 4 = k * 6 + 4 + 1 + 1 + 1 + 1 + 1 + 1 by omega]; exact this.2.2.2.2.1
    · rw [show (k + 1) * 6 + 5 = k * 6 + 5 + 1 + 1 + 1 + 1 + 1 + 1 by omega]; exact this.2.2.2.2.2

theorem msg_cells {w : World} {b0 : Nat} {v : Value} {L : List Int} {id term sent : Int} (h : w.ownsRow b0 55 6 v L.length (msgCells id term sent L)) {k : Nat} {t : Int} (hk : L[k]? = some t) :
    ∃ g cap, v = .slice (some ⟨g, 0, none⟩) L.length cap ∧ g < w.heap.size ∧ w.cell? ⟨g, k * 6, none⟩ = some (.int .u8 4) ∧ w.cell? ⟨g, k * 6 + 1, none⟩ = some (.int .u16 id) ∧ w.cell? ⟨g, k * 6 + 2, none⟩ = some (.int .u16 t) ∧ w.cell? ⟨g, k * 6 + 3, none⟩ = some (.int .u16 0) ∧ w.cell? ⟨g, k * 6 + 4, none⟩ = some (.int .u64 term) ∧ w.cell? ⟨g, k * 6 + 5, none⟩ = some (.int .i64 sent) := by
  have hlt : k < L.length := by
    by_cases hh : k < L.length
    · exact hh
    · rw [List.getElem?_eq_none (by omega)] at hk; cases hk
  obtain ⟨hl, ⟨_, h0⟩ | ⟨g, cap, cur, rfl, hb, hg, h1, h2, h3, h4⟩⟩ := h
  · omega
  obtain ⟨a0, a1, a2, a3, a4, a5⟩ := msgCells_get id term sent L k t hk
  rw [← h4] at a0 a1 a2 a3 a4 a5
  have take : ∀ j, j < L.length * 6 → ∀ u, (cur.toList.take (L.length * 6))[j]? = some u → w.cell? ⟨g, j, none⟩ = some u := by
    intro j hj u hu
    rw [List.getElem?_take, if_pos hj] at hu
    simp [World.cell?, hg]
    simpa using hu
  exact ⟨g, cap, rfl, (Array.getElem?_eq_some_iff.1 hg).1, take _ (by omega) _ a0, take _ (by omega) _ a1, take _ (by omega) _ a2, take _ (by omega) _ a3, take _ (by omega) _ a4, take _ (by omega) _ a5⟩

set_option maxHeartbeats 4000000 in
set_option maxRecDepth 100000 in
theorem seg27 {fr0 fr7 fr8 fr9 fr10 fr17 fr18 fr19 fr20 fr21 fr22 fr24 fr25 fr26 fr27 fr28 fr29 fr30 fr31 fr32 fr33 fr34 fr35 fr36 fr37 fr38 fr39 fr40 fr41 fr42 fr43 fr44 fr45 fr46 fr47 fr48 fr49 fr50 fr51 fr52 fr53 fr54 fr55 fr56 fr57 fr58 fr59 fr60 fr61 fr62 fr63 fr64 fr65 fr66 fr67 fr68 fr69 fr70 fr71 fr72 fr73 fr74 fr75 fr76 fr77 fr78 fr79 fr80 fr81 fr82 fr83 fr84 fr85 fr86 fr87 fr88 fr89 fr90 fr91 fr92 fr93 fr94 fr95 fr96 fr97 fr98 fr99 fr100 fr101 fr102 fr103 fr104 fr105 fr106 fr107 fr108 fr109 fr110 fr111 fr112 fr113 fr114 fr115 fr116 fr117 fr118 fr119 fr120 fr121 fr122 fr123 fr124 fr125 fr126 fr127 fr128 fr129 fr130 fr131 fr132 fr133 fr134 fr135 fr136 fr137 fr138 fr139 fr140 fr141 fr142 fr143 fr144 fr145 fr146 fr147 fr148 fr149 fr150 fr151 fr152 fr153 fr154 fr155 fr156 fr157 fr158 fr159 fr160 fr161 fr162 fr163 fr164 fr165 fr166 fr167 fr168 fr169 fr170 fr171 fr172 fr173 fr174 fr175 fr176 fr177 fr178 fr179 fr180 fr181 fr182 fr183 fr184 fr185 fr186 fr187 fr188 fr189 fr190 fr191 fr192 fr193 fr194 fr195 fr196 fr197 fr198 fr199 fr200 fr201 fr202 fr203 fr204 fr205 fr206 fr207 fr208 fr209 fr210 fr211 fr212 fr213 fr214 fr215 fr216 fr217 fr218 fr219 fr220 fr221 fr222 fr223 fr224 fr225 fr226 fr227 fr228 fr229 fr230 fr231 fr232 fr233 fr234 fr235 fr236 fr237 fr238 fr239 fr240 fr241 fr242 fr243 fr244 fr245 fr246 fr247 fr248 fr249 fr250 fr251 fr252 fr253 fr254 fr255 fr256 fr257 fr258 fr259 fr260 fr261 fr262 fr263 fr264 fr265 fr266 fr267 fr268 fr269 fr270 fr271 fr272 fr273 fr274 fr275 fr276 fr277 fr278 fr279 fr280 fr281 fr282 fr283 fr284 fr285 fr286 fr287 : Value} {w wc : World} {pcs : Nat → Value} {H m N : Nat} {mem : Nat → Int} {nb b0 B : Nat} {f : Nat → Value} {id term hb lt now camp lease : Int} (hm1 : m ≤ 1024) (p0 : pcs 0 = .int .u16 id) (p3 : pcs 3 = .int .u64 term) (hw0 : -1099511627776 ≤ now) (hw1 : now ≤ 1099511627776) (hp0 : -1099511627776 ≤ camp) (hp1 : camp ≤ 1099511627776) (hB : Base w pcs m mem nb f b0 B (Lk mem id m) id term (now - camp) wc) :
    Code.wp Yba.prog (dropC 27 (Yba.f3.body.getD .skip)) (lawPost w) { tmps := #[fr0, .pointer (some ⟨w.heap.size, 0, none⟩), .bool false, .int .i64 (m : Nat), .slice (some ⟨w.heap.size + 1, 0, none⟩) m m, .slice (some ⟨H, 0, none⟩) N N, .map (some (H + 1)), fr7, fr8, fr9, fr10, .int .i64 hb, .int .i64 lt, .int .i64 now, .int .i64 camp, .int .i64 lease, .pointer (some ⟨nb, 0, none⟩), fr17, fr18, fr19, fr20, fr21, fr22, .int .i64 0, fr24, fr25, fr26, fr27, fr28, fr29, fr30, fr31, fr32, fr33, fr34, fr35, fr36, fr37, fr38, fr39, fr40, fr41, fr42, fr43, fr44, fr45, fr46, fr47, fr48, fr49, fr50, fr51, fr52, fr53, fr54, fr55, fr56, fr57, fr58, fr59, fr60, fr61, fr62, fr63, fr64, fr65, fr66, fr67, fr68, fr69, fr70, fr71, fr72, fr73, fr74, fr75, fr76, fr77, fr78, fr79, fr80, fr81, fr82, fr83, fr84, fr85, fr86, fr87, fr88, fr89, fr90, fr91, fr92, fr93, fr94, fr95, fr96, fr97, fr98, fr99, fr100, fr101, fr102, fr103, fr104, fr105, fr106, fr107, fr108, fr109, fr110, fr111, fr112, fr113, fr114, fr115, fr116, fr117, fr118, fr119, fr120, fr121, fr122, fr123, fr124, fr125, fr126, fr127, fr128, fr129, fr130, fr131, fr132, fr133, fr134, fr135, fr136, fr137, fr138, fr139, fr140, fr141, fr142, fr143, fr144, fr145, fr146, fr147, fr148, fr149, fr150, fr151, fr152, fr153, fr154, fr155, fr156, fr157, fr158, fr159, fr160, fr161, fr162, fr163, fr164, fr165, fr166, fr167, fr168, fr169, fr170, fr171, fr172, fr173, fr174, fr175, fr176, fr177, fr178, fr179, fr180, fr181, fr182, fr183, fr184, fr185, fr186, fr187, fr188, fr189, fr190, fr191, fr192, fr193, fr194, fr195, fr196, fr197, fr198, fr199, fr200, fr201, fr202, fr203, fr204, fr205, fr206, fr207, fr208, fr209, fr210, fr211, fr212, fr213, fr214, fr215, fr216, fr217, fr218, fr219, fr220, fr221, fr222, fr223, fr224, fr225, fr226, fr227, fr228, fr229, fr230, fr231, fr232, fr233, fr234, fr235, fr236, fr237, fr238, fr239, fr240, fr241, fr242, fr243, fr244, fr245, fr246, fr247, fr248, fr249, fr250, fr251, fr252, fr253, fr254, fr255, fr256, fr257, fr258, fr259, fr260, fr261, fr262, fr263, fr264, fr265, fr266, fr267, fr268, fr269, fr270, fr271, fr272, fr273, fr274, fr275, fr276, fr277, fr278, fr279, fr280, fr281, fr282, fr283, fr284, fr285, fr286, fr287], defers := [] } wc := by
  dsimp only [dropC, Yba.f3, Option.getD_some]
  unfold lawPost
  have HB := hide hB
  clear hB
  have HP0 := hide p0
  have HP3 := hide p3
  clear p0 p3
  go_wp2_with fail
  go_loopw [245, 23] (fun vi vk wr => ∃ i : Nat, vi = .int .i64 i ∧ vk = .int .i64 ((Lk mem id i).length : Nat) ∧ i ≤ m ∧ Hid (Base w pcs m mem nb f b0 B (Lk mem id m) id term (now - camp) wr)) (fun vi _ _ => m - (intOf vi).toNat)
  case atStart => exact ⟨0, rfl, rfl, Nat.zero_le _, HB⟩
  case round =>
    obtain ⟨i, rfl, rfl, him, HBr⟩ := hrel
    have c35 := (HBr.out.nd 35 (by decide)).1
    by_cases hi : i < m
    · have hii : (i : Int) < (m : Int) := by omega
      have cm := (HBr.out.mems i hi).1
      have c0 := (HBr.out.box 0 (by decide)).1
      have c3 := (HBr.out.box 3 (by decide)).1
      rw [HP0.out] at c0
      rw [HP3.out] at c3
      by_cases he : mem i = id
      · have HE := hide he
        generalize hmi : mem i = mi at *
        subst he
        go_wp2_with fail
        go_roundw
        case rel => exact ⟨i + 1, by go_num, by rw [Lk_skip hmi], by omega, HBr⟩
        case measure => simp [intOf]; omega
      · obtain ⟨rest, hsplit⟩ := Lk_split he m hi
        have hget : (Lk mem id m)[(Lk mem id i).length]? = some (mem i) := by rw [hsplit]; simp
        have hkl : (Lk mem id i).length < (Lk mem id m).length := by rw [hsplit]; simp
        have hll := Lk_length mem id i
        have hlm := Lk_length mem id m
        obtain ⟨g, cap, hv, hgl, m0, m1, m2, m3, m4, m5⟩ := msg_cells HBr.out.own hget
        rw [hv] at c35
        have HT := hide (Lk_take (mem := mem) (k := i) he)
        clear hsplit hget hv
        have hkz : ¬ ((Lk mem id m).length : Int) ≤ ((Lk mem id i).length : Int) := by omega
        have hkz2 : ((Lk mem id i).length : Int) < ((Lk mem id m).length : Int) := by omega
        have hnbl : nb < wr.heap.size := HBr.out.nd.lt
        have hpl : w.heap.size < wr.heap.size := by have := HBr.out.lt1; omega
        have hn1 : ¬ nb = wr.heap.size := by omega
        have hn2 : ¬ g = wr.heap.size := by omega
        generalize hK : (Lk mem id i).length = K at *
        generalize hLL : (Lk mem id m).length = LL at *
        generalize hmi : mem i = mi at *
        go_wp2_with fail
        go_quiet (fail)
        go_wp2_with fail
        go_roundw
        case rel => exact ⟨i + 1, by go_num, by rw [HT.out]; simp [hK], by omega, hide (Base.drewN (HBr.out.below' ((Below.refl _ _).alloc (Nat.le_refl _) _)) nq)⟩
        case measure => simp [intOf]; omega
    · have him' : m = i := by omega
      subst him'
      obtain ⟨a, c, hv⟩ : ∃ a c, f 35 = .slice a (Lk mem id m).length c := by
        rcases HBr.out.own.2 with ⟨e, h0⟩ | ⟨g, cap, cur, e, _⟩
        · exact ⟨none, 0, by rw [h0]; exact e⟩
        · exact ⟨_, _, e⟩
      rw [hv] at c35
      clear hv
      have hlm := Lk_length mem id m
      generalize hLL : (Lk mem id m).length = LL at *
      go_wp2_with fail
      go_ret
      exact ⟨rfl, HBr.out.below⟩
end Go.Proofs.Ybulkpec
