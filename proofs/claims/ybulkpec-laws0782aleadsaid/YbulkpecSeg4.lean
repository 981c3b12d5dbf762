/- The law: what lead has left. -/
import Derived.Test.YbulkpecSeg5
import Derived.Deep.DeepCutAuto
import Derived.BigQuiet
set_option linter.unusedVariables false
namespace Go.Proofs.Ybulkpec
attribute [local go_sem ↓] Go.wp_at_zero Go.wp_at_succ
open Go.RowKit Go.Maps

set_option maxHeartbeats 4000000 in
set_option maxRecDepth 100000 in
theorem seg19 {fr0 fr7 fr8 fr9 fr10 fr17 fr18 fr19 fr20 fr21 fr22 fr23 fr24 fr25 fr26 fr27 fr28 fr29 fr30 fr31 fr32 fr33 fr34 fr35 fr36 fr37 fr38 fr39 fr40 fr41 fr42 fr43 fr44 fr45 fr46 fr47 fr48 fr49 fr50 fr51 fr52 fr53 fr54 fr55 fr56 fr57 fr58 fr59 fr60 fr61 fr62 fr63 fr64 fr65 fr66 fr67 fr68 fr69 fr70 fr71 fr72 fr73 fr74 fr75 fr76 fr77 fr78 fr79 fr80 fr81 fr82 fr83 fr84 fr85 fr86 fr87 fr88 fr89 fr90 fr91 fr92 fr93 fr94 fr95 fr96 fr97 fr98 fr99 fr100 fr101 fr102 fr103 fr104 fr105 fr106 fr107 fr108 fr109 fr110 fr111 fr112 fr113 fr114 fr115 fr116 fr117 fr118 fr119 fr120 fr121 fr122 fr123 fr124 fr125 fr126 fr127 fr128 fr129 fr130 fr131 fr132 fr133 fr134 fr135 fr136 fr137 fr138 fr139 fr140 fr141 fr142 fr143 fr144 fr145 fr146 fr147 fr148 fr149 fr150 fr151 fr152 fr153 fr154 fr155 fr156 fr157 fr158 fr159 fr160 fr161 fr162 fr163 fr164 fr165 fr166 fr167 fr168 fr169 fr170 fr171 fr172 fr173 fr174 fr175 fr176 fr177 fr178 fr179 fr180 fr181 fr182 fr183 fr184 fr185 fr186 fr187 fr188 fr189 fr190 fr191 fr192 fr193 fr194 fr195 fr196 fr197 fr198 fr199 fr200 fr201 fr202 fr203 fr204 fr205 fr206 fr207 fr208 fr209 fr210 fr211 fr212 fr213 fr214 fr215 fr216 fr217 fr218 fr219 fr220 fr221 fr222 fr223 fr224 fr225 fr226 fr227 fr228 fr229 fr230 fr231 fr232 fr233 fr234 fr235 fr236 fr237 fr238 fr239 fr240 fr241 fr242 fr243 fr244 fr245 fr246 fr247 fr248 fr249 fr250 fr251 fr252 fr253 fr254 fr255 fr256 fr257 fr258 fr259 fr260 fr261 fr262 fr263 fr264 fr265 fr266 fr267 fr268 fr269 fr270 fr271 fr272 fr273 fr274 fr275 fr276 fr277 fr278 fr279 fr280 fr281 fr282 fr283 fr284 fr285 fr286 fr287 : Value} {w wc : World} {pcs : Nat → Value} {H m N : Nat} {mem val g : Nat → Int} {D : DataW Unit} {nb b0 B : Nat} {f : Nat → Value} {id term hb lt now camp lease : Int} {r : Option Nat} {ao : Option Addr} {Nc : Nat} (p0 : pcs 0 = .int .u16 id) (p2 : pcs 2 = .slice ao N Nc) (p3 : pcs 3 = .int .u64 term) (hm1 : m ≤ 1024) (hN : N ≤ 1024) (hmn : m / 2 ≤ N) (hH : w.heap.size + 2 ≤ H) (hnb : H + 2 ≤ nb) (hw0 : -1099511627776 ≤ now) (hw1 : now ≤ 1099511627776) (hp0 : -1099511627776 ≤ camp) (hp1 : camp ≤ 1099511627776) (hh0 : -1099511627776 ≤ hb) (hh1 : hb ≤ 1099511627776) (hl0 : -1099511627776 ≤ lt) (hl1 : lt ≤ 1099511627776) (hz0 : -1099511627776 ≤ lease) (hz1 : lease ≤ 1099511627776) (hv : ∀ i, i < N → -1099511627776 ≤ val i ∧ val i ≤ 1099511627776) (hg : ∀ i, i < N → g i = val i) (hDs : Maps.size D = N) (hB : Base w pcs m mem nb f b0 B (Lk mem id m) id term (now - camp) wc) (hL : Led (fN id (w.heap.size + 1) m hb lt term r camp lease (H + 1)) H N m id term (now + hb) lt val f) (hC : Cells wc H N (fun i => .int .i64 (g i))) (hmap : wc.ownsMap Yba.prog 22 timeElem (H + 1) N D) :
    Code.wp Yba.prog (dropC 19 (Yba.f3.body.getD .skip)) (lawPost w) { tmps := #[fr0, .pointer (some ⟨w.heap.size, 0, none⟩), .bool false, .int .i64 (m : Nat), .slice (some ⟨w.heap.size + 1, 0, none⟩) m m, .slice (some ⟨H, 0, none⟩) N N, .map (some (H + 1)), fr7, fr8, fr9, fr10, .int .i64 hb, .int .i64 lt, .int .i64 now, .int .i64 camp, .int .i64 lease, .pointer (some ⟨nb, 0, none⟩), fr17, fr18, fr19, fr20, fr21, fr22, fr23, fr24, fr25, fr26, fr27, fr28, fr29, fr30, fr31, fr32, fr33, fr34, fr35, fr36, fr37, fr38, fr39, fr40, fr41, fr42, fr43, fr44, fr45, fr46, fr47, fr48, fr49, fr50, fr51, fr52, fr53, fr54, fr55, fr56, fr57, fr58, fr59, fr60, fr61, fr62, fr63, fr64, fr65, fr66, fr67, fr68, fr69, fr70, fr71, fr72, fr73, fr74, fr75, fr76, fr77, fr78, fr79, fr80, fr81, fr82, fr83, fr84, fr85, fr86, fr87, fr88, fr89, fr90, fr91, fr92, fr93, fr94, fr95, fr96, fr97, fr98, fr99, fr100, fr101, fr102, fr103, fr104, fr105, fr106, fr107, fr108, fr109, fr110, fr111, fr112, fr113, fr114, fr115, fr116, fr117, fr118, fr119, fr120, fr121, fr122, fr123, fr124, fr125, fr126, fr127, fr128, fr129, fr130, fr131, fr132, fr133, fr134, fr135, fr136, fr137, fr138, fr139, fr140, fr141, fr142, fr143, fr144, fr145, fr146, fr147, fr148, fr149, fr150, fr151, fr152, fr153, fr154, fr155, fr156, fr157, fr158, fr159, fr160, fr161, fr162, fr163, fr164, fr165, fr166, fr167, fr168, fr169, fr170, fr171, fr172, fr173, fr174, fr175, fr176, fr177, fr178, fr179, fr180, fr181, fr182, fr183, fr184, fr185, fr186, fr187, fr188, fr189, fr190, fr191, fr192, fr193, fr194, fr195, fr196, fr197, fr198, fr199, fr200, fr201, fr202, fr203, fr204, fr205, fr206, fr207, fr208, fr209, fr210, fr211, fr212, fr213, fr214, fr215, fr216, fr217, fr218, fr219, fr220, fr221, fr222, fr223, fr224, fr225, fr226, fr227, fr228, fr229, fr230, fr231, fr232, fr233, fr234, fr235, fr236, fr237, fr238, fr239, fr240, fr241, fr242, fr243, fr244, fr245, fr246, fr247, fr248, fr249, fr250, fr251, fr252, fr253, fr254, fr255, fr256, fr257, fr258, fr259, fr260, fr261, fr262, fr263, fr264, fr265, fr266, fr267, fr268, fr269, fr270, fr271, fr272, fr273, fr274, fr275, fr276, fr277, fr278, fr279, fr280, fr281, fr282, fr283, fr284, fr285, fr286, fr287], defers := [] } wc := by
  dsimp only [dropC, Yba.f3, Option.getD_some]
  unfold lawPost
  have HB := hide hB
  have HL := hide hL
  have HC := hide hC
  have HV := hide hv
  have HG := hide hg
  have HP0 := hide p0
  have HP3 := hide p3
  have c7 := (hB.nd 7 (by decide)).1
  have c8 := (hB.nd 8 (by decide)).1
  have c12 := (hB.nd 12 (by decide)).1
  have c5 := (hB.nd 5 (by decide)).1
  have c6 := (hB.nd 6 (by decide)).1
  have c16 := (hB.nd 16 (by decide)).1
  rw [hL.e7] at c7; rw [hL.e8] at c8; rw [hL.e12] at c12; rw [hL.e5] at c5; rw [hL.e6] at c6; rw [hL.e16] at c16
  have b0' := (hB.box 0 (by decide)).1
  have b2' := (hB.box 2 (by decide)).1
  have b3' := (hB.box 3 (by decide)).1
  rw [p0] at b0'; rw [p2] at b2'; rw [p3] at b3'
  have hlen : ∀ w', w'.heap[H + 1]? = wc.heap[H + 1]? → (Builtin.len_ #[28] 3 #[.map (some (H + 1))]).run Yba.prog w' = .ok (.int .i64 (N : Nat)) w' := fun w' e => by
    have := (owns_block hmap e).len Yba.underlying28 3
    rwa [hDs] at this
  have hl1' : ∀ n, (Builtin.len_ #[28] 3 #[.map (some (H + 1))]).run Yba.prog (wc.drewN n) = .ok (.int .i64 (N : Nat)) (wc.drewN n) := fun n => hlen _ rfl
  have hl2' : (Builtin.len_ #[28] 3 #[.map (some (H + 1))]).run Yba.prog wc = .ok (.int .i64 (N : Nat)) wc := hlen _ rfl
  have hl3' : ∀ n, (Builtin.len_ #[28] 3 #[.map (some (H + 1))]).run Yba.prog (wc.drewN n).drew = .ok (.int .i64 (N : Nat)) (wc.drewN n).drew := fun n => hlen _ rfl
  have hl4' : (Builtin.len_ #[28] 3 #[.map (some (H + 1))]).run Yba.prog wc.drew = .ok (.int .i64 (N : Nat)) wc.drew := hlen _ rfl
  have hl5' : (Builtin.len_ #[28] 3 #[.map (some (H + 1))]).run Yba.prog wc.drew.drew = .ok (.int .i64 (N : Nat)) wc.drew.drew := hlen _ rfl
  have hat : Hid (∀ w, Calls Yba.prog 5 #[.int .i64 lease] w fun e w' => e = .returned (T lease) ∧ Below w.heap.size w w') := fun w => at_any lease (by omega) (by omega) w
  have hneq : ∀ w, (binOp .neq 34 (.map none) (.map none)).run Yba.prog w = .ok (.bool false) w := fun w => by kernel_rfl
  unfold T at hat
  clear hB hL hC hv hg p0 p2 p3 hmap hlen
  go_upto_region 28 with fail
  go_quiet (fail)
  go_upto_region 30 with fail
  go_quiet (fail)
  go_upto_region 33 with (go_at_call 5; refine (hat.out _).mono ?_; rintro e w3 ⟨rfl, hb3⟩; have HB3 := hide hb3; clear hb3)
  have hB3 := (HB.out.drewN _).below' HB3.out
  have hC3 : Cells w3 H N (fun i => .int .i64 (g i)) := cells_below (w := wc.drewN _) (HC.out.of_block rfl) (by have := HB.out.lt3; have := HB.out.size; show H < wc.heap.size; omega) HB3.out
  have HB4 := hide (hB3.below' ((Below.refl _ w3).alloc (Nat.le_refl _) (.cells #[.int .u64 (wallOf lease), .int .i64 (extOf lease), .pointer none] 32)))
  have HC4 := hide (cells_below hC3 (by have := hB3.lt3; have := hB3.size; omega) ((Below.refl _ w3).alloc (Nat.le_refl _) (.cells #[.int .u64 (wallOf lease), .int .i64 (extOf lease), .pointer none] 32)))
  have HBw := hide hB3.size
  have HW : Hid (Cells (w3.alloc (.cells #[.int .u64 (wallOf lease), .int .i64 (extOf lease), .pointer none] 32)) w3.heap.size 3 (tf lease)) := Cells.of_heap (heap_alloc_new w3 _) (fun k hk => by
    match k, hk with
    | 0, _ => rfl
    | 1, _ => rfl
    | 2, _ => rfl)
  clear hB3 hC3
  go_cut [19] (fun s19 wx => s19 = .int .i64 ((m : Int) / 2) ∧ wx = w3.alloc (.cells #[.int .u64 (wallOf lease), .int .i64 (extOf lease), .pointer none] 32))
  case first =>
    go_wp2_with fail
    go_meet
    exact ⟨rfl, rfl⟩
  case rest =>
    obtain ⟨rfl, rfl⟩ := hcut
    refine ‹∀ (a : Act) (w' : World), Code.wp Yba.prog (dropC 23 (Yba.f3.body.getD .skip)) _ a w' → _› _ _ ?_
    exact seg23 rfl hm1 hN hmn HP0.out HP3.out hw0 hw1 hp0 hp1 hh0 hh1 hl0 hl1 HV.out HG.out hH hnb HL.out HB4.out HC4.out HBw.out (by simp) HW.out
end Go.Proofs.Ybulkpec
