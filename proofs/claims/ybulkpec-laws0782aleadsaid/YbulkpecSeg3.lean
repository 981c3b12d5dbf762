/- The law: lead. -/
import Derived.Test.YbulkpecSeg4
import Derived.Deep.DeepCutAuto
import Derived.BigQuiet
set_option linter.unusedVariables false
namespace Go.Proofs.Ybulkpec
attribute [local go_sem ↓] Go.wp_at_zero Go.wp_at_succ
open Go.RowKit Go.Maps

set_option maxHeartbeats 4000000 in
set_option maxRecDepth 100000 in
theorem seg17 {fr0 fr7 fr8 fr9 fr10 fr17 fr18 fr19 fr20 fr21 fr22 fr23 fr24 fr25 fr26 fr27 fr28 fr29 fr30 fr31 fr32 fr33 fr34 fr35 fr36 fr37 fr38 fr39 fr40 fr41 fr42 fr43 fr44 fr45 fr46 fr47 fr48 fr49 fr50 fr51 fr52 fr53 fr54 fr55 fr56 fr57 fr58 fr59 fr60 fr61 fr62 fr63 fr64 fr65 fr66 fr67 fr68 fr69 fr70 fr71 fr72 fr73 fr74 fr75 fr76 fr77 fr78 fr79 fr80 fr81 fr82 fr83 fr84 fr85 fr86 fr87 fr88 fr89 fr90 fr91 fr92 fr93 fr94 fr95 fr96 fr97 fr98 fr99 fr100 fr101 fr102 fr103 fr104 fr105 fr106 fr107 fr108 fr109 fr110 fr111 fr112 fr113 fr114 fr115 fr116 fr117 fr118 fr119 fr120 fr121 fr122 fr123 fr124 fr125 fr126 fr127 fr128 fr129 fr130 fr131 fr132 fr133 fr134 fr135 fr136 fr137 fr138 fr139 fr140 fr141 fr142 fr143 fr144 fr145 fr146 fr147 fr148 fr149 fr150 fr151 fr152 fr153 fr154 fr155 fr156 fr157 fr158 fr159 fr160 fr161 fr162 fr163 fr164 fr165 fr166 fr167 fr168 fr169 fr170 fr171 fr172 fr173 fr174 fr175 fr176 fr177 fr178 fr179 fr180 fr181 fr182 fr183 fr184 fr185 fr186 fr187 fr188 fr189 fr190 fr191 fr192 fr193 fr194 fr195 fr196 fr197 fr198 fr199 fr200 fr201 fr202 fr203 fr204 fr205 fr206 fr207 fr208 fr209 fr210 fr211 fr212 fr213 fr214 fr215 fr216 fr217 fr218 fr219 fr220 fr221 fr222 fr223 fr224 fr225 fr226 fr227 fr228 fr229 fr230 fr231 fr232 fr233 fr234 fr235 fr236 fr237 fr238 fr239 fr240 fr241 fr242 fr243 fr244 fr245 fr246 fr247 fr248 fr249 fr250 fr251 fr252 fr253 fr254 fr255 fr256 fr257 fr258 fr259 fr260 fr261 fr262 fr263 fr264 fr265 fr266 fr267 fr268 fr269 fr270 fr271 fr272 fr273 fr274 fr275 fr276 fr277 fr278 fr279 fr280 fr281 fr282 fr283 fr284 fr285 fr286 fr287 : Value} {w wc : World} {pcs : Nat → Value} {H m N : Nat} {mem val g : Nat → Int} {D : DataW Unit} {nb : Nat} {id term hb lt now camp lease : Int} {r : Option Nat} {ao : Option Addr} {Nc : Nat} (p0 : pcs 0 = .int .u16 id) (p2 : pcs 2 = .slice ao N Nc) (p3 : pcs 3 = .int .u64 term) (hm1 : m ≤ 1024) (hN : N ≤ 1024) (hmn : m / 2 ≤ N) (hH : w.heap.size + 2 ≤ H) (hnb : H + 2 ≤ nb) (hw0 : -1099511627776 ≤ now) (hw1 : now ≤ 1099511627776) (hp0 : -1099511627776 ≤ camp) (hp1 : camp ≤ 1099511627776) (hh0 : -1099511627776 ≤ hb) (hh1 : hb ≤ 1099511627776) (hl0 : -1099511627776 ≤ lt) (hl1 : lt ≤ 1099511627776) (hz0 : -1099511627776 ≤ lease) (hz1 : lease ≤ 1099511627776) (hv : ∀ i, i < N → -1099511627776 ≤ val i ∧ val i ≤ 1099511627776) (hM : Mid w pcs H m N N mem val g D wc) (hn : Nd wc nb (fN id (w.heap.size + 1) m hb lt term r camp lease (H + 1))) :
    Code.wp Yba.prog (dropC 17 (Yba.f3.body.getD .skip)) (lawPost w) { tmps := #[fr0, .pointer (some ⟨w.heap.size, 0, none⟩), .bool false, .int .i64 (m : Nat), .slice (some ⟨w.heap.size + 1, 0, none⟩) m m, .slice (some ⟨H, 0, none⟩) N N, .map (some (H + 1)), fr7, fr8, fr9, fr10, .int .i64 hb, .int .i64 lt, .int .i64 now, .int .i64 camp, .int .i64 lease, .pointer (some ⟨nb, 0, none⟩), fr17, fr18, fr19, fr20, fr21, fr22, fr23, fr24, fr25, fr26, fr27, fr28, fr29, fr30, fr31, fr32, fr33, fr34, fr35, fr36, fr37, fr38, fr39, fr40, fr41, fr42, fr43, fr44, fr45, fr46, fr47, fr48, fr49, fr50, fr51, fr52, fr53, fr54, fr55, fr56, fr57, fr58, fr59, fr60, fr61, fr62, fr63, fr64, fr65, fr66, fr67, fr68, fr69, fr70, fr71, fr72, fr73, fr74, fr75, fr76, fr77, fr78, fr79, fr80, fr81, fr82, fr83, fr84, fr85, fr86, fr87, fr88, fr89, fr90, fr91, fr92, fr93, fr94, fr95, fr96, fr97, fr98, fr99, fr100, fr101, fr102, fr103, fr104, fr105, fr106, fr107, fr108, fr109, fr110, fr111, fr112, fr113, fr114, fr115, fr116, fr117, fr118, fr119, fr120, fr121, fr122, fr123, fr124, fr125, fr126, fr127, fr128, fr129, fr130, fr131, fr132, fr133, fr134, fr135, fr136, fr137, fr138, fr139, fr140, fr141, fr142, fr143, fr144, fr145, fr146, fr147, fr148, fr149, fr150, fr151, fr152, fr153, fr154, fr155, fr156, fr157, fr158, fr159, fr160, fr161, fr162, fr163, fr164, fr165, fr166, fr167, fr168, fr169, fr170, fr171, fr172, fr173, fr174, fr175, fr176, fr177, fr178, fr179, fr180, fr181, fr182, fr183, fr184, fr185, fr186, fr187, fr188, fr189, fr190, fr191, fr192, fr193, fr194, fr195, fr196, fr197, fr198, fr199, fr200, fr201, fr202, fr203, fr204, fr205, fr206, fr207, fr208, fr209, fr210, fr211, fr212, fr213, fr214, fr215, fr216, fr217, fr218, fr219, fr220, fr221, fr222, fr223, fr224, fr225, fr226, fr227, fr228, fr229, fr230, fr231, fr232, fr233, fr234, fr235, fr236, fr237, fr238, fr239, fr240, fr241, fr242, fr243, fr244, fr245, fr246, fr247, fr248, fr249, fr250, fr251, fr252, fr253, fr254, fr255, fr256, fr257, fr258, fr259, fr260, fr261, fr262, fr263, fr264, fr265, fr266, fr267, fr268, fr269, fr270, fr271, fr272, fr273, fr274, fr275, fr276, fr277, fr278, fr279, fr280, fr281, fr282, fr283, fr284, fr285, fr286, fr287], defers := [] } wc := by
  dsimp only [dropC, Yba.f3, Option.getD_some]
  unfold lawPost
  have HM := hide hM
  have HN := hide hn
  have hlead : Hid (∀ w', Mid w pcs H m N N mem val g D w' → Nd w' nb (fN id (w.heap.size + 1) m hb lt term r camp lease (H + 1)) → Calls Yba.prog 6 #[.pointer (some ⟨nb, 0, none⟩), T now] w' fun e w'' => e = .returned (.tuple #[]) ∧ LeadPost w' nb (fN id (w.heap.size + 1) m hb lt term r camp lease (H + 1)) id term (now - camp) (now + hb) lt N m val (Lk mem id m) w'') := fun w' h1 h2 =>
    lead_any nb (w.heap.size + 1) (H + 1) _ m m N mem val D id term now camp hb lt w' h2 rfl rfl rfl rfl rfl rfl rfl rfl rfl rfl rfl (by have := h1.size; omega) (by omega) (fun i hi => (h1.mems i hi).1) hm1 h1.map h1.filled hmn hN hv (by omega) hw0 hw1 hp0 hp1 hh0 hh1 hl0 hl1
  have hat : Hid (∀ w, Calls Yba.prog 5 #[.int .i64 now] w fun e w' => e = .returned (T now) ∧ Below w.heap.size w w') := fun w => at_any now (by omega) (by omega) w
  have HP0 := hide p0
  have HP2 := hide p2
  have HP3 := hide p3
  have HV := hide hv
  clear hM hn p0 p2 p3 hv
  unfold T at hlead hat
  generalize hx : wallOf now = x at *
  generalize hy : extOf now = y at *
  go_upto_region 27 with (go_at_call 5; refine (hat.out _).mono ?_; rintro e w3 ⟨rfl, hb3⟩; have HB3 := hide hb3; clear hb3)
  have HM3 : Hid (Mid w pcs H m N N mem val g D (w3.alloc (.cells #[.int .u64 x, .int .i64 y, .pointer none] 32))) := by
    have hs := HM.out.size
    have h3 := HB3.out.size
    exact (HM.out.kept hH (HB3.out.mono hs)).kept hH ((Below.refl _ _).alloc (by omega) _)
  have HN3 : Hid (Nd (w3.alloc (.cells #[.int .u64 x, .int .i64 y, .pointer none] 32)) nb (fN id (w.heap.size + 1) m hb lt term r camp lease (H + 1))) := (HN.out.below HB3.out).alloc _
  go_cut [] (fun wx => ∃ f b0 B, Hid (Base w pcs m mem nb f b0 B (Lk mem id m) id term (now - camp) wx ∧ Led (fN id (w.heap.size + 1) m hb lt term r camp lease (H + 1)) H N m id term (now + hb) lt val f ∧ Cells wx H N (fun i => .int .i64 (g i)) ∧ wx.ownsMap Yba.prog 22 timeElem (H + 1) N D ∧ B ≤ wx.heap.size))
  case first =>
    go_wp2_with (go_at_call 6; refine (hlead.out _ HM3.out HN3.out).mono ?_; rintro e w4 ⟨rfl, hP⟩; have HP := hide hP; clear hP)
    go_meet
    exact led_of hH hnb (HN3.out.lt) HM3.out HP.out
  case rest =>
    obtain ⟨f, b0, B, HX⟩ := hcut
    refine ‹∀ (a : Act) (w' : World), Code.wp Yba.prog (dropC 19 (Yba.f3.body.getD .skip)) _ a w' → _› _ _ ?_
    exact seg19 HP0.out HP2.out HP3.out hm1 hN hmn hH hnb hw0 hw1 hp0 hp1 hh0 hh1 hl0 hl1 hz0 hz1 HV.out HM.out.done HM.out.filled.size HX.out.1 HX.out.2.1 HX.out.2.2.1 HX.out.2.2.2.1
end Go.Proofs.Ybulkpec
