/- The law: the node is built. -/
import Derived.Test.YbulkpecSeg3
import Derived.Deep.DeepCutAuto
import Derived.BigQuiet
set_option linter.unusedVariables false
namespace Go.Proofs.Ybulkpec
attribute [local go_sem ↓] Go.wp_at_zero Go.wp_at_succ
open Go.RowKit Go.Maps

set_option maxHeartbeats 4000000 in
set_option maxRecDepth 100000 in
theorem seg10 {fr0 fr7 fr8 fr9 fr11 fr12 fr13 fr14 fr15 fr16 fr17 fr18 fr19 fr20 fr21 fr22 fr23 fr24 fr25 fr26 fr27 fr28 fr29 fr30 fr31 fr32 fr33 fr34 fr35 fr36 fr37 fr38 fr39 fr40 fr41 fr42 fr43 fr44 fr45 fr46 fr47 fr48 fr49 fr50 fr51 fr52 fr53 fr54 fr55 fr56 fr57 fr58 fr59 fr60 fr61 fr62 fr63 fr64 fr65 fr66 fr67 fr68 fr69 fr70 fr71 fr72 fr73 fr74 fr75 fr76 fr77 fr78 fr79 fr80 fr81 fr82 fr83 fr84 fr85 fr86 fr87 fr88 fr89 fr90 fr91 fr92 fr93 fr94 fr95 fr96 fr97 fr98 fr99 fr100 fr101 fr102 fr103 fr104 fr105 fr106 fr107 fr108 fr109 fr110 fr111 fr112 fr113 fr114 fr115 fr116 fr117 fr118 fr119 fr120 fr121 fr122 fr123 fr124 fr125 fr126 fr127 fr128 fr129 fr130 fr131 fr132 fr133 fr134 fr135 fr136 fr137 fr138 fr139 fr140 fr141 fr142 fr143 fr144 fr145 fr146 fr147 fr148 fr149 fr150 fr151 fr152 fr153 fr154 fr155 fr156 fr157 fr158 fr159 fr160 fr161 fr162 fr163 fr164 fr165 fr166 fr167 fr168 fr169 fr170 fr171 fr172 fr173 fr174 fr175 fr176 fr177 fr178 fr179 fr180 fr181 fr182 fr183 fr184 fr185 fr186 fr187 fr188 fr189 fr190 fr191 fr192 fr193 fr194 fr195 fr196 fr197 fr198 fr199 fr200 fr201 fr202 fr203 fr204 fr205 fr206 fr207 fr208 fr209 fr210 fr211 fr212 fr213 fr214 fr215 fr216 fr217 fr218 fr219 fr220 fr221 fr222 fr223 fr224 fr225 fr226 fr227 fr228 fr229 fr230 fr231 fr232 fr233 fr234 fr235 fr236 fr237 fr238 fr239 fr240 fr241 fr242 fr243 fr244 fr245 fr246 fr247 fr248 fr249 fr250 fr251 fr252 fr253 fr254 fr255 fr256 fr257 fr258 fr259 fr260 fr261 fr262 fr263 fr264 fr265 fr266 fr267 fr268 fr269 fr270 fr271 fr272 fr273 fr274 fr275 fr276 fr277 fr278 fr279 fr280 fr281 fr282 fr283 fr284 fr285 fr286 fr287 : Value} {w wc0 : World} {H m N : Nat} {mem val g : Nat → Int} {D : DataW Unit} {id : Int} {am : Option Addr} {M Mc : Nat} {ao : Option Addr} {Nc : Nat} {term nowO campO leaseO hbO ltO : Int} {pv : Bool} (hid : (Lit.int .u16 id).wf = true) (hm1 : m ≤ 1024) (hN : N ≤ 1024) (hmn : m / 2 ≤ N) (hH : w.heap.size + 2 ≤ H) (hv : ∀ i, i < N → -1099511627776 ≤ val i ∧ val i ≤ 1099511627776) (hM : Mid w (pc id am M Mc ao N Nc term nowO campO leaseO hbO ltO pv) H m N N mem val g D wc0) :
    Code.wp Yba.prog (dropC 10 (Yba.f3.body.getD .skip)) (lawPost w) { tmps := #[fr0, .pointer (some ⟨w.heap.size, 0, none⟩), .bool false, .int .i64 (m : Nat), .slice (some ⟨w.heap.size + 1, 0, none⟩) m m, .slice (some ⟨H, 0, none⟩) N N, .map (some (H + 1)), fr7, fr8, fr9, .map none, fr11, fr12, fr13, fr14, fr15, fr16, fr17, fr18, fr19, fr20, fr21, fr22, fr23, fr24, fr25, fr26, fr27, fr28, fr29, fr30, fr31, fr32, fr33, fr34, fr35, fr36, fr37, fr38, fr39, fr40, fr41, fr42, fr43, fr44, fr45, fr46, fr47, fr48, fr49, fr50, fr51, fr52, fr53, fr54, fr55, fr56, fr57, fr58, fr59, fr60, fr61, fr62, fr63, fr64, fr65, fr66, fr67, fr68, fr69, fr70, fr71, fr72, fr73, fr74, fr75, fr76, fr77, fr78, fr79, fr80, fr81, fr82, fr83, fr84, fr85, fr86, fr87, fr88, fr89, fr90, fr91, fr92, fr93, fr94, fr95, fr96, fr97, fr98, fr99, fr100, fr101, fr102, fr103, fr104, fr105, fr106, fr107, fr108, fr109, fr110, fr111, fr112, fr113, fr114, fr115, fr116, fr117, fr118, fr119, fr120, fr121, fr122, fr123, fr124, fr125, fr126, fr127, fr128, fr129, fr130, fr131, fr132, fr133, fr134, fr135, fr136, fr137, fr138, fr139, fr140, fr141, fr142, fr143, fr144, fr145, fr146, fr147, fr148, fr149, fr150, fr151, fr152, fr153, fr154, fr155, fr156, fr157, fr158, fr159, fr160, fr161, fr162, fr163, fr164, fr165, fr166, fr167, fr168, fr169, fr170, fr171, fr172, fr173, fr174, fr175, fr176, fr177, fr178, fr179, fr180, fr181, fr182, fr183, fr184, fr185, fr186, fr187, fr188, fr189, fr190, fr191, fr192, fr193, fr194, fr195, fr196, fr197, fr198, fr199, fr200, fr201, fr202, fr203, fr204, fr205, fr206, fr207, fr208, fr209, fr210, fr211, fr212, fr213, fr214, fr215, fr216, fr217, fr218, fr219, fr220, fr221, fr222, fr223, fr224, fr225, fr226, fr227, fr228, fr229, fr230, fr231, fr232, fr233, fr234, fr235, fr236, fr237, fr238, fr239, fr240, fr241, fr242, fr243, fr244, fr245, fr246, fr247, fr248, fr249, fr250, fr251, fr252, fr253, fr254, fr255, fr256, fr257, fr258, fr259, fr260, fr261, fr262, fr263, fr264, fr265, fr266, fr267, fr268, fr269, fr270, fr271, fr272, fr273, fr274, fr275, fr276, fr277, fr278, fr279, fr280, fr281, fr282, fr283, fr284, fr285, fr286, fr287], defers := [] } wc0 := by
  dsimp only [dropC, Yba.f3, Option.getD_some]
  unfold lawPost
  have HMid := hide hM
  have HV := hide hv
  have b9 : wc0.cell? ⟨w.heap.size, 9, none⟩ = some (.bool pv) := (hM.box 9 (by decide)).1
  have b0 : wc0.cell? ⟨w.heap.size, 0, none⟩ = some (.int .u16 id) := (hM.box 0 (by decide)).1
  have hwr : w.heap.size < wc0.heap.size := by have := hM.size; omega
  have hmm := @run_makeMap Yba.prog
  clear hM hv
  go_upto_if 87 with fail
  go_cut [10] (fun s10 wx => ∃ r, s10 = .map r ∧ Hid (Below wc0.heap.size wc0 wx))
  case first =>
    cases pv with
    | false =>
      go_wp2_with fail
      go_meet
      exact ⟨none, rfl, Below.refl _ _⟩
    | true =>
      obtain ⟨w5, hins, _, hg5⟩ := (World.ownsMap_made (H := Unit) wc0 Yba.prog 22 (plainElem Yba.prog 4)).update law22 Yba.underlying34 (by decide) (keyOf_int_mk Yba.underlying22 hid) (plainElem_bool Yba.underlying4 true)
      have HG5 := hide hg5
      clear hg5
      go_wp2_with fail
      go_meet
      exact ⟨some wc0.heap.size, rfl, ((Below.refl _ wc0).alloc (Nat.le_refl _) _).grown HG5.out (by simp) (fun j e => by injection e; omega)⟩
  case rest =>
    obtain ⟨r, rfl, HBc⟩ := hcut
    have HM1 := hide (HMid.out.kept hH (HBc.out.mono HMid.out.size))
    have hsz := HMid.out.size
    have hwc : wc0.heap.size ≤ wc.heap.size := HBc.out.size
    clear b0 b9
    have b0 : wc.cell? ⟨w.heap.size, 0, none⟩ = some (.int .u16 id) := (HM1.out.box 0 (by decide)).1
    have b3 : wc.cell? ⟨w.heap.size, 3, none⟩ = some (.int .u64 term) := (HM1.out.box 3 (by decide)).1
    have b4 : wc.cell? ⟨w.heap.size, 4, none⟩ = some (.int .i64 nowO) := (HM1.out.box 4 (by decide)).1
    have b5 : wc.cell? ⟨w.heap.size, 5, none⟩ = some (.int .i64 campO) := (HM1.out.box 5 (by decide)).1
    have b6 : wc.cell? ⟨w.heap.size, 6, none⟩ = some (.int .i64 leaseO) := (HM1.out.box 6 (by decide)).1
    have b7 : wc.cell? ⟨w.heap.size, 7, none⟩ = some (.int .i64 hbO) := (HM1.out.box 7 (by decide)).1
    have b8 : wc.cell? ⟨w.heap.size, 8, none⟩ = some (.int .i64 ltO) := (HM1.out.box 8 (by decide)).1
    clear hmm
    go_upto_region 25 with (go_at_call 4; refine (clamp_any _ _).mono ?_; rintro e w3 ⟨rfl, h3⟩; have h4 := h3.symm; subst h4)
    clear b4 b5 b6 b7 b8
    obtain ⟨hb0, hb1⟩ := cl_bounds hbO
    obtain ⟨lt0, lt1⟩ := cl_bounds ltO
    obtain ⟨no0, no1⟩ := cl_bounds nowO
    obtain ⟨ca0, ca1⟩ := cl_bounds campO
    obtain ⟨le0, le1⟩ := cl_bounds leaseO
    generalize cl hbO = hb at *
    generalize cl ltO = lt at *
    generalize cl nowO = now at *
    generalize cl campO = camp at *
    generalize cl leaseO = lease at *
    have hwz : w.heap.size < wc.heap.size := by omega
    have hatc : Hid (∀ w, Calls Yba.prog 5 #[.int .i64 camp] w fun e w' => e = .returned (T camp) ∧ Below w.heap.size w w') := fun w => at_any camp (by omega) (by omega) w
    have hatl : Hid (∀ w, Calls Yba.prog 5 #[.int .i64 lease] w fun e w' => e = .returned (T lease) ∧ Below w.heap.size w w') := fun w => at_any lease (by omega) (by omega) w
    unfold T at hatc hatl
    go_cut [16] (fun s16 wx => ∃ nb, s16 = .pointer (some ⟨nb, 0, none⟩) ∧ wc.heap.size ≤ nb ∧ Hid (Below wc.heap.size wc wx ∧ Nd wx nb (fN id (w.heap.size + 1) m hb lt term r camp lease (H + 1))))
    case first =>
      go_region_held3 (fun w' => w'.cell? ⟨w.heap.size, 0, none⟩ = some (.int .u16 id) ∧ w'.cell? ⟨w.heap.size, 3, none⟩ = some (.int .u64 term)) (go_keep) ((first | (go_at_call_of 5 (Value.int .i64 camp); refine (hatc.out _).mono ?_; rintro e w3 ⟨rfl, hb3⟩; first | (have q0 := keepCell hb3 b0; have q3 := keepCell hb3 b3; have KB3 : Hid (Below wc.heap.size wc w3) := Below.undrew hb3) | (have q0 := keepCell hb3 r0; have q3 := keepCell hb3 r3; have KB3 : Hid (Below wc.heap.size wc w3) := RB4.out.trans (hb3.mono RB4.out.size)); clear hb3) | (go_at_call_of 5 (Value.int .i64 lease); refine (hatl.out _).mono ?_; rintro e w4 ⟨rfl, hb4⟩; first | (have r0 := keepCell hb4 b0; have r3 := keepCell hb4 b3; have RB4 : Hid (Below wc.heap.size wc w4) := Below.undrew hb4) | (have r0 := keepCell hb4 q0; have r3 := keepCell hb4 q3; have RB4 : Hid (Below wc.heap.size wc w4) := KB3.out.trans (hb4.mono KB3.out.size)); clear hb4)))
      all_goals
        go_wp2_with fail
        go_meet
        first
          | exact ⟨_, rfl, RB4.out.size, RB4.out.alloc RB4.out.size _, nd_new _ _ _ _ _ _ _ _ _ _ _⟩
          | exact ⟨_, rfl, KB3.out.size, KB3.out.alloc KB3.out.size _, nd_new _ _ _ _ _ _ _ _ _ _ _⟩
    case rest =>
      obtain ⟨nb, rfl, hnb, HNd⟩ := hcut
      refine ‹∀ (a : Act) (w' : World), Code.wp Yba.prog (dropC 17 (Yba.f3.body.getD .skip)) _ a w' → _› _ _ ?_
      exact seg17 (pcs := pc id am M Mc ao N Nc term nowO campO leaseO hbO ltO pv) (ao := ao) (Nc := Nc) rfl rfl rfl hm1 hN hmn hH (by omega) no0 no1 ca0 ca1 hb0 hb1 lt0 lt1 le0 le1 HV.out (HM1.out.kept hH (HNd.out.1.mono (by omega))) HNd.out.2
end Go.Proofs.Ybulkpec
