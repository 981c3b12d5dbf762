/- The law: the lease and the deadline. -/
import Derived.Test.YbulkpecSeg7
import Derived.Deep.DeepCutAuto
import Derived.BigQuiet
set_option linter.unusedVariables false
namespace Go.Proofs.Ybulkpec
attribute [local go_sem ↓] Go.wp_at_zero Go.wp_at_succ
open Go.RowKit Go.Maps

set_option maxHeartbeats 4000000 in
set_option maxRecDepth 100000 in
theorem seg24 {fr0 fr7 fr8 fr9 fr10 fr17 fr19 fr20 fr21 fr22 fr23 fr24 fr25 fr26 fr27 fr28 fr29 fr30 fr31 fr32 fr33 fr34 fr35 fr36 fr37 fr38 fr39 fr40 fr41 fr42 fr43 fr44 fr45 fr46 fr47 fr48 fr49 fr50 fr51 fr52 fr53 fr54 fr55 fr56 fr57 fr58 fr59 fr60 fr61 fr62 fr63 fr64 fr65 fr66 fr67 fr68 fr69 fr70 fr71 fr72 fr73 fr74 fr75 fr76 fr77 fr78 fr79 fr80 fr81 fr82 fr83 fr84 fr85 fr86 fr87 fr88 fr89 fr90 fr91 fr92 fr93 fr94 fr95 fr96 fr97 fr98 fr99 fr100 fr101 fr102 fr103 fr104 fr105 fr106 fr107 fr108 fr109 fr110 fr111 fr112 fr113 fr114 fr115 fr116 fr117 fr118 fr119 fr120 fr121 fr122 fr123 fr124 fr125 fr126 fr127 fr128 fr129 fr130 fr131 fr132 fr133 fr134 fr135 fr136 fr137 fr138 fr139 fr140 fr141 fr142 fr143 fr144 fr145 fr146 fr147 fr148 fr149 fr150 fr151 fr152 fr153 fr154 fr155 fr156 fr157 fr158 fr159 fr160 fr161 fr162 fr163 fr164 fr165 fr166 fr167 fr168 fr169 fr170 fr171 fr172 fr173 fr174 fr175 fr176 fr177 fr178 fr179 fr180 fr181 fr182 fr183 fr184 fr185 fr186 fr187 fr188 fr189 fr190 fr191 fr192 fr193 fr194 fr195 fr196 fr197 fr198 fr199 fr200 fr201 fr202 fr203 fr204 fr205 fr206 fr207 fr208 fr209 fr210 fr211 fr212 fr213 fr214 fr215 fr216 fr217 fr218 fr219 fr220 fr221 fr222 fr223 fr224 fr225 fr226 fr227 fr228 fr229 fr230 fr231 fr232 fr233 fr234 fr235 fr236 fr237 fr238 fr239 fr240 fr241 fr242 fr243 fr244 fr245 fr246 fr247 fr248 fr249 fr250 fr251 fr252 fr253 fr254 fr255 fr256 fr257 fr258 fr259 fr260 fr261 fr262 fr263 fr264 fr265 fr266 fr267 fr268 fr269 fr270 fr271 fr272 fr273 fr274 fr275 fr276 fr277 fr278 fr279 fr280 fr281 fr282 fr283 fr284 fr285 fr286 fr287 : Value} {w wc : World} {pcs : Nat → Value} {H m N : Nat} {mem : Nat → Int} {nb b0 B bw : Nat} {f : Nat → Value} {id term hb lt now camp lease c : Int} (hm1 : m ≤ 1024) (p0 : pcs 0 = .int .u16 id) (p3 : pcs 3 = .int .u64 term) (hw0 : -1099511627776 ≤ now) (hw1 : now ≤ 1099511627776) (hp0 : -1099511627776 ≤ camp) (hp1 : camp ≤ 1099511627776) (hh0 : -1099511627776 ≤ hb) (hh1 : hb ≤ 1099511627776) (e18 : f 18 = .int .u64 (wallOf c)) (e19 : f 19 = .int .i64 (extOf c)) (e20 : f 20 = .pointer none) (e9 : f 9 = .int .u64 (wallOf (now + hb))) (e10 : f 10 = .int .i64 (extOf (now + hb))) (e11 : f 11 = .pointer none) (hB : Base w pcs m mem nb f b0 B (Lk mem id m) id term (now - camp) wc) (hbw : bw < wc.heap.size) (hW : Cells wc bw 3 (tf c)) :
    Code.wp Yba.prog (dropC 24 (Yba.f3.body.getD .skip)) (lawPost w) { tmps := #[fr0, .pointer (some ⟨w.heap.size, 0, none⟩), .bool false, .int .i64 (m : Nat), .slice (some ⟨w.heap.size + 1, 0, none⟩) m m, .slice (some ⟨H, 0, none⟩) N N, .map (some (H + 1)), fr7, fr8, fr9, fr10, .int .i64 hb, .int .i64 lt, .int .i64 now, .int .i64 camp, .int .i64 lease, .pointer (some ⟨nb, 0, none⟩), fr17, .pointer (some ⟨bw, 0, none⟩), fr19, fr20, fr21, fr22, fr23, fr24, fr25, fr26, fr27, fr28, fr29, fr30, fr31, fr32, fr33, fr34, fr35, fr36, fr37, fr38, fr39, fr40, fr41, fr42, fr43, fr44, fr45, fr46, fr47, fr48, fr49, fr50, fr51, fr52, fr53, fr54, fr55, fr56, fr57, fr58, fr59, fr60, fr61, fr62, fr63, fr64, fr65, fr66, fr67, fr68, fr69, fr70, fr71, fr72, fr73, fr74, fr75, fr76, fr77, fr78, fr79, fr80, fr81, fr82, fr83, fr84, fr85, fr86, fr87, fr88, fr89, fr90, fr91, fr92, fr93, fr94, fr95, fr96, fr97, fr98, fr99, fr100, fr101, fr102, fr103, fr104, fr105, fr106, fr107, fr108, fr109, fr110, fr111, fr112, fr113, fr114, fr115, fr116, fr117, fr118, fr119, fr120, fr121, fr122, fr123, fr124, fr125, fr126, fr127, fr128, fr129, fr130, fr131, fr132, fr133, fr134, fr135, fr136, fr137, fr138, fr139, fr140, fr141, fr142, fr143, fr144, fr145, fr146, fr147, fr148, fr149, fr150, fr151, fr152, fr153, fr154, fr155, fr156, fr157, fr158, fr159, fr160, fr161, fr162, fr163, fr164, fr165, fr166, fr167, fr168, fr169, fr170, fr171, fr172, fr173, fr174, fr175, fr176, fr177, fr178, fr179, fr180, fr181, fr182, fr183, fr184, fr185, fr186, fr187, fr188, fr189, fr190, fr191, fr192, fr193, fr194, fr195, fr196, fr197, fr198, fr199, fr200, fr201, fr202, fr203, fr204, fr205, fr206, fr207, fr208, fr209, fr210, fr211, fr212, fr213, fr214, fr215, fr216, fr217, fr218, fr219, fr220, fr221, fr222, fr223, fr224, fr225, fr226, fr227, fr228, fr229, fr230, fr231, fr232, fr233, fr234, fr235, fr236, fr237, fr238, fr239, fr240, fr241, fr242, fr243, fr244, fr245, fr246, fr247, fr248, fr249, fr250, fr251, fr252, fr253, fr254, fr255, fr256, fr257, fr258, fr259, fr260, fr261, fr262, fr263, fr264, fr265, fr266, fr267, fr268, fr269, fr270, fr271, fr272, fr273, fr274, fr275, fr276, fr277, fr278, fr279, fr280, fr281, fr282, fr283, fr284, fr285, fr286, fr287], defers := [] } wc := by
  dsimp only [dropC, Yba.f3, Option.getD_some]
  unfold lawPost
  have HB := hide hB
  have c18 := (hB.nd 18 (by decide)).1
  have c19 := (hB.nd 19 (by decide)).1
  have c20 := (hB.nd 20 (by decide)).1
  rw [e18] at c18; rw [e19] at c19; rw [e20] at c20
  have w0 : wc.cell? ⟨bw, 0, none⟩ = some (.int .u64 (wallOf c)) := (hW 0 (by decide)).1
  have w1 : wc.cell? ⟨bw, 1, none⟩ = some (.int .i64 (extOf c)) := (hW 1 (by decide)).1
  have w2 : wc.cell? ⟨bw, 2, none⟩ = some (.pointer none) := (hW 2 (by decide)).1
  have heq1 : Hid (∀ w, Calls Yba.prog 8 #[T c, T c] w fun e w' => e = .returned (.bool true) ∧ Below w.heap.size w w') := fun w => by have := equal_any c c w; simpa using this
  have heq2 : Hid (∀ w, Calls Yba.prog 8 #[T (now + hb), T (now + hb)] w fun e w' => e = .returned (.bool true) ∧ Below w.heap.size w w') := fun w => by have := equal_any (now + hb) (now + hb) w; simpa using this
  have hat : Hid (∀ w, Calls Yba.prog 5 #[.int .i64 (now + hb)] w fun e w' => e = .returned (T (now + hb)) ∧ Below w.heap.size w w') := fun w => at_any (now + hb) (by omega) (by omega) w
  have hw9 : IntKind.i64.wrap (now + hb) = now + hb := by simp [IntKind.wrap, IntKind.bits, IntKind.signed]; omega
  have E9 := hide e9
  have E10 := hide e10
  have E11 := hide e11
  have HP0 := hide p0
  have HP3 := hide p3
  clear hB hW e18 e19 e20 e9 e10 e11 p0 p3
  unfold T at *
  generalize wallOf c = x at *
  generalize extOf c = y at *
  generalize wallOf (now + hb) = x2 at *
  generalize extOf (now + hb) = y2 at *
  go_upto_region 45 with fail
  go_region_held3 (fun w' => w'.cell? ⟨nb, 18, none⟩ = some (.int .u64 x) ∧ w'.cell? ⟨nb, 19, none⟩ = some (.int .i64 y) ∧ w'.cell? ⟨nb, 20, none⟩ = some (.pointer none) ∧ w'.cell? ⟨bw, 0, none⟩ = some (.int .u64 x) ∧ w'.cell? ⟨bw, 1, none⟩ = some (.int .i64 y) ∧ w'.cell? ⟨bw, 2, none⟩ = some (.pointer none)) (go_keep) ((go_at_call 8; refine (heq1.out _).mono ?_; rintro e w5 ⟨rfl, hb5⟩; have g0 := keepCell hb5 c18; have g1 := keepCell hb5 c19; have g2 := keepCell hb5 c20; have g3 := keepCell hb5 w0; have g4 := keepCell hb5 w1; have g5 := keepCell hb5 w2; have HB5 := hide ((HB.out.drew).below' hb5); clear hb5))
  go_upto_region 47 with fail
  clear c18 c19 c20 w0 w1 w2 g0 g1 g2 g3 g4 g5
  have c9 := (HB5.out.nd 9 (by decide)).1
  have c10 := (HB5.out.nd 10 (by decide)).1
  have c11 := (HB5.out.nd 11 (by decide)).1
  rw [E9.out] at c9; rw [E10.out] at c10; rw [E11.out] at c11
  go_region_held3 (fun w' => w'.cell? ⟨nb, 9, none⟩ = some (.int .u64 x2) ∧ w'.cell? ⟨nb, 10, none⟩ = some (.int .i64 y2) ∧ w'.cell? ⟨nb, 11, none⟩ = some (.pointer none)) (go_keep) ((first | (go_at_call 5; refine (hat.out _).mono ?_; rintro e w6 ⟨rfl, hb6⟩; have g0 := keepCell hb6 c9; have g1 := keepCell hb6 c10; have g2 := keepCell hb6 c11; have HB6 := hide ((HB5.out.drew).below' hb6); clear hb6) | (go_at_call 8; refine (heq2.out _).mono ?_; rintro e w7 ⟨rfl, hb7⟩; have j0 := keepCell hb7 g0; have j1 := keepCell hb7 g1; have j2 := keepCell hb7 g2; have HB7 := hide ((HB6.out).below' hb7); clear hb7)))
  go_upto_region 49 with fail
  go_cut [23] (fun s23 wx => s23 = .int .i64 0 ∧ Hid (Base w pcs m mem nb f b0 B (Lk mem id m) id term (now - camp) wx))
  case first =>
    go_wp2_with fail
    go_meet
    exact ⟨rfl, HB7⟩
  case rest =>
    obtain ⟨rfl, HBx⟩ := hcut
    refine ‹∀ (a : Act) (w' : World), Code.wp Yba.prog (dropC 27 (Yba.f3.body.getD .skip)) _ a w' → _› _ _ ?_
    exact seg27 hm1 HP0.out HP3.out hw0 hw1 hp0 hp1 HBx.out
end Go.Proofs.Ybulkpec
