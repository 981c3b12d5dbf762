/- The law: what it wants of the lease. -/
import Derived.Test.YbulkpecSeg6
import Derived.Deep.DeepCutAuto
import Derived.BigQuiet
set_option linter.unusedVariables false
namespace Go.Proofs.Ybulkpec
attribute [local go_sem ↓] Go.wp_at_zero Go.wp_at_succ
open Go.RowKit Go.Maps Go.Sort

/-- What the law's own sort keeps. -/
structure Srt (w : World) (pcs : Nat → Value) (H m N : Nat) (mem : Nat → Int) (nb b0 B bw : Nat) (f : Nat → Value) (id term sent lease : Int) (d : Array Int) (wr : World) : Prop where
  base : Base w pcs m mem nb f b0 B (Lk mem id m) id term sent wr
  cells : Cells wr H N (fun j => .int .i64 d[j]!)
  want : Cells wr bw 3 (tf lease)
  lt : bw < wr.heap.size

theorem Srt.drewN {w : World} {pcs : Nat → Value} {H m N : Nat} {mem : Nat → Int} {nb b0 B bw : Nat} {f : Nat → Value} {id term sent lease : Int} {d : Array Int} {wr : World} (h : Srt w pcs H m N mem nb b0 B bw f id term sent lease d wr) (n : Nat) : Srt w pcs H m N mem nb b0 B bw f id term sent lease d (wr.drewN n) :=
  ⟨h.base.drewN n, h.cells.of_block rfl, h.want.of_block rfl, h.lt⟩

theorem Srt.swap {w : World} {pcs : Nat → Value} {H m N : Nat} {mem : Nat → Int} {nb b0 B bw : Nat} {f : Nat → Value} {id term sent lease : Int} {d : Array Int} {wr : World} (h : Srt w pcs H m N mem nb b0 B bw f id term sent lease d wr) (hH : w.heap.size + 2 ≤ H) (hHn : H + 2 ≤ nb) (hBw : B ≤ bw) (hd : d.size = N) (p : Nat) (hp : p + 1 < N) :
    Srt w pcs H m N mem nb b0 B bw f id term sent lease (swp d (p + 1) p) ((wr.setCell ⟨H, p + 1, none⟩ (.int .i64 d[p]!)).setCell ⟨H, p, none⟩ (.int .i64 d[p + 1]!)) := by
  have h3 := h.base.lt3
  refine ⟨(h.base.setFar _ _ (.inl ⟨hH, by show H < nb; omega⟩)).setFar _ _ (.inl ⟨hH, by show H < nb; omega⟩), ?_, ?_, by simpa using h.lt⟩
  · refine ((h.cells.setCell (p + 1) _).setCell p _).congr fun j hj => ?_
    by_cases e1 : j = p
    · subst e1
      rw [upd_same, swp_right _ _ _ (by omega)]
    · by_cases e2 : j = p + 1
      · subst e2
        rw [upd_other _ _ _ _ e1, upd_same, swp_left _ _ _ (by omega) (by omega)]
      · rw [upd_other _ _ _ _ e1, upd_other _ _ _ _ e2, swp_other _ _ _ _ e2 e1]
  · exact h.want.of_block ((Below.heap_setCell _ _ _ _ (by show bw ≠ H; omega)).trans (Below.heap_setCell _ _ _ _ (by show bw ≠ H; omega)))

set_option maxHeartbeats 4000000 in
set_option maxRecDepth 100000 in
theorem seg23 {fr0 fr7 fr8 fr9 fr10 fr17 fr20 fr21 fr22 fr23 fr24 fr25 fr26 fr27 fr28 fr29 fr30 fr31 fr32 fr33 fr34 fr35 fr36 fr37 fr38 fr39 fr40 fr41 fr42 fr43 fr44 fr45 fr46 fr47 fr48 fr49 fr50 fr51 fr52 fr53 fr54 fr55 fr56 fr57 fr58 fr59 fr60 fr61 fr62 fr63 fr64 fr65 fr66 fr67 fr68 fr69 fr70 fr71 fr72 fr73 fr74 fr75 fr76 fr77 fr78 fr79 fr80 fr81 fr82 fr83 fr84 fr85 fr86 fr87 fr88 fr89 fr90 fr91 fr92 fr93 fr94 fr95 fr96 fr97 fr98 fr99 fr100 fr101 fr102 fr103 fr104 fr105 fr106 fr107 fr108 fr109 fr110 fr111 fr112 fr113 fr114 fr115 fr116 fr117 fr118 fr119 fr120 fr121 fr122 fr123 fr124 fr125 fr126 fr127 fr128 fr129 fr130 fr131 fr132 fr133 fr134 fr135 fr136 fr137 fr138 fr139 fr140 fr141 fr142 fr143 fr144 fr145 fr146 fr147 fr148 fr149 fr150 fr151 fr152 fr153 fr154 fr155 fr156 fr157 fr158 fr159 fr160 fr161 fr162 fr163 fr164 fr165 fr166 fr167 fr168 fr169 fr170 fr171 fr172 fr173 fr174 fr175 fr176 fr177 fr178 fr179 fr180 fr181 fr182 fr183 fr184 fr185 fr186 fr187 fr188 fr189 fr190 fr191 fr192 fr193 fr194 fr195 fr196 fr197 fr198 fr199 fr200 fr201 fr202 fr203 fr204 fr205 fr206 fr207 fr208 fr209 fr210 fr211 fr212 fr213 fr214 fr215 fr216 fr217 fr218 fr219 fr220 fr221 fr222 fr223 fr224 fr225 fr226 fr227 fr228 fr229 fr230 fr231 fr232 fr233 fr234 fr235 fr236 fr237 fr238 fr239 fr240 fr241 fr242 fr243 fr244 fr245 fr246 fr247 fr248 fr249 fr250 fr251 fr252 fr253 fr254 fr255 fr256 fr257 fr258 fr259 fr260 fr261 fr262 fr263 fr264 fr265 fr266 fr267 fr268 fr269 fr270 fr271 fr272 fr273 fr274 fr275 fr276 fr277 fr278 fr279 fr280 fr281 fr282 fr283 fr284 fr285 fr286 fr287 : Value} {w wc : World} {pcs : Nat → Value} {H m N : Nat} {mem val g : Nat → Int} {nb b0 B bw : Nat} {f : Nat → Value} {id term hb lt now camp lease : Int} {r : Option Nat} {o : Int} (ho : o = (m : Int) / 2) (hm1 : m ≤ 1024) (hN : N ≤ 1024) (hmn : m / 2 ≤ N) (p0 : pcs 0 = .int .u16 id) (p3 : pcs 3 = .int .u64 term) (hw0 : -1099511627776 ≤ now) (hw1 : now ≤ 1099511627776) (hp0 : -1099511627776 ≤ camp) (hp1 : camp ≤ 1099511627776) (hh0 : -1099511627776 ≤ hb) (hh1 : hb ≤ 1099511627776) (hl0 : -1099511627776 ≤ lt) (hl1 : lt ≤ 1099511627776) (hv : ∀ i, i < N → -1099511627776 ≤ val i ∧ val i ≤ 1099511627776) (hg : ∀ i, i < N → g i = val i) (hH : w.heap.size + 2 ≤ H) (hHn : H + 2 ≤ nb) (hL : Led (fN id (w.heap.size + 1) m hb lt term r camp lease (H + 1)) H N m id term (now + hb) lt val f) (hB : Base w pcs m mem nb f b0 B (Lk mem id m) id term (now - camp) wc) (hC : Cells wc H N (fun i => .int .i64 (g i))) (hBw : B ≤ bw) (hbw : bw < wc.heap.size) (hW : Cells wc bw 3 (tf lease)) :
    Code.wp Yba.prog (dropC 23 (Yba.f3.body.getD .skip)) (lawPost w) { tmps := #[fr0, .pointer (some ⟨w.heap.size, 0, none⟩), .bool false, .int .i64 (m : Nat), .slice (some ⟨w.heap.size + 1, 0, none⟩) m m, .slice (some ⟨H, 0, none⟩) N N, .map (some (H + 1)), fr7, fr8, fr9, fr10, .int .i64 hb, .int .i64 lt, .int .i64 now, .int .i64 camp, .int .i64 lease, .pointer (some ⟨nb, 0, none⟩), fr17, .pointer (some ⟨bw, 0, none⟩), .int .i64 o, fr20, fr21, fr22, fr23, fr24, fr25, fr26, fr27, fr28, fr29, fr30, fr31, fr32, fr33, fr34, fr35, fr36, fr37, fr38, fr39, fr40, fr41, fr42, fr43, fr44, fr45, fr46, fr47, fr48, fr49, fr50, fr51, fr52, fr53, fr54, fr55, fr56, fr57, fr58, fr59, fr60, fr61, fr62, fr63, fr64, fr65, fr66, fr67, fr68, fr69, fr70, fr71, fr72, fr73, fr74, fr75, fr76, fr77, fr78, fr79, fr80, fr81, fr82, fr83, fr84, fr85, fr86, fr87, fr88, fr89, fr90, fr91, fr92, fr93, fr94, fr95, fr96, fr97, fr98, fr99, fr100, fr101, fr102, fr103, fr104, fr105, fr106, fr107, fr108, fr109, fr110, fr111, fr112, fr113, fr114, fr115, fr116, fr117, fr118, fr119, fr120, fr121, fr122, fr123, fr124, fr125, fr126, fr127, fr128, fr129, fr130, fr131, fr132, fr133, fr134, fr135, fr136, fr137, fr138, fr139, fr140, fr141, fr142, fr143, fr144, fr145, fr146, fr147, fr148, fr149, fr150, fr151, fr152, fr153, fr154, fr155, fr156, fr157, fr158, fr159, fr160, fr161, fr162, fr163, fr164, fr165, fr166, fr167, fr168, fr169, fr170, fr171, fr172, fr173, fr174, fr175, fr176, fr177, fr178, fr179, fr180, fr181, fr182, fr183, fr184, fr185, fr186, fr187, fr188, fr189, fr190, fr191, fr192, fr193, fr194, fr195, fr196, fr197, fr198, fr199, fr200, fr201, fr202, fr203, fr204, fr205, fr206, fr207, fr208, fr209, fr210, fr211, fr212, fr213, fr214, fr215, fr216, fr217, fr218, fr219, fr220, fr221, fr222, fr223, fr224, fr225, fr226, fr227, fr228, fr229, fr230, fr231, fr232, fr233, fr234, fr235, fr236, fr237, fr238, fr239, fr240, fr241, fr242, fr243, fr244, fr245, fr246, fr247, fr248, fr249, fr250, fr251, fr252, fr253, fr254, fr255, fr256, fr257, fr258, fr259, fr260, fr261, fr262, fr263, fr264, fr265, fr266, fr267, fr268, fr269, fr270, fr271, fr272, fr273, fr274, fr275, fr276, fr277, fr278, fr279, fr280, fr281, fr282, fr283, fr284, fr285, fr286, fr287], defers := [] } wc := by
  dsimp only [dropC, Yba.f3, Option.getD_some]
  unfold lawPost
  have HV := hide hv
  have HL := hide hL
  have HP0 := hide p0
  have HP3 := hide p3
  obtain ⟨d0, hd0⟩ : ∃ d0 : Array Int, d0 = ((List.range N).map val).toArray := ⟨_, rfl⟩
  have hds : d0.size = N := by rw [hd0]; simp
  have HS0 : Hid (Srt w pcs H m N mem nb b0 B bw f id term (now - camp) lease d0 wc) := ⟨hB, hC.congr (fun k hk => by rw [hg k hk, hd0]; simp [hk]), hW, hbw⟩
  have HD0 := hide hd0
  have HOO := hide ho
  clear hv hL p0 p3 hd0 hB hC hW hg ho
  go_upto_if 174 with fail
  go_cut [] (fun wx => ∃ c, f 18 = .int .u64 (wallOf c) ∧ f 19 = .int .i64 (extOf c) ∧ f 20 = .pointer none ∧ bw < wx.heap.size ∧ Hid (Base w pcs m mem nb f b0 B (Lk mem id m) id term (now - camp) wx ∧ Cells wx bw 3 (tf c)))
  case first =>
    by_cases hm0 : m / 2 = 0
    · have hmz : ¬ (0 : Int) < o := by have := HOO.out; omega
      go_wp2_with fail
      go_meet
      rcases HL.out.lease with ⟨_, a, b, c⟩ | ⟨h, _⟩
      · exact ⟨lease, a, b, c, HS0.out.lt, HS0.out.base, HS0.out.want⟩
      · omega
    · obtain ⟨q, hmq⟩ : ∃ q, m / 2 = q + 1 := ⟨m / 2 - 1, by omega⟩
      have hpos : (0 : Int) < o := by have := HOO.out; omega
      have ho1 : o - 1 = (q : Int) := by have := HOO.out; omega
      have hob : o ≤ 1024 := by have := HOO.out; omega
      have hqN : q < N := by omega
      have HMQ := hide hmq
      clear hmq hm0 hmn
      have hdec : decide ((0 : Int) < o) = true := by simpa using hpos
      simp only [hdec]
      clear hdec
      go_wp2_with fail
      go_loopw [20, 21, 22] (fun vi _ _ wr => ∃ (i : Nat) (d : Array Int), vi = .int .i64 i ∧ 0 < i ∧ i ≤ N + 1 ∧ d.size = N ∧ Hid (Srt w pcs H m N mem nb b0 B bw f id term (now - camp) lease d wr) ∧ Hid (insOuter gt 0 N i d = insOuter gt 0 N 1 d0)) (fun vi _ _ _ => N + 1 - (intOf vi).toNat)
      case atStart => exact ⟨1, d0, rfl, by omega, by omega, hds, HS0, rfl⟩
      case round =>
        obtain ⟨i, d, rfl, hi0, hi1, hd, HS, HO⟩ := hrel
        by_cases hiN : i < N
        · have hiz : (i : Int) < (N : Int) := by omega
          go_wp2_with fail
          go_loopw [21, 22] (fun vj _ wr2 => ∃ (j : Nat) (dj : Array Int), vj = .int .i64 j ∧ j ≤ i ∧ dj.size = N ∧ Hid (Srt w pcs H m N mem nb b0 B bw f id term (now - camp) lease dj wr2) ∧ Hid (insInner gt 0 j dj = insInner gt 0 i d)) (fun vj _ _ => (intOf vj).toNat)
          case atStart => exact ⟨i, d, rfl, Nat.le_refl _, hd, HS, rfl⟩
          case round =>
            obtain ⟨j, dj, rfl, hji, hdj, HSj, HI⟩ := hrel
            by_cases hj0 : j = 0
            · subst hj0
              go_wp2_with fail
              go_quiet (fail)
              go_wp2_with fail
              go_roundw
              case rel => exact ⟨i + 1, dj, by go_num, by omega, by omega, hdj, hide (HSj.out.drewN nq), by rw [← HO.out, insOuter_go _ _ _ _ _ hiN, ← HI.out, insInner_stop _ _ _ _ (.inl (by omega))]; exact rfl⟩
              case measure => simp [intOf]; omega
            · obtain ⟨p, rfl⟩ : ∃ p, j = p + 1 := ⟨j - 1, by omega⟩
              have a1 := (HSj.out.cells (p + 1) (by omega)).1
              have f1 := (HSj.out.cells (p + 1) (by omega)).2
              have a0 := (HSj.out.cells p (by omega)).1
              have f0 := (HSj.out.cells p (by omega)).2
              have hpos : (0 : Int) < (p : Int) + 1 := by omega
              have hpN : (p : Int) + 1 < (N : Int) := by omega
              have hpN2 : (p : Int) < (N : Int) := by omega
              have hpb : p ≤ 1024 := by omega
              have HSW := hide (HSj.out.swap hH hHn hBw hdj p (by omega))
              cases hlv : gt dj[p + 1]! dj[p]! with
              | true =>
                have hlt : dj[p]! < dj[p + 1]! := by simpa [gt] using hlv
                have HLV := hide hlv
                clear hlv
                generalize hX : dj[p + 1]! = X at *
                generalize hY : dj[p]! = Y at *
                go_wp2_with fail
                go_quiet (fail)
                go_wp2_with fail
                go_roundw
                case rel => exact ⟨p, swp dj (p + 1) p, by go_num, by omega, by rw [size_swp]; exact hdj, hide (HSW.out.drewN nq), by rw [← HI.out, insInner_go gt 0 (p + 1) dj (by omega) (by simpa [hX, hY] using HLV.out)]; exact rfl⟩
                case measure => simp [intOf]
              | false =>
                have hlt : ¬ dj[p]! < dj[p + 1]! := by simpa [gt] using hlv
                have HLV := hide hlv
                clear hlv
                generalize hX : dj[p + 1]! = X at *
                generalize hY : dj[p]! = Y at *
                go_wp2_with fail
                go_quiet (fail)
                go_wp2_with fail
                go_roundw
                case rel => exact ⟨i + 1, dj, by go_num, by omega, by omega, hdj, hide (HSj.out.drewN nq), by rw [← HO.out, insOuter_go _ _ _ _ _ hiN, ← HI.out, insInner_stop _ _ _ _ (.inr (by simpa [hX, hY] using HLV.out))]; exact rfl⟩
                case measure => simp [intOf]; omega
        · have hsrt := insertionSort_holds (lt := gt) swo_gt d0 0 N (by omega) (by omega)
          have hdd : insertionSort gt d0 0 N = d := by unfold insertionSort; rw [← HO.out, insOuter_stop _ _ _ _ _ hiN]
          rw [hdd] at hsrt
          have aq : wr.cell? ⟨H, q, none⟩ = some (.int .i64 d[q]!) := (HS.out.cells q hqN).1
          have hqz : (q : Int) < (N : Int) := by omega
          have hniz : ¬ (i : Int) < (N : Int) := by omega
          have hget : d[q]! = d.toList[q]! := by
            rw [getElem!_pos d q (by omega), getElem!_pos d.toList q (by simpa using (by omega))]
            simp
          have hpp : d.toList.Perm ((List.range N).map val) := by
            have h1 := hsrt.1.2.2
            have e1 : d.extract 0 N = d := by rw [← hd]; simp
            have e2 : d0.extract 0 N = d0 := by rw [← hds]; simp
            rw [e1, e2, HD0.out] at h1
            simpa using h1
          have hbd : -1099511627776 ≤ d[q]! ∧ d[q]! ≤ 1099511627776 := by
            have hm : d[q]! ∈ (List.range N).map val := by
              rw [hget]
              refine hpp.mem_iff.1 ?_
              rw [getElem!_pos d.toList q (by simpa using (by omega))]
              exact List.getElem_mem _
            obtain ⟨i, hi, e⟩ := List.mem_map.1 hm
            rw [← e]
            exact HV.out i (List.mem_range.1 hi)
          have hlease : f 18 = .int .u64 (wallOf (d[q]! + (lt - lt.tdiv 100))) ∧ f 19 = .int .i64 (extOf (d[q]! + (lt - lt.tdiv 100))) ∧ f 20 = .pointer none := by
            rcases HL.out.lease with ⟨h0, _⟩ | ⟨_, d', p1, p2, e18, e19, e20⟩
            · have := HMQ.out; omega
            have ed : d' = d.toList := perm_falling_eq _ _ (p1.trans hpp.symm) p2 (falling_of_sorted d N hd hsrt.2)
            rw [HMQ.out, show q + 1 - 1 = q from rfl, ed, ← hget] at e18 e19
            exact ⟨e18, e19, e20⟩
          have HLE := hide hlease
          obtain ⟨hb0, hb1⟩ := hbd
          clear hlease hsrt hdd hget hpp
          generalize d[q]! = Z at *
          have hd2 : -10995116278 ≤ lt.tdiv 100 ∧ lt.tdiv 100 ≤ 10995116278 := by
            have h1 := Int.mul_tdiv_add_tmod lt 100
            have h2 := Int.tmod_lt_of_pos lt (show (0:Int) < 100 by decide)
            have h4 := Int.tmod_lt_of_pos (-lt) (show (0:Int) < 100 by decide)
            rw [Int.neg_tmod] at h4
            omega
          obtain ⟨ht0, ht1⟩ := hd2
          generalize hq : lt.tdiv 100 = tq at *
          have hat : Hid (∀ w, Calls Yba.prog 5 #[.int .i64 Z] w fun e w' => e = .returned (T Z) ∧ Below w.heap.size w w') := fun w => at_any Z (by omega) (by omega) w
          have hadd : Hid (∀ w, Calls Yba.prog 7 #[T Z, .int .i64 (lt - tq)] w fun e w' => e = .returned (T (Z + (lt - tq))) ∧ Below w.heap.size w w') := fun w => add_any Z (lt - tq) (by omega) (by omega) (by omega) (by omega) w
          unfold T at hat hadd
          go_wp2_with (first | (go_at_call 5; refine (hat.out _).mono ?_; rintro e w3 ⟨rfl, hb3⟩; have HB3 := hide hb3; clear hb3) | (go_at_call 7; refine (hadd.out _).mono ?_; rintro e w4 ⟨rfl, hb4⟩; have y0 := (((HS.out.want).of_block ((hb4.block bw (Nat.lt_of_lt_of_le HS.out.lt HB3.out.size)).trans (HB3.out.block bw HS.out.lt))) 0 (by decide)); have y1 := (((HS.out.want).of_block ((hb4.block bw (Nat.lt_of_lt_of_le HS.out.lt HB3.out.size)).trans (HB3.out.block bw HS.out.lt))) 1 (by decide)); have y2 := (((HS.out.want).of_block ((hb4.block bw (Nat.lt_of_lt_of_le HS.out.lt HB3.out.size)).trans (HB3.out.block bw HS.out.lt))) 2 (by decide)); obtain ⟨x0, f0⟩ := y0; obtain ⟨x1, f1⟩ := y1; obtain ⟨x2, f2⟩ := y2; have HB4 := hide hb4; clear hb4))
          go_meet
          refine ⟨_, HLE.out.1, HLE.out.2.1, HLE.out.2.2, ?_, ?_⟩
          · have h1 := HS.out.lt
            have h2 := HB3.out.size
            have h3 := HB4.out.size
            simp
            omega
          · have hbase := (HS.out.base.below' HB3.out).below' HB4.out
            refine ⟨((hbase.setFar _ _ (.inr hBw)).setFar _ _ (.inr hBw)).setFar _ _ (.inr hBw), ?_⟩
            have hw : Cells w4 bw 3 (tf lease) := (HS.out.want).of_block ((HB4.out.block bw (Nat.lt_of_lt_of_le HS.out.lt HB3.out.size)).trans (HB3.out.block bw HS.out.lt))
            refine (((hw.setCell 0 _).setCell 1 _).setCell 2 _).congr fun k hk => ?_
            match k, hk with
            | 0, _ => rfl
            | 1, _ => rfl
            | 2, _ => rfl
  case rest =>
    obtain ⟨c, e18, e19, e20, hbx, HX⟩ := hcut
    refine ‹∀ (a : Act) (w' : World), Code.wp Yba.prog (dropC 24 (Yba.f3.body.getD .skip)) _ a w' → _› _ _ ?_
    exact seg24 hm1 HP0.out HP3.out hw0 hw1 hp0 hp1 hh0 hh1 e18 e19 e20 HL.out.e9 HL.out.e10 HL.out.e11 HX.out.1 hbx HX.out.2
end Go.Proofs.Ybulkpec
