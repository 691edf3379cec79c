import Derived.Test.YbulkdbksPc
import Derived.Deep.RegionHeld3
namespace Go.Proofs.Ybulkdbks
open Go Go.RowKit

set_option maxHeartbeats 8000000 in
set_option maxRecDepth 1000000 in
theorem ck_any {w : World} {κ : Nat → Nat} {nb mb N : Nat} {K F : Int} {L : List Ent} {mv : Value} (I : Inv w κ nb mb (N : Int) K F L) (hM : MR w mv L) (hl : L.length ≤ 900) (hh : heldOf L ≤ 90000) (t0 t1 t2 t3 t4 t5 t6 t7 t8 t9 t13 t14 t15 t16 t17 t18 t19 t20 t21 t22 t23 t24 t25 t26 t27 t28 t29 t30 t31 t32 t33 t34 t35 t36 t37 t38 t39 t40 t41 t42 t43 t44 t45 t46 t47 t48 t49 t50 t51 t52 t53 t54 t55 t56 t57 t58 t59 t60 t61 t62 t63 t64 t65 t66 t67 t68 t69 t70 t71 t72 t73 t74 t75 t76 t77 t78 t79 t80 t81 t82 t83 t84 t85 t86 t87 t88 t89 t90 t91 t92 t93 t94 t95 t96 t97 t98 t99 t100 t101 t102 t103 t104 t105 t106 t107 t108 t109 t110 t111 t112 t113 t114 t115 t116 t117 t118 t119 t120 t121 t122 t123 t124 t125 t126 t127 t128 t129 t130 t131 t132 t133 t134 t135 t136 t137 t138 t139 t140 t141 t142 t143 t144 t145 t146 t147 t148 t149 t150 t151 t152 t153 t154 t155 t156 t157 t158 t159 t160 t161 t162 t163 t164 t165 t166 t167 t168 t169 t170 t171 t172 t173 t174 t175 t176 t177 t178 t179 t180 t181 t182 t183 t184 t185 t186 t187 t188 t189 t190 t191 t192 t193 t194 t195 t196 t197 t198 t199 t200 t201 t202 t203 t204 t205 t206 t207 t208 t209 t210 t211 t212 t213 t214 t215 t216 t217 t218 t219 t220 t221 t222 t223 t224 t225 t226 t227 t228 t229 t230 t231 t232 t233 t234 t235 t236 t237 t238 t239 t240 t241 t242 t243 t244 t245 t246 t247 t248 t249 t250 t251 t252 t253 t254 t255 t256 t257 t258 t259 t260 t261 t262 t263 t264 t265 t266 t267 t268 t269 t270 t271 t272 t273 t274 t275 t276 t277 t278 t279 t280 t281 t282 t283 t284 t285 t286 t287 t288 t289 t290 t291 t292 t293 t294 t295 t296 t297 t298 t299 t300 t301 t302 t303 t304 t305 t306 t307 t308 t309 t310 t311 t312 t313 t314 t315 t316 t317 t318 t319 t320 t321 t322 t323 t324 t325 t326 t327 t328 t329 t330 t331 t332 t333 t334 t335 t336 t337 t338 t339 t340 t341 t342 t343 t344 t345 t346 t347 t348 t349 t350 t351 t352 t353 t354 t355 t356 t357 t358 t359 t360 t361 t362 t363 t364 t365 t366 t367 t368 t369 t370 t371 t372 t373 t374 t375 t376 t377 t378 t379 t380 t381 t382 t383 t384 t385 t386 t387 t388 t389 t390 t391 t392 t393 t394 t395 t396 t397 t398 t399 t400 t401 t402 t403 t404 t405 t406 t407 t408 t409 t410 t411 t412 t413 t414 t415 t416 t417 t418 : Value) (Q : Exit → Act → World → Prop)
    (hQ : ∀ (u8 u32 u33 u34 u35 u314 u315 u316 u317 u318 u319 u320 u321 u322 u323 u324 u325 u326 u327 u328 u329 u330 u331 u332 u333 u334 u335 u336 u337 u338 u339 u340 u341 u342 u343 u344 u345 u346 u347 u348 u349 u350 u351 u352 u353 u354 u355 u356 u357 u358 u359 u360 u361 u362 u363 u364 u365 u366 u367 u368 u369 u370 u371 u372 u373 u374 u375 u376 u377 u378 u379 u380 u381 u382 u383 u384 u385 u386 u387 u388 u389 u390 u391 u392 u393 u394 u395 u396 u397 u398 u399 u400 u401 u402 u403 u404 u405 u406 u407 u408 u409 u410 u411 u412 u413 u414 u415 u416 u417 : Value) (w' : World), w.grownBy w' none → Q .normal ⟨#[t0, t1, t2, t3, t4, t5, t6, t7, u8, t9, (ptr nb 0), mv, (.int .i64 (heldOf L : Nat)), t13, t14, t15, t16, t17, t18, t19, t20, t21, t22, t23, t24, t25, t26, t27, t28, t29, t30, t31, u32, u33, u34, u35, t36, t37, t38, t39, t40, t41, t42, t43, t44, t45, t46, t47, t48, t49, t50, t51, t52, t53, t54, t55, t56, t57, t58, t59, t60, t61, t62, t63, t64, t65, t66, t67, t68, t69, t70, t71, t72, t73, t74, t75, t76, t77, t78, t79, t80, t81, t82, t83, t84, t85, t86, t87, t88, t89, t90, t91, t92, t93, t94, t95, t96, t97, t98, t99, t100, t101, t102, t103, t104, t105, t106, t107, t108, t109, t110, t111, t112, t113, t114, t115, t116, t117, t118, t119, t120, t121, t122, t123, t124, t125, t126, t127, t128, t129, t130, t131, t132, t133, t134, t135, t136, t137, t138, t139, t140, t141, t142, t143, t144, t145, t146, t147, t148, t149, t150, t151, t152, t153, t154, t155, t156, t157, t158, t159, t160, t161, t162, t163, t164, t165, t166, t167, t168, t169, t170, t171, t172, t173, t174, t175, t176, t177, t178, t179, t180, t181, t182, t183, t184, t185, t186, t187, t188, t189, t190, t191, t192, t193, t194, t195, t196, t197, t198, t199, t200, t201, t202, t203, t204, t205, t206, t207, t208, t209, t210, t211, t212, t213, t214, t215, t216, t217, t218, t219, t220, t221, t222, t223, t224, t225, t226, t227, t228, t229, t230, t231, t232, t233, t234, t235, t236, t237, t238, t239, t240, t241, t242, t243, t244, t245, t246, t247, t248, t249, t250, t251, t252, t253, t254, t255, t256, t257, t258, t259, t260, t261, t262, t263, t264, t265, t266, t267, t268, t269, t270, t271, t272, t273, t274, t275, t276, t277, t278, t279, t280, t281, t282, t283, t284, t285, t286, t287, t288, t289, t290, t291, t292, t293, t294, t295, t296, t297, t298, t299, t300, t301, t302, t303, t304, t305, t306, t307, t308, t309, t310, t311, t312, t313, u314, u315, u316, u317, u318, u319, u320, u321, u322, u323, u324, u325, u326, u327, u328, u329, u330, u331, u332, u333, u334, u335, u336, u337, u338, u339, u340, u341, u342, u343, u344, u345, u346, u347, u348, u349, u350, u351, u352, u353, u354, u355, u356, u357, u358, u359, u360, u361, u362, u363, u364, u365, u366, u367, u368, u369, u370, u371, u372, u373, u374, u375, u376, u377, u378, u379, u380, u381, u382, u383, u384, u385, u386, u387, u388, u389, u390, u391, u392, u393, u394, u395, u396, u397, u398, u399, u400, u401, u402, u403, u404, u405, u406, u407, u408, u409, u410, u411, u412, u413, u414, u415, u416, u417, t418], []⟩ w') :
    Code.wp Yba.prog pCk Q ⟨#[t0, t1, t2, t3, t4, t5, t6, t7, t8, t9, (ptr nb 0), mv, (.int .i64 (heldOf L : Nat)), t13, t14, t15, t16, t17, t18, t19, t20, t21, t22, t23, t24, t25, t26, t27, t28, t29, t30, t31, t32, t33, t34, t35, t36, t37, t38, t39, t40, t41, t42, t43, t44, t45, t46, t47, t48, t49, t50, t51, t52, t53, t54, t55, t56, t57, t58, t59, t60, t61, t62, t63, t64, t65, t66, t67, t68, t69, t70, t71, t72, t73, t74, t75, t76, t77, t78, t79, t80, t81, t82, t83, t84, t85, t86, t87, t88, t89, t90, t91, t92, t93, t94, t95, t96, t97, t98, t99, t100, t101, t102, t103, t104, t105, t106, t107, t108, t109, t110, t111, t112, t113, t114, t115, t116, t117, t118, t119, t120, t121, t122, t123, t124, t125, t126, t127, t128, t129, t130, t131, t132, t133, t134, t135, t136, t137, t138, t139, t140, t141, t142, t143, t144, t145, t146, t147, t148, t149, t150, t151, t152, t153, t154, t155, t156, t157, t158, t159, t160, t161, t162, t163, t164, t165, t166, t167, t168, t169, t170, t171, t172, t173, t174, t175, t176, t177, t178, t179, t180, t181, t182, t183, t184, t185, t186, t187, t188, t189, t190, t191, t192, t193, t194, t195, t196, t197, t198, t199, t200, t201, t202, t203, t204, t205, t206, t207, t208, t209, t210, t211, t212, t213, t214, t215, t216, t217, t218, t219, t220, t221, t222, t223, t224, t225, t226, t227, t228, t229, t230, t231, t232, t233, t234, t235, t236, t237, t238, t239, t240, t241, t242, t243, t244, t245, t246, t247, t248, t249, t250, t251, t252, t253, t254, t255, t256, t257, t258, t259, t260, t261, t262, t263, t264, t265, t266, t267, t268, t269, t270, t271, t272, t273, t274, t275, t276, t277, t278, t279, t280, t281, t282, t283, t284, t285, t286, t287, t288, t289, t290, t291, t292, t293, t294, t295, t296, t297, t298, t299, t300, t301, t302, t303, t304, t305, t306, t307, t308, t309, t310, t311, t312, t313, t314, t315, t316, t317, t318, t319, t320, t321, t322, t323, t324, t325, t326, t327, t328, t329, t330, t331, t332, t333, t334, t335, t336, t337, t338, t339, t340, t341, t342, t343, t344, t345, t346, t347, t348, t349, t350, t351, t352, t353, t354, t355, t356, t357, t358, t359, t360, t361, t362, t363, t364, t365, t366, t367, t368, t369, t370, t371, t372, t373, t374, t375, t376, t377, t378, t379, t380, t381, t382, t383, t384, t385, t386, t387, t388, t389, t390, t391, t392, t393, t394, t395, t396, t397, t398, t399, t400, t401, t402, t403, t404, t405, t406, t407, t408, t409, t410, t411, t412, t413, t414, t415, t416, t417, t418], []⟩ w := by
  have HQ : Hid _ := hQ
  clear hQ
  obtain ⟨D, hD, hMap⟩ := I.map
  have hml : ∀ ty, (Builtin.len_ #[67] ty #[.map (some mb)]).run Yba.prog w = .ok (.int .i64 (L.length : Nat)) w := fun ty => by rw [← hMap.size]; exact hD.len Yba.underlying67 ty
  have HLen : Hid (Calls Yba.prog 22 #[ptr nb 117] w fun e w' => e = .returned (.int .i64 (L.length : Nat)) ∧ w' = w) := len_any nb 117 _ w I.cl
  have HFr : Hid (Calls Yba.prog 23 #[ptr nb 117] w fun r w' => r = .returned (elP L 0) ∧ w' = w) := front_el I
  have c115 := I.ch
  have c116 := I.cm
  have HI : Hid (∀ wr : World, w.grownBy wr none → Inv wr κ nb mb (N : Int) K F L) := fun wr g => I.grow g.size (fun _ _ _ => rfl) (fun b hb _ => g.block b hb (by simp))
  obtain ⟨ao, cap, rfl, HM⟩ : ∃ ao cap, mv = .slice ao L.length cap ∧ Hid (∀ wr : World, w.grownBy wr none → ∀ q (hq : q < L.length), ∃ g, ao = some ⟨g, 0, none⟩ ∧ wr.cell? ⟨g, q * 4, none⟩ = some (.string L[q].key) ∧ wr.cell? ⟨g, q * 4 + 1, none⟩ = some (.int .i64 L[q].m) ∧ wr.cell? ⟨g, q * 4 + 2, none⟩ = some (.bool L[q].come) ∧ wr.cell? ⟨g, q * 4 + 3, none⟩ = some (.int .i64 L[q].since)) := by
    rcases hM with ⟨rfl, rfl⟩ | ⟨g, cap, rfl, hM⟩
    · exact ⟨none, 0, rfl, fun _ _ q hq => by cases hq⟩
    · refine ⟨_, _, rfl, fun wr gr q hq => ⟨g, rfl, ?_⟩⟩
      have e1 : L = L.take q ++ L[q] :: L.drop (q + 1) := by rw [List.getElem_cons_drop hq, List.take_append_drop]
      have ca : ∀ i, i < 4 → ∀ v, (rc L[q])[i]? = some v → wr.cell? ⟨g, q * 4 + i, none⟩ = some v := fun i hi v hv => by
        refine cell_grown ((hM.cellAt _ (by omega)).trans ?_) gr
        have := rows_at (L.take q) (L.drop (q + 1)) L[q] i hi
        rw [List.length_take, Nat.min_eq_left (Nat.le_of_lt hq), ← e1] at this
        exact this.trans hv
      exact ⟨ca 0 (by decide) _ rfl, ca 1 (by decide) _ rfl, ca 2 (by decide) _ rfl, ca 3 (by decide) _ rfl⟩
  clear hD hMap I
  generalize heldOf L = H at *
  conv => arg 2; whnf
  go_upto_region 72 with (first
    | (go_at_call 22; refine Calls.mono HLen.out ?_; rintro e w1 ⟨rfl, hw⟩; rw [hw]; clear hw w1)
    | (go_at_call 23; refine Calls.mono HFr.out ?_; rintro e w1 ⟨rfl, hw⟩; rw [hw]; clear hw w1))
  clear HLen HFr hml c115 c116
  go_wp2_with fail
  go_loopw [32, 33] (fun el si wr => ∃ q : Nat, q ≤ L.length ∧ si = .int .i64 q ∧ el = elP L q ∧ w.grownBy wr none) (fun _ si _ => L.length - (intOf si).toNat)
  case atStart => exact ⟨0, Nat.zero_le _, rfl, rfl, World.grownBy.refl _ _⟩
  case round =>
    obtain ⟨q, hq, rfl, rfl, hg⟩ := hrel
    by_cases hlt : q < L.length
    · have hI := HI.out wr hg
      have E := hI.ents L[q] (List.getElem_mem hlt)
      obtain ⟨g, rfl, m0, m1, m2, m3⟩ := HM.out wr hg q hlt
      have HNx : Hid (∀ wz : World, wr.grownBy wz none → Calls Yba.prog 24 #[ptr L[q].eb 0] wz fun r w' => r = .returned (elP L (q + 1)) ∧ w' = wz) := fun wz gz => next_el (HI.out wz (grown_trans hg gz)) q hlt
      have HEq : Hid (∀ wz : World, wr.grownBy wz none → Calls Yba.prog 19 #[L[q].mv, .int .i64 L[q].m] wz fun r w' => r = .returned (.bool true) ∧ wz.grownBy w' none) := fun wz gz => eq_any L[q].mv L[q].m E.mz wz ((HI.out wz (grown_trans hg gz)).ents L[q] (List.getElem_mem hlt)).ms.eqIn
      rw [elP_in hlt]
      have c3 := E.c3
      have a0 : wr.cell? ⟨L[q].ab, 0, none⟩ = some (.string L[q].key) := by unfold World.cell?; simp [E.ans]
      have a1 : wr.cell? ⟨L[q].ab, 1, none⟩ = some L[q].mv := by unfold World.cell?; simp [E.ans]
      have a2 : wr.cell? ⟨L[q].ab, 2, none⟩ = some (.bool L[q].come) := by unfold World.cell?; simp [E.ans]
      have a3 : wr.cell? ⟨L[q].ab, 3, none⟩ = some (.int .i64 L[q].since) := by unfold World.cell?; simp [E.ans]
      have ta := ta102ok
      have hG : Hid _ := hg
      have ep := fun (wz : World) => eqp68 wz L[q].eb 0
      have hltI : (q : Int) < (L.length : Int) := by omega
      clear hI E HM HI hg hM
      generalize L[q] = e at *
      generalize e.key = key at *
      generalize e.eb = eb at *
      generalize e.ab = ab at *
      generalize e.m = em at *
      generalize e.come = come at *
      generalize e.since = since at *
      generalize e.mv = emv at *
      clear e
      go_upto_region 78 with fail
      have HEq1 : Hid (∀ n, Calls Yba.prog 19 #[emv, .int .i64 em] (wr.drewN n) fun r w' => r = .returned (.bool true) ∧ wr.grownBy w' none) := fun n => (HEq.out _ (gdN (World.grownBy.refl _ _) n)).mono (fun r w' h => ⟨h.1, grown_trans (gdN (World.grownBy.refl _ _) n) h.2⟩)
      go_cut [413] from 347 to 415 (fun r wx => r = .bool false ∧ wr.grownBy wx none)
      case first =>
        go_region_held3 (fun wq => wq.cell? ⟨g, q * 4, none⟩ = some (.string key) ∧ wq.cell? ⟨g, q * 4 + 1, none⟩ = some (.int .i64 em) ∧ wq.cell? ⟨g, q * 4 + 2, none⟩ = some (.bool come) ∧ wq.cell? ⟨g, q * 4 + 3, none⟩ = some (.int .i64 since) ∧ wq.cell? ⟨ab, 0, none⟩ = some (.string key) ∧ wq.cell? ⟨ab, 1, none⟩ = some emv ∧ wq.cell? ⟨ab, 2, none⟩ = some (.bool come) ∧ wq.cell? ⟨ab, 3, none⟩ = some (.int .i64 since)) (first | exact ⟨m0, m1, m2, m3, a0, a1, a2, a3⟩ | exact ⟨cell_grown m0 HG2.out, cell_grown m1 HG2.out, cell_grown m2 HG2.out, cell_grown m3 HG2.out, cell_grown a0 HG2.out, cell_grown a1 HG2.out, cell_grown a2 HG2.out, cell_grown a3 HG2.out⟩)
          (first
            | (go_at_call 19; refine Calls.mono (HEq1.out _) ?_; rintro e w2 ⟨rfl, hg⟩; have HG2 : Hid (wr.grownBy w2 none) := hg; clear hg))
        all_goals
          go_wp2_with fail
          go_meet
          exact ⟨rfl, HG2.out⟩
      case rest =>
        obtain ⟨rfl, hg2⟩ := hcut
        have HG2 : Hid (w.grownBy wc none) := grown_trans hG.out hg2
        have HNx1 : Hid _ := HNx.out wc hg2
        clear hg2 HNx HEq HEq1 m0 m1 m2 m3 a0 a1 a2 a3 c3
        obtain ⟨nx, hnx⟩ : ∃ nx, elP L (q + 1) = nx := ⟨_, rfl⟩
        rw [hnx] at HNx1
        have Hnx : Hid _ := hnx
        clear hnx
        go_wp2_with (go_at_call 24; refine Calls.mono HNx1.out ?_; rintro e w3 ⟨rfl, hw⟩; rw [hw]; clear hw w3)
        go_roundw
        case rel => exact ⟨q + 1, by omega, by go_num, Hnx.out.symm, HG2.out⟩
        case measure => simp [intOf]; omega
    · rw [elP_out (L := L) (q := q) (by omega)]
      have hltI : ¬ (q : Int) < (L.length : Int) := by omega
      have HG : Hid _ := hg
      clear hg HM HI hM
      go_wp2_with fail
      exact HQ.out _ _ _ _ _ _ _ _ _ _ _ _ _ _ _ _ _ _ _ _ _ _ _ _ _ _ _ _ _ _ _ _ _ _ _ _ _ _ _ _ _ _ _ _ _ _ _ _ _ _ _ _ _ _ _ _ _ _ _ _ _ _ _ _ _ _ _ _ _ _ _ _ _ _ _ _ _ _ _ _ _ _ _ _ _ _ _ _ _ _ _ _ _ _ _ _ _ _ _ _ _ _ _ _ _ _ _ _ _ _ HG.out
end Go.Proofs.Ybulkdbks
