import Derived.Test.YbulkdbksZz
import Derived.Deep.RegionHeld3
namespace Go.Proofs.Ybulkdbks
open Go Go.RowKit
set_option linter.unusedVariables false

set_option maxHeartbeats 8000000 in
set_option maxRecDepth 1000000 in
theorem b3_ok {w0 w : World} {cb nb mb N qb m : Nat} {K F now : Int} {κ : Nat → Nat} {mv : Value} {xs : List ByteArray} {l1 l2 : List Ent} {e : Ent} {mvx : Value} (S : St w0 cb nb mb N K F κ (addL N (e.got m mvx) (l1 ++ l2)) w) (M : Mo κ (l1 ++ e :: l2) w mv) (hN : N ≤ 10) (hF : 0 ≤ F ∧ F ≤ 1000) (hm6 : m ≤ 6) (h0 : 0 ≤ now) (h1 : now < 64) (hke : e.key = joinB xs) (hn1 : ∀ x ∈ l1, x.key ≠ joinB xs) (hem : e.m ≤ 6) (hes : 0 ≤ e.since ∧ e.since < 64) (hexp : ¬ F ≤ now - e.since) (hmN : m ≤ N) (hheld : heldOf (l1 ++ e :: l2) ≤ N) (hxm : ∀ x ∈ l1 ++ l2, x.m ≤ 6)
    (t0 t1 t2 t3 t4 t5 t6 t7 t8 t13 t14 t15 t20 t21 t22 t23 t24 t25 t26 t28 t29 t30 t31 t32 t33 t34 t35 t36 t37 t38 t39 t40 t41 t42 t43 t44 t45 t46 t47 t48 t49 t50 t51 t52 t53 t54 t55 t56 t57 t58 t59 t60 t61 t62 t63 t64 t65 t66 t67 t68 t69 t70 t71 t72 t73 t74 t75 t76 t77 t78 t79 t80 t81 t82 t83 t84 t85 t86 t87 t88 t89 t90 t91 t92 t93 t94 t95 t96 t97 t98 t99 t100 t101 t102 t103 t104 t105 t106 t107 t108 t109 t110 t111 t112 t113 t114 t115 t116 t117 t118 t119 t120 t121 t122 t123 t124 t125 t126 t127 t128 t129 t130 t131 t132 t133 t134 t135 t136 t137 t138 t139 t140 t141 t142 t143 t144 t145 t146 t147 t148 t149 t150 t151 t152 t153 t154 t155 t156 t157 t158 t159 t160 t161 t162 t163 t164 t165 t166 t167 t168 t169 t170 t171 t172 t173 t174 t175 t176 t177 t178 t179 t180 t181 t182 t183 t184 t185 t186 t187 t188 t189 t190 t191 t192 t193 t194 t195 t196 t197 t198 t199 t200 t201 t202 t203 t204 t205 t206 t207 t208 t209 t210 t211 t212 t213 t214 t215 t216 t217 t218 t219 t220 t221 t222 t223 t224 t225 t226 t227 t228 t229 t230 t231 t232 t233 t234 t235 t237 t238 t239 t240 t241 t242 t243 t244 t245 t246 t247 t248 t249 t250 t251 t252 t253 t254 t255 t256 t257 t258 t259 t260 t261 t262 t263 t264 t265 t266 t267 t268 t269 t270 t271 t272 t273 t274 t275 t276 t277 t278 t279 t280 t281 t282 t283 t284 t285 t286 t287 t288 t289 t290 t291 t292 t293 t294 t295 t296 t297 t298 t299 t300 t301 t302 t303 t304 t305 t306 t307 t308 t309 t310 t311 t312 t313 t314 t315 t316 t317 t318 t319 t320 t321 t322 t323 t324 t325 t326 t327 t328 t329 t330 t331 t332 t333 t334 t335 t336 t337 t338 t339 t340 t341 t342 t343 t344 t345 t346 t347 t348 t349 t350 t351 t352 t353 t354 t355 t356 t357 t358 t359 t360 t361 t362 t363 t364 t365 t366 t367 t368 t369 t370 t371 t372 t373 t374 t375 t376 t377 t378 t379 t380 t381 t382 t383 t384 t385 t386 t387 t388 t389 t390 t391 t392 t393 t394 t395 t396 t397 t398 t399 t400 t401 t402 t403 t404 t405 t406 t407 t408 t409 t410 t411 t412 t413 t414 t415 t416 t417 t418 : Value) (Q : Exit → Act → World → Prop)
    (hQ : ∀ (u30 u31 u237 u238 u239 u240 u241 u242 u243 u244 u245 u246 u247 u248 u249 u250 u251 u252 u253 u254 u255 u256 u257 u258 u259 u260 u261 u262 u263 u264 u265 u266 u267 u268 u269 u270 u271 u272 u273 u274 u275 u276 u277 u278 u279 u280 u281 u282 u283 u284 u285 u286 u287 u288 u289 u290 u291 u292 u293 u294 u295 u296 u297 u298 u299 u300 u301 u302 u303 u304 u305 u306 u307 u308 u309 u310 u311 u312 u313 : Value) (κ' : Nat → Nat) (L' : List Ent) (mv' : Value) (w' : World), St w0 cb nb mb N K F κ' L' w' → Mo κ' L' w' mv' → Q .normal ⟨#[t0, t1, t2, t3, t4, t5, t6, t7, t8, (ptr cb 0), (ptr nb 0), mv', (.int .i64 (heldOf L' : Nat)), t13, t14, t15, (.int .i64 now), (ptr qb 0), (.bool true), (.string (joinB xs)), t20, t21, t22, t23, t24, t25, t26, (.int .i64 (m : Nat)), t28, t29, u30, u31, t32, t33, t34, t35, t36, t37, t38, t39, t40, t41, t42, t43, t44, t45, t46, t47, t48, t49, t50, t51, t52, t53, t54, t55, t56, t57, t58, t59, t60, t61, t62, t63, t64, t65, t66, t67, t68, t69, t70, t71, t72, t73, t74, t75, t76, t77, t78, t79, t80, t81, t82, t83, t84, t85, t86, t87, t88, t89, t90, t91, t92, t93, t94, t95, t96, t97, t98, t99, t100, t101, t102, t103, t104, t105, t106, t107, t108, t109, t110, t111, t112, t113, t114, t115, t116, t117, t118, t119, t120, t121, t122, t123, t124, t125, t126, t127, t128, t129, t130, t131, t132, t133, t134, t135, t136, t137, t138, t139, t140, t141, t142, t143, t144, t145, t146, t147, t148, t149, t150, t151, t152, t153, t154, t155, t156, t157, t158, t159, t160, t161, t162, t163, t164, t165, t166, t167, t168, t169, t170, t171, t172, t173, t174, t175, t176, t177, t178, t179, t180, t181, t182, t183, t184, t185, t186, t187, t188, t189, t190, t191, t192, t193, t194, t195, t196, t197, t198, t199, t200, t201, t202, t203, t204, t205, t206, t207, t208, t209, t210, t211, t212, t213, t214, t215, t216, t217, t218, t219, t220, t221, t222, t223, t224, t225, t226, t227, t228, t229, t230, t231, t232, t233, t234, t235, (.bool true), u237, u238, u239, u240, u241, u242, u243, u244, u245, u246, u247, u248, u249, u250, u251, u252, u253, u254, u255, u256, u257, u258, u259, u260, u261, u262, u263, u264, u265, u266, u267, u268, u269, u270, u271, u272, u273, u274, u275, u276, u277, u278, u279, u280, u281, u282, u283, u284, u285, u286, u287, u288, u289, u290, u291, u292, u293, u294, u295, u296, u297, u298, u299, u300, u301, u302, u303, u304, u305, u306, u307, u308, u309, u310, u311, u312, u313, t314, t315, t316, t317, t318, t319, t320, t321, t322, t323, t324, t325, t326, t327, t328, t329, t330, t331, t332, t333, t334, t335, t336, t337, t338, t339, t340, t341, t342, t343, t344, t345, t346, t347, t348, t349, t350, t351, t352, t353, t354, t355, t356, t357, t358, t359, t360, t361, t362, t363, t364, t365, t366, t367, t368, t369, t370, t371, t372, t373, t374, t375, t376, t377, t378, t379, t380, t381, t382, t383, t384, t385, t386, t387, t388, t389, t390, t391, t392, t393, t394, t395, t396, t397, t398, t399, t400, t401, t402, t403, t404, t405, t406, t407, t408, t409, t410, t411, t412, t413, t414, t415, t416, t417, t418], []⟩ w') :
    Code.wp Yba.prog pB3 Q ⟨#[t0, t1, t2, t3, t4, t5, t6, t7, t8, (ptr cb 0), (ptr nb 0), mv, (.int .i64 (heldOf (l1 ++ e :: l2) : Nat)), t13, t14, t15, (.int .i64 now), (ptr qb 0), (.bool true), (.string (joinB xs)), t20, t21, t22, t23, t24, t25, t26, (.int .i64 (m : Nat)), t28, t29, t30, t31, t32, t33, t34, t35, t36, t37, t38, t39, t40, t41, t42, t43, t44, t45, t46, t47, t48, t49, t50, t51, t52, t53, t54, t55, t56, t57, t58, t59, t60, t61, t62, t63, t64, t65, t66, t67, t68, t69, t70, t71, t72, t73, t74, t75, t76, t77, t78, t79, t80, t81, t82, t83, t84, t85, t86, t87, t88, t89, t90, t91, t92, t93, t94, t95, t96, t97, t98, t99, t100, t101, t102, t103, t104, t105, t106, t107, t108, t109, t110, t111, t112, t113, t114, t115, t116, t117, t118, t119, t120, t121, t122, t123, t124, t125, t126, t127, t128, t129, t130, t131, t132, t133, t134, t135, t136, t137, t138, t139, t140, t141, t142, t143, t144, t145, t146, t147, t148, t149, t150, t151, t152, t153, t154, t155, t156, t157, t158, t159, t160, t161, t162, t163, t164, t165, t166, t167, t168, t169, t170, t171, t172, t173, t174, t175, t176, t177, t178, t179, t180, t181, t182, t183, t184, t185, t186, t187, t188, t189, t190, t191, t192, t193, t194, t195, t196, t197, t198, t199, t200, t201, t202, t203, t204, t205, t206, t207, t208, t209, t210, t211, t212, t213, t214, t215, t216, t217, t218, t219, t220, t221, t222, t223, t224, t225, t226, t227, t228, t229, t230, t231, t232, t233, t234, t235, (.bool true), t237, t238, t239, t240, t241, t242, t243, t244, t245, t246, t247, t248, t249, t250, t251, t252, t253, t254, t255, t256, t257, t258, t259, t260, t261, t262, t263, t264, t265, t266, t267, t268, t269, t270, t271, t272, t273, t274, t275, t276, t277, t278, t279, t280, t281, t282, t283, t284, t285, t286, t287, t288, t289, t290, t291, t292, t293, t294, t295, t296, t297, t298, t299, t300, t301, t302, t303, t304, t305, t306, t307, t308, t309, t310, t311, t312, t313, t314, t315, t316, t317, t318, t319, t320, t321, t322, t323, t324, t325, t326, t327, t328, t329, t330, t331, t332, t333, t334, t335, t336, t337, t338, t339, t340, t341, t342, t343, t344, t345, t346, t347, t348, t349, t350, t351, t352, t353, t354, t355, t356, t357, t358, t359, t360, t361, t362, t363, t364, t365, t366, t367, t368, t369, t370, t371, t372, t373, t374, t375, t376, t377, t378, t379, t380, t381, t382, t383, t384, t385, t386, t387, t388, t389, t390, t391, t392, t393, t394, t395, t396, t397, t398, t399, t400, t401, t402, t403, t404, t405, t406, t407, t408, t409, t410, t411, t412, t413, t414, t415, t416, t417, t418], []⟩ w := by
  have HQ : Hid _ := hQ
  have HS : Hid (St w0 cb nb mb N K F κ (addL N (e.got m mvx) (l1 ++ l2)) w) := S
  have HM : Hid (Mo κ (l1 ++ e :: l2) w mv) := M
  have hl : (l1 ++ e :: l2).length ≤ 900 := by have := len_held (l1 ++ e :: l2); omega
  have hl0 : (l1 ++ l2).length ≤ 900 := by simp at hl ⊢; omega
  have hmid := heldOf_mid l1 l2 e
  have HF : Hid _ := find_hit mv l1 l2 e (joinB xs) w M.row hl hke hn1
  have hms : msz e.m ≤ 6 := by unfold msz; split <;> omega
  have hmM : msz m ≤ 6 := by unfold msz; split <;> omega
  have hw12 : IntKind.i64.wrap ((heldOf (l1 ++ e :: l2) : Int) - (msz e.m : Int)) = (heldOf (l1 ++ l2) : Int) := by rw [wrap64 (by omega) (by omega)]; omega
  have hw13 : IntKind.i64.wrap ((heldOf (l1 ++ l2) : Int) + (msz m : Int)) = (heldOf (l1 ++ l2) : Int) + (msz m : Int) := wrap64 (by omega) (by omega)
  have hwsub : IntKind.i64.wrap (now - e.since) = now - e.since := wrap64 (by omega) (by omega)
  have Hm6 : Hid (∀ x ∈ l1 ++ l2, x.m ≤ 6) := hxm
  have Hh20 : Hid (heldOf (l1 ++ l2) ≤ 20) := by show _ ≤ _; omega
  have Hrem : Hid (∀ w2 : World, MR w2 mv (l1 ++ e :: l2) → Calls Yba.prog 17 #[mv, .int .i64 l1.length] w2 _) := fun w2 h => remove_any17 mv l1 l2 e w2 h hl
  obtain ⟨g0, cap0, hmv, hcap0, d0, d1, d2, d3⟩ := M.row.at'
  have f2 : w.cell? ⟨cb, 2, none⟩ = some (.int .i64 F) := by have := S.cfg; unfold World.cell?; rw [this]; rfl
  have f0 : w.cell? ⟨cb, 0, none⟩ = some (.int .i64 (N : Int)) := by have := S.cfg; unfold World.cell?; rw [this]; rfl
  rw [hmv] at Hrem HF
  subst hmv
  have HSz : Hid (∀ wz, _) := fun wz => size16 e.m hem wz
  have HSm : Hid (∀ wz, _) := fun wz => size16 m hm6 wz
  have hdx : decide (F ≤ now - e.since) = false := by simp; omega
  have hdb : decide ((N : Int) < (m : Int)) = false := by simp; omega
  have hdbI : ¬ (N : Int) < (m : Int) := by omega
  clear hQ S M hn1 hke hl hmid hxm
  generalize joinB xs = key at *
  have hi0 : (0 : Int) ≤ (l1.length : Int) := by omega
  have hi1 : (l1.length : Int) < (l1.length : Int) + 1 + (l2.length : Int) := by omega
  generalize hll1 : l1.length = n1 at *
  refine wp_mono (Q := nrm Q) ?_ nrm_imp
  conv => arg 2; whnf
  go_upto_region 57 with (go_at_call 15; refine Calls.mono HF.out ?_; rintro r w2 ⟨rfl, hw⟩; rw [hw]; clear hw w2)
  go_quiet (fail)
  rename_i nq
  have HS1 : Hid (St w0 cb nb mb N K F κ (addL N (e.got m mvx) (l1 ++ l2)) (w.drewN nq)) := HS.out.dN nq
  have HM1 : Hid (Mo κ (l1 ++ e :: l2) (w.drewN nq) (.slice (some ⟨g0, 0, none⟩) (n1 + 1 + l2.length) cap0)) := HM.out.dN nq
  have d0' : (w.drewN nq).cell? ⟨g0, n1 * 4, none⟩ = some (.string e.key) := d0
  have d1' : (w.drewN nq).cell? ⟨g0, n1 * 4 + 1, none⟩ = some (.int .i64 (e.m : Nat)) := d1
  have d2' : (w.drewN nq).cell? ⟨g0, n1 * 4 + 2, none⟩ = some (.bool e.come) := d2
  have d3' : (w.drewN nq).cell? ⟨g0, n1 * 4 + 3, none⟩ = some (.int .i64 e.since) := d3
  clear d0 d1 d2 d3 f2 f0 HF HS HM
  generalize w.drewN nq = wz at *
  generalize hMM : msz m = MM at *
  have HMM : Hid _ := hMM
  clear hMM
  go_upto_region 65 with (first
      | (go_at_call_of 16 e.m; refine Calls.mono (HSz.out _) ?_; rintro r w4 ⟨rfl, hw⟩; rw [hw]; clear hw w4)
      | (go_at_call 16; refine Calls.mono (HSm.out _) ?_; rintro r w4 ⟨rfl, hw⟩; rw [hw]; clear hw w4))
  have gA := World.grownBy_alloc wz (.cells #[.string e.key, .int .i64 (m : Nat), .bool true, .int .i64 e.since] 91) none
  have HSa5 : Hid (St w0 cb nb mb N K F (kz κ wz.heap.size) (addL N (e.got m mvx) (l1 ++ l2)) _) := HS1.out.grow gA
  have HMa5 : Hid (Mo (kz κ wz.heap.size) (l1 ++ e :: l2) _ (.slice (some ⟨g0, 0, none⟩) (n1 + 1 + l2.length) cap0)) := HM1.out.grow gA
  have b0 : (wz.alloc (.cells #[.string e.key, .int .i64 (m : Nat), .bool true, .int .i64 e.since] 91)).cell? ⟨wz.heap.size, 0, none⟩ = some (.string e.key) := cell_new rfl
  have b1 : (wz.alloc (.cells #[.string e.key, .int .i64 (m : Nat), .bool true, .int .i64 e.since] 91)).cell? ⟨wz.heap.size, 1, none⟩ = some (.int .i64 (m : Nat)) := cell_new rfl
  have b2 : (wz.alloc (.cells #[.string e.key, .int .i64 (m : Nat), .bool true, .int .i64 e.since] 91)).cell? ⟨wz.heap.size, 2, none⟩ = some (.bool true) := cell_new rfl
  have b3 : (wz.alloc (.cells #[.string e.key, .int .i64 (m : Nat), .bool true, .int .i64 e.since] 91)).cell? ⟨wz.heap.size, 3, none⟩ = some (.int .i64 e.since) := cell_new rfl
  generalize wz.alloc (.cells #[.string e.key, .int .i64 (m : Nat), .bool true, .int .i64 e.since] 91) = w5 at *
  clear gA d0' d1' d2' d3' HS1 HM1 HSz HSm
  generalize kz κ wz.heap.size = κ5 at *
  generalize wz.heap.size = zb at *
  have HR1 : Hid (∀ n, Calls Yba.prog 17 #[.slice (some ⟨g0, 0, none⟩) (n1 + 1 + l2.length) cap0, .int .i64 n1] (w5.drewN n) fun r w' => ∃ g cap, r = .returned (.slice (some ⟨g, 0, none⟩) (l1 ++ l2).length cap) ∧ w5.heap.size ≤ g ∧ MR w' (.slice (some ⟨g, 0, none⟩) (l1 ++ l2).length cap) (l1 ++ l2) ∧ w5.grownBy w' none) := fun n => (Hrem.out (w5.drewN n) (HMa5.out.dN n).row).mono (fun r w' h => by
    obtain ⟨g, cap, h1, h2, h3, h4⟩ := h
    exact ⟨g, cap, h1, h2, h3, grown_trans (gdN (World.grownBy.refl _ _) n) h4⟩)
  have HP : Hid (∀ (v : Value) (w2 : World), MR w2 v (l1 ++ l2) → Calls Yba.prog 18 #[v, .agg #[.string e.key, .int .i64 (m : Nat), .bool true, .int .i64 e.since]] w2 fun r w' => ∃ g cap, r = .returned (.slice (some ⟨g, 0, none⟩) ((l1 ++ l2).length + 1) cap) ∧ w2.heap.size ≤ g ∧ MR w' (.slice (some ⟨g, 0, none⟩) ((l1 ++ l2).length + 1) cap) (e.got m mvx :: (l1 ++ l2)) ∧ w2.grownBy w' none) := fun v w2 h => prepend_any v (l1 ++ l2) (e.got m mvx) w2 h hl0
  have Hm1 : Hid ((e.got m mvx).m = m) := rfl
  clear Hrem
  generalize hL0 : l1 ++ l2 = L0 at *
  generalize hne : e.got m mvx = ne at *
  clear hL0 hll1 hne
  generalize e.key = ekey at *
  generalize e.since = esince at *
  generalize l2.length = n2 at *
  go_cut [11] from 285 to 289 (fun s11 wx => ∃ g cap, s11 = .slice (some ⟨g, 0, none⟩) (L0.length + 1) cap ∧ w5.heap.size ≤ g ∧ MR wx s11 (ne :: L0) ∧ w5.grownBy wx none)
  case first =>
    go_region_with (first
      | (go_at_call 17; refine Calls.mono (HR1.out _) ?_; rintro r w2 ⟨g1, cap1, rfl, hg0, hM2, hg2⟩; have HM2 : Hid _ := hM2; have HG2 : Hid _ := hg2; have e0 := cell_grown b0 hg2; have e1 := cell_grown b1 hg2; have e2 := cell_grown b2 hg2; have e3 := cell_grown b3 hg2; clear hg0 hM2 hg2)
      | (go_at_call 18; refine Calls.mono (HP.out _ _ HM2.out) ?_; rintro r w3 ⟨g, cap, rfl, hg0, hM3, hg3⟩; have HR3 : Hid (w5.heap.size ≤ g ∧ MR w3 (.slice (some ⟨g, 0, none⟩) (L0.length + 1) cap) (ne :: L0) ∧ w5.grownBy w3 none) := ⟨Nat.le_trans HG2.out.size hg0, hM3, grown_trans HG2.out hg3⟩; clear hg0 hM3 hg3))
    all_goals
      go_wp2_with fail
      go_meet
      exact ⟨_, _, rfl, HR3.out⟩
  case rest =>
    obtain ⟨g, cap, rfl, hg0, hM6, hg6⟩ := hcut
    obtain ⟨w3, hw3⟩ : ∃ w3, w3 = wc := ⟨_, rfl⟩
    subst hw3
    have HS3 : Hid (St w0 cb nb mb N K F (kz κ5 w5.heap.size) (addL N ne L0) w3) := HSa5.out.grow hg6
    have HM3 : Hid (Mo (kz κ5 w5.heap.size) (ne :: L0) w3 (.slice (some ⟨g, 0, none⟩) (L0.length + 1) cap)) := ⟨hM6, fun g' hg' => (by cases hg'; exact kz_ge hg0)⟩
    clear hg6 hg0 hM6 b0 b1 b2 b3 HSa5 HMa5 HR1 HP
    have hcfg : w3.cell? ⟨cb, 0, none⟩ = some (.int .i64 (N : Int)) := by have := HS3.out.cfg; unfold World.cell?; rw [this]; rfl
    have Hh1 : Hid (heldOf (ne :: L0) = heldOf (L0) + MM) := by show _ = _; rw [heldOf_cons, Hm1.out, HMM.out, Nat.add_comm]
    have Hlen1 : Hid ((ne :: L0).length = (L0).length + 1) := rfl
    have Hc : Hid (∀ j (hj : j < (ne :: L0).length), w3.cell? ⟨g, j * 4 + 1, none⟩ = some (.int .i64 ((ne :: L0)[j].m : Nat)) ∧ (ne :: L0)[j].m ≤ 6) := fun j hj => by
      have e1 : (ne :: L0) = (ne :: L0).take j ++ (ne :: L0)[j] :: (ne :: L0).drop (j + 1) := by rw [List.getElem_cons_drop hj, List.take_append_drop]
      have hr := HM3.out.row
      refine ⟨?_, ?_⟩
      · rw [e1] at hr
        obtain ⟨g', cap', hv, _, _, c1, _, _⟩ := hr.at'
        injection hv with hv
        injection hv with hv
        injection hv with hv
        subst hv
        rw [List.length_take, Nat.min_eq_left (Nat.le_of_lt hj)] at c1
        exact c1
      · have hm := List.getElem_mem hj
        rcases List.mem_cons.1 hm with h | h
        · rw [h, Hm1.out]; exact hm6
        · exact Hm6.out _ h
    have Ht : Hid (∀ j (hj : j < (ne :: L0).length), heldOf ((ne :: L0).take (j + 1)) = heldOf ((ne :: L0).take j) + msz (ne :: L0)[j].m) := fun j hj => take_held _ j hj
    have Hle : Hid (∀ k, heldOf ((ne :: L0).take k) ≤ heldOf (ne :: L0)) := heldOf_take_le _
    have Hta : Hid (heldOf ((ne :: L0).take ((L0).length + 1)) = heldOf (L0) + MM) := by
      show _ = _
      rw [List.take_of_length_le (Nat.le_of_eq Hlen1.out)]; exact Hh1.out
    have hcap : (L0).length + 1 ≤ cap := by have := HM3.out.row.cap; rw [Hlen1.out] at this; exact this
    have HSa : Hid (∀ k, fitK N (fun k => heldOf ((ne :: L0).take k)) ((L0).length + 1) = k → St w0 cb nb mb N K F (kz κ5 w5.heap.size) ((ne :: L0).take k) w3) := fun k h => by
      have := HS3.out
      unfold addL at this
      rw [h] at this
      exact this
    have HMa : Hid (∀ k, k ≤ (L0).length + 1 → Mo (kz κ5 w5.heap.size) ((ne :: L0).take k) w3 (.slice (some ⟨g, 0, none⟩) k cap)) := fun k h => ⟨HM3.out.row.take h, fun g' hg' => HM3.out.kb g' hg'⟩
    have hH0 : heldOf (L0) ≤ 20 := Hh20.out
    have HL0 : Hid ((L0).length ≤ 900) := hl0
    clear HS3 HM3 
    generalize hL1 : ne :: L0 = L1 at *
    generalize (L0).length = len0 at *
    generalize heldOf (L0) = H0 at *
    have HL1 : Hid _ := hL1
    clear hL1
    go_wp2_with fail
    go_loop [11, 12] (fun s11 s12 => ∃ k : Nat, k ≤ len0 + 1 ∧ fitK N (fun k => heldOf (L1.take k)) k = fitK N (fun k => heldOf (L1.take k)) (len0 + 1) ∧ s11 = .slice (some ⟨g, 0, none⟩) k cap ∧ s12 = .int .i64 (heldOf (L1.take k) : Nat)) (fun s11 _ => slLen s11)
    case atStart => exact ⟨len0 + 1, Nat.le_refl _, rfl, rfl, by rw [Hta.out]; rfl⟩
    case round =>
      obtain ⟨k, hk, hf, rfl, rfl⟩ := hrel
      have hkl := Hle.out k
      rw [Hh1.out] at hkl
      by_cases h : N < heldOf (L1.take k)
      · obtain ⟨j, rfl⟩ : ∃ j, k = j + 1 := by
          cases k with
          | zero => simp [heldOf] at h
          | succ j => exact ⟨j, rfl⟩
        have hj : j < L1.length := by rw [Hlen1.out]; omega
        obtain ⟨c1, hm6⟩ := Hc.out j hj
        have ht := Ht.out j hj
        have HF : Hid (fitK N (fun k => heldOf (L1.take k)) j = fitK N (fun k => heldOf (L1.take k)) (len0 + 1)) := by show _ = _; rw [← hf, fitK_step h]
        have hms : msz L1[j].m ≤ 6 := by unfold msz; split <;> omega
        have HSz : Hid _ := size16 L1[j].m hm6 w3
        have hd : (N : Int) < (heldOf (L1.take (j + 1)) : Int) := by omega
        have hw1 : IntKind.i64.wrap ((heldOf (L1.take (j + 1)) : Int) - (msz L1[j].m : Int)) = (heldOf (L1.take j) : Int) := by rw [wrap64 (by omega) (by omega)]; omega
        have hjcap : (j : Int) ≤ (cap : Int) := by omega
        have hjc : (j : Int) + 1 ≤ 901 := by have := HL0.out; omega
        clear hf Hc Ht Hle
        generalize L1[j].m = mm at *
        generalize hA : heldOf (L1.take (j + 1)) = A at *
        generalize hB : heldOf (L1.take j) = B at *
        have HB : Hid _ := hB
        have Hht : Hid _ := ht
        clear hA hB ht
        go_wp2_with (go_at_call 16; refine Calls.mono HSz.out ?_; rintro e w4 ⟨rfl, hw⟩; rw [hw]; clear hw w4)
        go_round
        case rel => exact ⟨j, by omega, HF.out, rfl, by rw [HB.out]⟩
        case measure => simp [slLen]
      · have hd : decide ((N : Int) < (heldOf (L1.take k) : Int)) = false := by simp; omega
        have e : fitK N (fun k => heldOf (L1.take k)) (len0 + 1) = k := by rw [← hf]; exact fitK_stop (by show heldOf (L1.take k) ≤ N; omega)
        have He : Hid _ := e
        have hdI : ¬ (N : Int) < (heldOf (L1.take k) : Int) := by omega
        clear hf e Hc Ht Hle
        generalize hA : heldOf (L1.take k) = A at *
        have HA : Hid _ := hA
        clear hA
        go_wp2_with fail
        have hA := HA.out
        subst hA
        exact HQ.out _ _ _ _ _ _ _ _ _ _ _ _ _ _ _ _ _ _ _ _ _ _ _ _ _ _ _ _ _ _ _ _ _ _ _ _ _ _ _ _ _ _ _ _ _ _ _ _ _ _ _ _ _ _ _ _ _ _ _ _ _ _ _ _ _ _ _ _ _ _ _ _ _ _ _ _ _ _ _ _ _ _ _ (HSa.out k He.out) (HMa.out k hk)

end Go.Proofs.Ybulkdbks
