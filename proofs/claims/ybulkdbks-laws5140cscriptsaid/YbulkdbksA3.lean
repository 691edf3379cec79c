import Derived.Test.YbulkdbksPq
import Derived.Deep.RegionHeld3
namespace Go.Proofs.Ybulkdbks
open Go Go.RowKit
set_option linter.unusedVariables false

set_option maxHeartbeats 8000000 in
set_option maxRecDepth 1000000 in
theorem a_hit {w0 w : World} {cb nb mb N qb kb c : Nat} {K F now : Int} {κ : Nat → Nat} {mv : Value} {xs : List ByteArray} {l1 l2 : List Ent} {e : Ent} (S : St w0 cb nb mb N K F κ (l1 ++ e :: l2) w) (M : Mo κ (l1 ++ e :: l2) w mv) (hkw : KwAt w kb xs) (hx : xs.length ≤ 4) (hc : xs.length ≤ c) (hj : (joinB xs).size ≤ 100) (hN : N ≤ 10) (hF : 0 ≤ F ∧ F ≤ 1000)
    (hq : w.heap[qb]? = some (.cells (qc (.slice (some ⟨kb, 0, none⟩) xs.length c)) 84 (0, 0))) (hyes : 0 < (N : Int) ∧ (xs.length : Int) ≤ K) (hke : e.key = joinB xs) (hn1 : ∀ x ∈ l1, x.key ≠ joinB xs) (hexp : ¬ F ≤ now - e.since) (h0 : 0 ≤ now) (h1 : now < 64) (t0 t1 t2 t3 t4 t5 t6 t7 t8 t13 t14 t15 t20 t21 t22 t23 t24 t25 t26 t27 t28 t29 t30 t31 t32 t33 t34 t35 t36 t37 t38 t39 t40 t41 t42 t43 t44 t45 t46 t47 t48 t49 t50 t51 t52 t53 t54 t55 t56 t57 t58 t59 t60 t61 t62 t63 t64 t65 t66 t67 t68 t69 t70 t71 t72 t73 t74 t75 t76 t77 t78 t79 t80 t81 t82 t83 t84 t85 t86 t87 t88 t89 t90 t91 t92 t93 t94 t95 t96 t97 t98 t99 t100 t101 t102 t103 t104 t105 t106 t107 t108 t109 t110 t111 t112 t113 t114 t115 t116 t117 t118 t119 t120 t121 t122 t123 t124 t125 t126 t127 t128 t129 t130 t131 t132 t133 t134 t135 t136 t137 t138 t139 t140 t141 t142 t143 t144 t145 t146 t147 t148 t149 t150 t151 t152 t153 t154 t155 t156 t157 t158 t159 t160 t161 t162 t163 t164 t165 t166 t167 t168 t169 t170 t171 t172 t173 t174 t175 t176 t177 t178 t179 t180 t181 t182 t183 t184 t185 t186 t187 t188 t189 t190 t191 t192 t193 t194 t195 t196 t197 t198 t199 t200 t201 t202 t203 t204 t205 t206 t207 t208 t209 t210 t211 t212 t213 t214 t215 t216 t217 t218 t219 t220 t221 t222 t223 t224 t225 t226 t227 t228 t229 t230 t231 t232 t233 t234 t235 t236 t237 t238 t239 t240 t241 t242 t243 t244 t245 t246 t247 t248 t249 t250 t251 t252 t253 t254 t255 t256 t257 t258 t259 t260 t261 t262 t263 t264 t265 t266 t267 t268 t269 t270 t271 t272 t273 t274 t275 t276 t277 t278 t279 t280 t281 t282 t283 t284 t285 t286 t287 t288 t289 t290 t291 t292 t293 t294 t295 t296 t297 t298 t299 t300 t301 t302 t303 t304 t305 t306 t307 t308 t309 t310 t311 t312 t313 t314 t315 t316 t317 t318 t319 t320 t321 t322 t323 t324 t325 t326 t327 t328 t329 t330 t331 t332 t333 t334 t335 t336 t337 t338 t339 t340 t341 t342 t343 t344 t345 t346 t347 t348 t349 t350 t351 t352 t353 t354 t355 t356 t357 t358 t359 t360 t361 t362 t363 t364 t365 t366 t367 t368 t369 t370 t371 t372 t373 t374 t375 t376 t377 t378 t379 t380 t381 t382 t383 t384 t385 t386 t387 t388 t389 t390 t391 t392 t393 t394 t395 t396 t397 t398 t399 t400 t401 t402 t403 t404 t405 t406 t407 t408 t409 t410 t411 t412 t413 t414 t415 t416 t417 t418 : Value) (Q : Exit → Act → World → Prop)
    (hQ : ∀ (u8 u20 u21 u22 u23 u24 u25 u26 u88 u89 u90 u91 u92 u93 u94 u95 u96 u97 u98 u99 u100 u101 u102 u103 u104 u105 u106 u107 u108 u109 u110 u111 u112 u113 u114 u115 u116 u117 u118 u119 u120 u121 u122 u123 u124 u125 u126 u127 u128 u129 u130 u131 u132 u133 u134 u135 u136 u137 u138 u139 u140 u141 u142 u143 u144 u145 u146 u147 u148 u149 u150 u151 u152 u153 u154 u155 u156 u157 u158 u159 u160 u161 u162 u163 u164 u165 u166 u167 u168 u169 u170 u171 u172 u173 u174 u175 u176 u177 u178 u179 u180 u181 u182 u183 u184 u185 u186 u187 u188 u189 u190 u191 u192 u193 u194 u195 u196 u197 u198 u199 u200 u201 u202 u203 u204 u205 : Value) (κ' : Nat → Nat) (L' : List Ent) (mv' : Value) (w' : World), St w0 cb nb mb N K F κ' L' w' → Mo κ' L' w' mv' → Q .normal ⟨#[t0, t1, t2, t3, t4, t5, t6, t7, u8, (ptr cb 0), (ptr nb 0), mv', (.int .i64 (heldOf L' : Nat)), t13, t14, t15, (.int .i64 now), (ptr qb 0), (.bool true), (.string (joinB xs)), u20, u21, u22, u23, u24, u25, u26, t27, t28, t29, t30, t31, t32, t33, t34, t35, t36, t37, t38, t39, t40, t41, t42, t43, t44, t45, t46, t47, t48, t49, t50, t51, t52, t53, t54, t55, t56, t57, t58, t59, t60, t61, t62, t63, t64, t65, t66, t67, t68, t69, t70, t71, t72, t73, t74, t75, t76, t77, t78, t79, t80, t81, t82, t83, t84, t85, t86, t87, u88, u89, u90, u91, u92, u93, u94, u95, u96, u97, u98, u99, u100, u101, u102, u103, u104, u105, u106, u107, u108, u109, u110, u111, u112, u113, u114, u115, u116, u117, u118, u119, u120, u121, u122, u123, u124, u125, u126, u127, u128, u129, u130, u131, u132, u133, u134, u135, u136, u137, u138, u139, u140, u141, u142, u143, u144, u145, u146, u147, u148, u149, u150, u151, u152, u153, u154, u155, u156, u157, u158, u159, u160, u161, u162, u163, u164, u165, u166, u167, u168, u169, u170, u171, u172, u173, u174, u175, u176, u177, u178, u179, u180, u181, u182, u183, u184, u185, u186, u187, u188, u189, u190, u191, u192, u193, u194, u195, u196, u197, u198, u199, u200, u201, u202, u203, u204, u205, t206, t207, t208, t209, t210, t211, t212, t213, t214, t215, t216, t217, t218, t219, t220, t221, t222, t223, t224, t225, t226, t227, t228, t229, t230, t231, t232, t233, t234, t235, t236, t237, t238, t239, t240, t241, t242, t243, t244, t245, t246, t247, t248, t249, t250, t251, t252, t253, t254, t255, t256, t257, t258, t259, t260, t261, t262, t263, t264, t265, t266, t267, t268, t269, t270, t271, t272, t273, t274, t275, t276, t277, t278, t279, t280, t281, t282, t283, t284, t285, t286, t287, t288, t289, t290, t291, t292, t293, t294, t295, t296, t297, t298, t299, t300, t301, t302, t303, t304, t305, t306, t307, t308, t309, t310, t311, t312, t313, t314, t315, t316, t317, t318, t319, t320, t321, t322, t323, t324, t325, t326, t327, t328, t329, t330, t331, t332, t333, t334, t335, t336, t337, t338, t339, t340, t341, t342, t343, t344, t345, t346, t347, t348, t349, t350, t351, t352, t353, t354, t355, t356, t357, t358, t359, t360, t361, t362, t363, t364, t365, t366, t367, t368, t369, t370, t371, t372, t373, t374, t375, t376, t377, t378, t379, t380, t381, t382, t383, t384, t385, t386, t387, t388, t389, t390, t391, t392, t393, t394, t395, t396, t397, t398, t399, t400, t401, t402, t403, t404, t405, t406, t407, t408, t409, t410, t411, t412, t413, t414, t415, t416, t417, t418], []⟩ w') :
    Code.wp Yba.prog pA Q ⟨#[t0, t1, t2, t3, t4, t5, t6, t7, t8, (ptr cb 0), (ptr nb 0), mv, (.int .i64 (heldOf (l1 ++ e :: l2) : Nat)), t13, t14, t15, (.int .i64 now), (ptr qb 0), (.bool true), (.string (joinB xs)), t20, t21, t22, t23, t24, t25, t26, t27, t28, t29, t30, t31, t32, t33, t34, t35, t36, t37, t38, t39, t40, t41, t42, t43, t44, t45, t46, t47, t48, t49, t50, t51, t52, t53, t54, t55, t56, t57, t58, t59, t60, t61, t62, t63, t64, t65, t66, t67, t68, t69, t70, t71, t72, t73, t74, t75, t76, t77, t78, t79, t80, t81, t82, t83, t84, t85, t86, t87, t88, t89, t90, t91, t92, t93, t94, t95, t96, t97, t98, t99, t100, t101, t102, t103, t104, t105, t106, t107, t108, t109, t110, t111, t112, t113, t114, t115, t116, t117, t118, t119, t120, t121, t122, t123, t124, t125, t126, t127, t128, t129, t130, t131, t132, t133, t134, t135, t136, t137, t138, t139, t140, t141, t142, t143, t144, t145, t146, t147, t148, t149, t150, t151, t152, t153, t154, t155, t156, t157, t158, t159, t160, t161, t162, t163, t164, t165, t166, t167, t168, t169, t170, t171, t172, t173, t174, t175, t176, t177, t178, t179, t180, t181, t182, t183, t184, t185, t186, t187, t188, t189, t190, t191, t192, t193, t194, t195, t196, t197, t198, t199, t200, t201, t202, t203, t204, t205, t206, t207, t208, t209, t210, t211, t212, t213, t214, t215, t216, t217, t218, t219, t220, t221, t222, t223, t224, t225, t226, t227, t228, t229, t230, t231, t232, t233, t234, t235, t236, t237, t238, t239, t240, t241, t242, t243, t244, t245, t246, t247, t248, t249, t250, t251, t252, t253, t254, t255, t256, t257, t258, t259, t260, t261, t262, t263, t264, t265, t266, t267, t268, t269, t270, t271, t272, t273, t274, t275, t276, t277, t278, t279, t280, t281, t282, t283, t284, t285, t286, t287, t288, t289, t290, t291, t292, t293, t294, t295, t296, t297, t298, t299, t300, t301, t302, t303, t304, t305, t306, t307, t308, t309, t310, t311, t312, t313, t314, t315, t316, t317, t318, t319, t320, t321, t322, t323, t324, t325, t326, t327, t328, t329, t330, t331, t332, t333, t334, t335, t336, t337, t338, t339, t340, t341, t342, t343, t344, t345, t346, t347, t348, t349, t350, t351, t352, t353, t354, t355, t356, t357, t358, t359, t360, t361, t362, t363, t364, t365, t366, t367, t368, t369, t370, t371, t372, t373, t374, t375, t376, t377, t378, t379, t380, t381, t382, t383, t384, t385, t386, t387, t388, t389, t390, t391, t392, t393, t394, t395, t396, t397, t398, t399, t400, t401, t402, t403, t404, t405, t406, t407, t408, t409, t410, t411, t412, t413, t414, t415, t416, t417, t418], []⟩ w := by
  have HQ : Hid _ := hQ
  clear hQ
  have hl : (l1 ++ e :: l2).length ≤ 900 := by have := S.held; have := len_held (l1 ++ e :: l2); omega
  have hl0 : (l1 ++ l2).length ≤ 900 := by simp at hl ⊢; omega
  have Hh0 : Hid (heldOf (e :: (l1 ++ l2)) = heldOf (l1 ++ e :: l2)) := heldOf_front l1 l2 e
  have HK : Hid _ := kept_hit (now := now) (c := c) S.inv hl (by have := S.held; omega) (by omega) hkw (by omega) hc hyes hke hexp h0 h1
  have HS : Hid _ := S
  have HM : Hid _ := M
  have ss := slsn
  have E := S.inv.ents e (by simp)
  have hsz := E.sz
  have hm6 := E.mz
  have hwsub : IntKind.i64.wrap (now - e.since) = now - e.since := wrap64 (by omega) (by omega)
  have Hfind : Hid (∀ w1 : World, MR w1 mv (l1 ++ e :: l2) → Calls Yba.prog 15 #[mv, .string (joinB xs)] w1 fun r w' => r = .returned (.int .i64 l1.length) ∧ w' = w1) := fun w1 h => find_hit mv l1 l2 e _ w1 h hl hke hn1
  have hdexp : decide (F ≤ now - e.since) = false := by simp; omega
  clear S M hkw hj hn1 hyes E hke
  generalize joinB xs = key at *
  generalize xs.length = n at *
  refine wp_mono (Q := nrm Q) ?_ nrm_imp
  conv => arg 2; whnf
  go_upto_region 24 with (first
    | (refine wpList_load_row rfl 84 (.tmp 17) rfl qb rfl 84 _ (0, 0) _ hq Yba.underlying84 rfl (info84 _ rfl) ?_)
    | (go_at_call 14; refine Calls.mono HK.out ?_; rintro r w1 hr; obtain ⟨b, rfl, hE, I1, fr1⟩ := hr; have HE1 : Hid (EqIn w1 (.slice (some ⟨b, 0, none⟩) e.m e.m) e.m) := hE; have HM1 : Hid (Mo κ (l1 ++ e :: l2) w1 mv) := HM.out.step fr1 (fun _ _ => rfl); have HS1 : Hid (St w0 cb nb mb N K F κ (e :: (l1 ++ l2)) w1) := HS.out.step I1 (by rw [Hh0.out]; exact HS.out.held) fr1 (fun _ _ => rfl); clear I1 fr1 hE)
    | (go_at_call 15; refine Calls.mono (Hfind.out w1 HM1.out.row) ?_; rintro r w2 ⟨rfl, hw⟩; rw [hw]; clear hw w2))
  obtain ⟨g0, cap0, hmv, hcap0, d0, d1, d2, d3⟩ := HM1.out.row.at'
  have f2 : w1.cell? ⟨cb, 2, none⟩ = some (.int .i64 F) := by have := HS1.out.cfg; unfold World.cell?; rw [this]; rfl
  have Hrem : Hid (∀ w2 : World, MR w2 mv (l1 ++ e :: l2) → Calls Yba.prog 17 #[mv, .int .i64 l1.length] w2 _) := fun w2 h => remove_any17 mv l1 l2 e w2 h hl
  rw [hmv] at Hrem
  subst hmv
  clear hl
  have hi0 : (0 : Int) ≤ (l1.length : Int) := by omega
  have hi1 : (l1.length : Int) < (l1.length : Int) + 1 + (l2.length : Int) := by omega
  generalize hll1 : l1.length = n1 at *
  go_quiet (fail)
  rename_i nq
  have HS1' : Hid (St w0 cb nb mb N K F κ (e :: (l1 ++ l2)) (w1.drewN nq)) := HS1.out.dN nq
  have HM1' : Hid (Mo κ (l1 ++ e :: l2) (w1.drewN nq) (.slice (some ⟨g0, 0, none⟩) (n1 + 1 + l2.length) cap0)) := HM1.out.dN nq
  have HE1' : Hid (EqIn (w1.drewN nq) (.slice (some ⟨b, 0, none⟩) e.m e.m) e.m) := HE1.out
  have d0' : (w1.drewN nq).cell? ⟨g0, n1 * 4, none⟩ = some (.string e.key) := d0
  have d1' : (w1.drewN nq).cell? ⟨g0, n1 * 4 + 1, none⟩ = some (.int .i64 (e.m : Nat)) := d1
  have d2' : (w1.drewN nq).cell? ⟨g0, n1 * 4 + 2, none⟩ = some (.bool e.come) := d2
  have d3' : (w1.drewN nq).cell? ⟨g0, n1 * 4 + 3, none⟩ = some (.int .i64 e.since) := d3
  clear d0 d1 d2 d3 f2
  generalize w1.drewN nq = wz at *
  clear HS HM HK HS1 HM1 Hfind
  go_upto_region 36 with fail
  have gA := World.grownBy_alloc wz (.cells #[.string e.key, .int .i64 (e.m : Nat), .bool e.come, .int .i64 e.since] 91) none
  have HSa : Hid (St w0 cb nb mb N K F (kz κ wz.heap.size) (e :: (l1 ++ l2)) _) := HS1'.out.grow gA
  have HMa : Hid (Mo (kz κ wz.heap.size) (l1 ++ e :: l2) _ (.slice (some ⟨g0, 0, none⟩) (n1 + 1 + l2.length) cap0)) := HM1'.out.grow gA
  have HEa : Hid (EqIn _ (.slice (some ⟨b, 0, none⟩) e.m e.m) e.m) := EqIn.grown HE1'.out gA
  have b0 : (wz.alloc (.cells #[.string e.key, .int .i64 (e.m : Nat), .bool e.come, .int .i64 e.since] 91)).cell? ⟨wz.heap.size, 0, none⟩ = some (.string e.key) := cell_new rfl
  have b1 : (wz.alloc (.cells #[.string e.key, .int .i64 (e.m : Nat), .bool e.come, .int .i64 e.since] 91)).cell? ⟨wz.heap.size, 1, none⟩ = some (.int .i64 (e.m : Nat)) := cell_new rfl
  have b2 : (wz.alloc (.cells #[.string e.key, .int .i64 (e.m : Nat), .bool e.come, .int .i64 e.since] 91)).cell? ⟨wz.heap.size, 2, none⟩ = some (.bool e.come) := cell_new rfl
  have b3 : (wz.alloc (.cells #[.string e.key, .int .i64 (e.m : Nat), .bool e.come, .int .i64 e.since] 91)).cell? ⟨wz.heap.size, 3, none⟩ = some (.int .i64 e.since) := cell_new rfl
  generalize wz.alloc (.cells #[.string e.key, .int .i64 (e.m : Nat), .bool e.come, .int .i64 e.since] 91) = w5 at *
  clear gA d0' d1' d2' d3' HS1' HM1' HE1' HE1
  generalize kz κ wz.heap.size = κ5 at *
  generalize wz.heap.size = zb at *
  have HR1 : Hid (∀ n, Calls Yba.prog 17 #[.slice (some ⟨g0, 0, none⟩) (n1 + 1 + l2.length) cap0, .int .i64 n1] (w5.drewN n) fun r w' => ∃ g cap, r = .returned (.slice (some ⟨g, 0, none⟩) (l1 ++ l2).length cap) ∧ w5.heap.size ≤ g ∧ MR w' (.slice (some ⟨g, 0, none⟩) (l1 ++ l2).length cap) (l1 ++ l2) ∧ w5.grownBy w' none) := fun n => (Hrem.out (w5.drewN n) (HMa.out.dN n).row).mono (fun r w' h => by
    obtain ⟨g, cap, h1, h2, h3, h4⟩ := h
    exact ⟨g, cap, h1, h2, h3, grown_trans (gdN (World.grownBy.refl _ _) n) h4⟩)
  have HP : Hid (∀ (v : Value) (w2 : World), MR w2 v (l1 ++ l2) → Calls Yba.prog 18 #[v, .agg #[.string e.key, .int .i64 (e.m : Nat), .bool e.come, .int .i64 e.since]] w2 fun r w' => ∃ g cap, r = .returned (.slice (some ⟨g, 0, none⟩) ((l1 ++ l2).length + 1) cap) ∧ w2.heap.size ≤ g ∧ MR w' (.slice (some ⟨g, 0, none⟩) ((l1 ++ l2).length + 1) cap) (e :: (l1 ++ l2)) ∧ w2.grownBy w' none) := fun v w2 h => prepend_any v (l1 ++ l2) e w2 h hl0
  clear Hrem hl0
  generalize hL0 : l1 ++ l2 = L0 at *
  generalize heldOf (l1 ++ e :: l2) = H1 at *
  clear hL0 hll1
  generalize l2.length = n2 at *
  go_cut [11] from 162 to 166 (fun s11 wx => ∃ g cap, s11 = .slice (some ⟨g, 0, none⟩) (L0.length + 1) cap ∧ w5.heap.size ≤ g ∧ MR wx s11 (e :: L0) ∧ w5.grownBy wx none)
  case first =>
    go_region_with (first
      | (go_at_call 17; refine Calls.mono (HR1.out _) ?_; rintro r w2 ⟨g1, cap1, rfl, hg0, hM2, hg2⟩; have HM2 : Hid _ := hM2; have HG2 : Hid _ := hg2; have e0 := cell_grown b0 hg2; have e1 := cell_grown b1 hg2; have e2 := cell_grown b2 hg2; have e3 := cell_grown b3 hg2; clear hg0 hM2 hg2)
      | (go_at_call 18; refine Calls.mono (HP.out _ _ HM2.out) ?_; rintro r w3 ⟨g, cap, rfl, hg0, hM3, hg3⟩; have HR3 : Hid (w5.heap.size ≤ g ∧ MR w3 (.slice (some ⟨g, 0, none⟩) (L0.length + 1) cap) (e :: L0) ∧ w5.grownBy w3 none) := ⟨Nat.le_trans HG2.out.size hg0, hM3, grown_trans HG2.out hg3⟩; clear hg0 hM3 hg3))
    all_goals
      go_wp2_with fail
      go_meet
      exact ⟨_, _, rfl, HR3.out⟩
  case rest =>
    obtain ⟨g, cap, rfl, hg0, hM6, hg6⟩ := hcut
    have HS6 : Hid (St w0 cb nb mb N K F (kz κ5 w5.heap.size) (e :: L0) wc) := HSa.out.grow hg6
    have HM6 : Hid (Mo (kz κ5 w5.heap.size) (e :: L0) wc (.slice (some ⟨g, 0, none⟩) (L0.length + 1) cap)) := ⟨hM6, fun g' hg' => (by cases hg'; exact kz_ge hg0)⟩
    have HE6 : Hid (EqIn wc (.slice (some ⟨b, 0, none⟩) e.m e.m) e.m) := HEa.out.grown hg6
    have x1 := cell_grown b1 hg6
    have x2 := cell_grown b2 hg6
    have HEq : Hid _ := eq_any _ e.m hm6 wc HE6.out
    have Hgot : Hid (0 < e.m → ∀ w7 : World, wc.grownBy w7 none → ∃ ao cap, w7.cell? ⟨b, 2, none⟩ = some (.slice ao 0 cap)) := fun h0 w7 g7 => by
      obtain ⟨ao', cap', hv, hh⟩ := HE6.out.grown g7
      obtain ⟨b', hb', hq'⟩ := hh h0
      injection hv with hv _ _
      rw [hb'] at hv
      injection hv with hv
      injection hv with hv
      subst hv
      obtain ⟨_, _, ao, cap, c2, _⟩ := hq' 0 h0
      exact ⟨ao, cap, c2⟩
    have hH := Hh0.out
    subst hH
    clear hg6 hg0 hM6 b0 b1 b2 b3 HSa HMa HEa HR1 HP HE6 Hh0
    have Hfin : Hid (∀ w7 : World, wc.grownBy w7 none → St w0 cb nb mb N K F (kz (kz κ5 w5.heap.size) wc.heap.size) (e :: L0) w7 ∧ Mo (kz (kz κ5 w5.heap.size) wc.heap.size) (e :: L0) w7 (.slice (some ⟨g, 0, none⟩) (L0.length + 1) cap)) := fun w7 g7 => ⟨HS6.out.grow g7, HM6.out.grow g7⟩
    clear HS6 HM6
    by_cases hz : e.m = 0
    · generalize e.m = em at *
      subst hz
      go_wp2_with (go_at_call 19; refine Calls.mono HEq.out ?_; rintro r w7 ⟨rfl, hg7⟩; have HG7 : Hid _ := hg7; clear hg7)
      exact HQ.out _ _ _ _ _ _ _ _ _ _ _ _ _ _ _ _ _ _ _ _ _ _ _ _ _ _ _ _ _ _ _ _ _ _ _ _ _ _ _ _ _ _ _ _ _ _ _ _ _ _ _ _ _ _ _ _ _ _ _ _ _ _ _ _ _ _ _ _ _ _ _ _ _ _ _ _ _ _ _ _ _ _ _ _ _ _ _ _ _ _ _ _ _ _ _ _ _ _ _ _ _ _ _ _ _ _ _ _ _ _ _ _ _ _ _ _ _ _ _ _ _ _ _ _ _ _ _ _ _ _ (Hfin.out _ HG7.out).1 (Hfin.out _ HG7.out).2
    · have hpos : 0 < e.m := by omega
      have hposI : (0 : Int) < (e.m : Int) := by omega
      have Hg2 : Hid _ := Hgot.out hpos
      generalize e.m = em at *
      go_wp2_with (go_at_call 19; refine Calls.mono HEq.out ?_; rintro r w7 ⟨rfl, hg7⟩; obtain ⟨ao7, cap7, q7⟩ := Hg2.out w7 hg7; have HG7 : Hid _ := hg7; clear hg7)
      exact HQ.out _ _ _ _ _ _ _ _ _ _ _ _ _ _ _ _ _ _ _ _ _ _ _ _ _ _ _ _ _ _ _ _ _ _ _ _ _ _ _ _ _ _ _ _ _ _ _ _ _ _ _ _ _ _ _ _ _ _ _ _ _ _ _ _ _ _ _ _ _ _ _ _ _ _ _ _ _ _ _ _ _ _ _ _ _ _ _ _ _ _ _ _ _ _ _ _ _ _ _ _ _ _ _ _ _ _ _ _ _ _ _ _ _ _ _ _ _ _ _ _ _ _ _ _ _ _ _ _ _ _ (Hfin.out _ HG7.out).1 (Hfin.out _ HG7.out).2
end Go.Proofs.Ybulkdbks
