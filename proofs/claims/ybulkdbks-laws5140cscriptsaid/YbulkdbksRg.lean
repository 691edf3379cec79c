import Derived.Test.YbulkdbksAll
import Derived.Test.YbulkdbksCk
import Derived.Test.YbulkdbksQs
namespace Go.Proofs.Ybulkdbks
open Go Go.RowKit
set_option linter.unusedVariables false

set_option maxHeartbeats 8000000 in
set_option maxRecDepth 1000000 in
theorem r_go {w0 wr : World} {cb nb mb N bb off n cap i : Nat} {K F d k a m t : Int} {κ : Nat → Nat} {L : List Ent} {mv : Value} (S : St w0 cb nb mb N K F κ L wr) (M : Mo κ L wr mv) (hN : N ≤ 10) (hF : 0 ≤ F ∧ F ≤ 1000) (hi : i < n) (hn : n ≤ 400)
    (hd : 0 ≤ d ∧ d < 256) (hk : 0 ≤ k ∧ k < 256) (ha : 0 ≤ a ∧ a < 256) (hm : 0 ≤ m ∧ m < 256) (ht : 0 ≤ t ∧ t < 256)
    (o0 : wr.cell? ⟨bb, off + i * 5, none⟩ = some (.int .u8 d)) (o1 : wr.cell? ⟨bb, off + i * 5 + 1, none⟩ = some (.int .u8 k)) (o2 : wr.cell? ⟨bb, off + i * 5 + 2, none⟩ = some (.int .u8 a)) (o3 : wr.cell? ⟨bb, off + i * 5 + 3, none⟩ = some (.int .u8 m)) (o4 : wr.cell? ⟨bb, off + i * 5 + 4, none⟩ = some (.int .u8 t))
    (c0 c1 c2 c3 c4 c5 c6 c7 c13 c36 c37 c38 c39 c40 c41 c42 c43 c44 c45 c46 c47 c48 c49 c50 c51 c52 c53 c54 t8 t14 t15 t16 t17 t18 t19 t20 t21 t22 t23 t24 t25 t26 t27 t28 t29 t30 t31 t32 t33 t34 t35 t58 t59 t60 t61 t62 t63 t64 t65 t66 t67 t68 t69 t70 t71 t72 t73 t74 t75 t76 t77 t78 t79 t80 t81 t82 t83 t84 t85 t86 t87 t88 t89 t90 t91 t92 t93 t94 t95 t96 t97 t98 t99 t100 t101 t102 t103 t104 t105 t106 t107 t108 t109 t110 t111 t112 t113 t114 t115 t116 t117 t118 t119 t120 t121 t122 t123 t124 t125 t126 t127 t128 t129 t130 t131 t132 t133 t134 t135 t136 t137 t138 t139 t140 t141 t142 t143 t144 t145 t146 t147 t148 t149 t150 t151 t152 t153 t154 t155 t156 t157 t158 t159 t160 t161 t162 t163 t164 t165 t166 t167 t168 t169 t170 t171 t172 t173 t174 t175 t176 t177 t178 t179 t180 t181 t182 t183 t184 t185 t186 t187 t188 t189 t190 t191 t192 t193 t194 t195 t196 t197 t198 t199 t200 t201 t202 t203 t204 t205 t206 t207 t208 t209 t210 t211 t212 t213 t214 t215 t216 t217 t218 t219 t220 t221 t222 t223 t224 t225 t226 t227 t228 t229 t230 t231 t232 t233 t234 t235 t236 t237 t238 t239 t240 t241 t242 t243 t244 t245 t246 t247 t248 t249 t250 t251 t252 t253 t254 t255 t256 t257 t258 t259 t260 t261 t262 t263 t264 t265 t266 t267 t268 t269 t270 t271 t272 t273 t274 t275 t276 t277 t278 t279 t280 t281 t282 t283 t284 t285 t286 t287 t288 t289 t290 t291 t292 t293 t294 t295 t296 t297 t298 t299 t300 t301 t302 t303 t304 t305 t306 t307 t308 t309 t310 t311 t312 t313 t314 t315 t316 t317 t318 t319 t320 t321 t322 t323 t324 t325 t326 t327 t328 t329 t330 t331 t332 t333 t334 t335 t336 t337 t338 t339 t340 t341 t342 t343 t344 t345 t346 t347 t348 t349 t350 t351 t352 t353 t354 t355 t356 t357 t358 t359 t360 t361 t362 t363 t364 t365 t366 t367 t368 t369 t370 t371 t372 t373 t374 t375 t376 t377 t378 t379 t380 t381 t382 t383 t384 t385 t386 t387 t388 t389 t390 t391 t392 t393 t394 t395 t396 t397 t398 t399 t400 t401 t402 t403 t404 t405 t406 t407 t408 t409 t410 t411 t412 t413 t414 t415 t416 t417 t418 : Value) (Q0 : Exit → Act → World → Prop) (K0 : Act → World → Prop)
    (hK : ∀ (t8 t14 t15 t16 t17 t18 t19 t20 t21 t22 t23 t24 t25 t26 t27 t28 t29 t30 t31 t32 t33 t34 t35 t58 t59 t60 t61 t62 t63 t64 t65 t66 t67 t68 t69 t70 t71 t72 t73 t74 t75 t76 t77 t78 t79 t80 t81 t82 t83 t84 t85 t86 t87 t88 t89 t90 t91 t92 t93 t94 t95 t96 t97 t98 t99 t100 t101 t102 t103 t104 t105 t106 t107 t108 t109 t110 t111 t112 t113 t114 t115 t116 t117 t118 t119 t120 t121 t122 t123 t124 t125 t126 t127 t128 t129 t130 t131 t132 t133 t134 t135 t136 t137 t138 t139 t140 t141 t142 t143 t144 t145 t146 t147 t148 t149 t150 t151 t152 t153 t154 t155 t156 t157 t158 t159 t160 t161 t162 t163 t164 t165 t166 t167 t168 t169 t170 t171 t172 t173 t174 t175 t176 t177 t178 t179 t180 t181 t182 t183 t184 t185 t186 t187 t188 t189 t190 t191 t192 t193 t194 t195 t196 t197 t198 t199 t200 t201 t202 t203 t204 t205 t206 t207 t208 t209 t210 t211 t212 t213 t214 t215 t216 t217 t218 t219 t220 t221 t222 t223 t224 t225 t226 t227 t228 t229 t230 t231 t232 t233 t234 t235 t236 t237 t238 t239 t240 t241 t242 t243 t244 t245 t246 t247 t248 t249 t250 t251 t252 t253 t254 t255 t256 t257 t258 t259 t260 t261 t262 t263 t264 t265 t266 t267 t268 t269 t270 t271 t272 t273 t274 t275 t276 t277 t278 t279 t280 t281 t282 t283 t284 t285 t286 t287 t288 t289 t290 t291 t292 t293 t294 t295 t296 t297 t298 t299 t300 t301 t302 t303 t304 t305 t306 t307 t308 t309 t310 t311 t312 t313 t314 t315 t316 t317 t318 t319 t320 t321 t322 t323 t324 t325 t326 t327 t328 t329 t330 t331 t332 t333 t334 t335 t336 t337 t338 t339 t340 t341 t342 t343 t344 t345 t346 t347 t348 t349 t350 t351 t352 t353 t354 t355 t356 t357 t358 t359 t360 t361 t362 t363 t364 t365 t366 t367 t368 t369 t370 t371 t372 t373 t374 t375 t376 t377 t378 t379 t380 t381 t382 t383 t384 t385 t386 t387 t388 t389 t390 t391 t392 t393 t394 t395 t396 t397 t398 t399 t400 t401 t402 t403 t404 t405 t406 t407 t408 t409 t410 t411 t412 t413 t414 t415 t416 t417 t418 : Value) (κ' : Nat → Nat) (L' : List Ent) (mv' : Value) (w' : World), St w0 cb nb mb N K F κ' L' w' → Mo κ' L' w' mv' → K0 ⟨#[c0, c1, c2, c3, c4, c5, c6, c7, t8, (ptr cb 0), (ptr nb 0), mv', (.int .i64 (heldOf L' : Nat)), c13, t14, t15, t16, t17, t18, t19, t20, t21, t22, t23, t24, t25, t26, t27, t28, t29, t30, t31, t32, t33, t34, t35, c36, c37, c38, c39, c40, c41, c42, c43, c44, c45, c46, c47, c48, c49, c50, c51, c52, c53, c54, (.slice (some ⟨bb, off, none⟩) n cap), (.int .i64 (n : Nat)), (.int .i64 ((i + 1 : Nat) : Int)), t58, t59, t60, t61, t62, t63, t64, t65, t66, t67, t68, t69, t70, t71, t72, t73, t74, t75, t76, t77, t78, t79, t80, t81, t82, t83, t84, t85, t86, t87, t88, t89, t90, t91, t92, t93, t94, t95, t96, t97, t98, t99, t100, t101, t102, t103, t104, t105, t106, t107, t108, t109, t110, t111, t112, t113, t114, t115, t116, t117, t118, t119, t120, t121, t122, t123, t124, t125, t126, t127, t128, t129, t130, t131, t132, t133, t134, t135, t136, t137, t138, t139, t140, t141, t142, t143, t144, t145, t146, t147, t148, t149, t150, t151, t152, t153, t154, t155, t156, t157, t158, t159, t160, t161, t162, t163, t164, t165, t166, t167, t168, t169, t170, t171, t172, t173, t174, t175, t176, t177, t178, t179, t180, t181, t182, t183, t184, t185, t186, t187, t188, t189, t190, t191, t192, t193, t194, t195, t196, t197, t198, t199, t200, t201, t202, t203, t204, t205, t206, t207, t208, t209, t210, t211, t212, t213, t214, t215, t216, t217, t218, t219, t220, t221, t222, t223, t224, t225, t226, t227, t228, t229, t230, t231, t232, t233, t234, t235, t236, t237, t238, t239, t240, t241, t242, t243, t244, t245, t246, t247, t248, t249, t250, t251, t252, t253, t254, t255, t256, t257, t258, t259, t260, t261, t262, t263, t264, t265, t266, t267, t268, t269, t270, t271, t272, t273, t274, t275, t276, t277, t278, t279, t280, t281, t282, t283, t284, t285, t286, t287, t288, t289, t290, t291, t292, t293, t294, t295, t296, t297, t298, t299, t300, t301, t302, t303, t304, t305, t306, t307, t308, t309, t310, t311, t312, t313, t314, t315, t316, t317, t318, t319, t320, t321, t322, t323, t324, t325, t326, t327, t328, t329, t330, t331, t332, t333, t334, t335, t336, t337, t338, t339, t340, t341, t342, t343, t344, t345, t346, t347, t348, t349, t350, t351, t352, t353, t354, t355, t356, t357, t358, t359, t360, t361, t362, t363, t364, t365, t366, t367, t368, t369, t370, t371, t372, t373, t374, t375, t376, t377, t378, t379, t380, t381, t382, t383, t384, t385, t386, t387, t388, t389, t390, t391, t392, t393, t394, t395, t396, t397, t398, t399, t400, t401, t402, t403, t404, t405, t406, t407, t408, t409, t410, t411, t412, t413, t414, t415, t416, t417, t418], []⟩ w') :
    Code.wp Yba.prog pL (Exit.then K0 Q0) ⟨#[c0, c1, c2, c3, c4, c5, c6, c7, t8, (ptr cb 0), (ptr nb 0), mv, (.int .i64 (heldOf L : Nat)), c13, t14, t15, t16, t17, t18, t19, t20, t21, t22, t23, t24, t25, t26, t27, t28, t29, t30, t31, t32, t33, t34, t35, c36, c37, c38, c39, c40, c41, c42, c43, c44, c45, c46, c47, c48, c49, c50, c51, c52, c53, c54, (.slice (some ⟨bb, off, none⟩) n cap), (.int .i64 (n : Nat)), (.int .i64 (i : Nat)), t58, t59, t60, t61, t62, t63, t64, t65, t66, t67, t68, t69, t70, t71, t72, t73, t74, t75, t76, t77, t78, t79, t80, t81, t82, t83, t84, t85, t86, t87, t88, t89, t90, t91, t92, t93, t94, t95, t96, t97, t98, t99, t100, t101, t102, t103, t104, t105, t106, t107, t108, t109, t110, t111, t112, t113, t114, t115, t116, t117, t118, t119, t120, t121, t122, t123, t124, t125, t126, t127, t128, t129, t130, t131, t132, t133, t134, t135, t136, t137, t138, t139, t140, t141, t142, t143, t144, t145, t146, t147, t148, t149, t150, t151, t152, t153, t154, t155, t156, t157, t158, t159, t160, t161, t162, t163, t164, t165, t166, t167, t168, t169, t170, t171, t172, t173, t174, t175, t176, t177, t178, t179, t180, t181, t182, t183, t184, t185, t186, t187, t188, t189, t190, t191, t192, t193, t194, t195, t196, t197, t198, t199, t200, t201, t202, t203, t204, t205, t206, t207, t208, t209, t210, t211, t212, t213, t214, t215, t216, t217, t218, t219, t220, t221, t222, t223, t224, t225, t226, t227, t228, t229, t230, t231, t232, t233, t234, t235, t236, t237, t238, t239, t240, t241, t242, t243, t244, t245, t246, t247, t248, t249, t250, t251, t252, t253, t254, t255, t256, t257, t258, t259, t260, t261, t262, t263, t264, t265, t266, t267, t268, t269, t270, t271, t272, t273, t274, t275, t276, t277, t278, t279, t280, t281, t282, t283, t284, t285, t286, t287, t288, t289, t290, t291, t292, t293, t294, t295, t296, t297, t298, t299, t300, t301, t302, t303, t304, t305, t306, t307, t308, t309, t310, t311, t312, t313, t314, t315, t316, t317, t318, t319, t320, t321, t322, t323, t324, t325, t326, t327, t328, t329, t330, t331, t332, t333, t334, t335, t336, t337, t338, t339, t340, t341, t342, t343, t344, t345, t346, t347, t348, t349, t350, t351, t352, t353, t354, t355, t356, t357, t358, t359, t360, t361, t362, t363, t364, t365, t366, t367, t368, t369, t370, t371, t372, t373, t374, t375, t376, t377, t378, t379, t380, t381, t382, t383, t384, t385, t386, t387, t388, t389, t390, t391, t392, t393, t394, t395, t396, t397, t398, t399, t400, t401, t402, t403, t404, t405, t406, t407, t408, t409, t410, t411, t412, t413, t414, t415, t416, t417, t418], []⟩ wr := by
  have HK : Hid _ := hK
  have HS : Hid (St w0 cb nb mb N K F κ L wr) := S
  have HM : Hid (Mo κ L wr mv) := M
  have hiI : (i : Int) < (n : Int) := by omega
  have gA := World.grownBy_alloc wr (.cells #[.int .u8 d, .int .u8 k, .int .u8 a, .int .u8 m, .int .u8 t] 81) none
  have HSa : Hid (St w0 cb nb mb N K F (kz κ wr.heap.size) L _) := S.grow gA
  have HMa : Hid (Mo (kz κ wr.heap.size) L _ mv) := M.grow gA
  have HW : Hid (Calls Yba.prog 12 #[.int .u8 k, .int .u8 a] (wr.alloc (.cells #[.int .u8 d, .int .u8 k, .int .u8 a, .int .u8 m, .int .u8 t] 81)) fun r w' => ∃ xs : List ByteArray, r = .returned (.slice (some ⟨(wr.alloc (.cells #[.int .u8 d, .int .u8 k, .int .u8 a, .int .u8 m, .int .u8 t] 81)).heap.size + 1, 0, none⟩) xs.length xs.length) ∧ xs.length ≤ 4 ∧ WRow (wr.alloc (.cells #[.int .u8 d, .int .u8 k, .int .u8 a, .int .u8 m, .int .u8 t] 81)) w' ((wr.alloc (.cells #[.int .u8 d, .int .u8 k, .int .u8 a, .int .u8 m, .int .u8 t] 81)).heap.size + 1) xs.length xs) :=
    (words_any k a hk ha _).mono (fun r w' h => by obtain ⟨xs, h1, h2, h3⟩ := h; exact ⟨xs, h2, h1, h3⟩)
  have b0 : (wr.alloc (.cells #[.int .u8 d, .int .u8 k, .int .u8 a, .int .u8 m, .int .u8 t] 81)).cell? ⟨wr.heap.size, 0, none⟩ = some (.int .u8 d) := cell_new rfl
  have b1 : (wr.alloc (.cells #[.int .u8 d, .int .u8 k, .int .u8 a, .int .u8 m, .int .u8 t] 81)).cell? ⟨wr.heap.size, 1, none⟩ = some (.int .u8 k) := cell_new rfl
  have b2 : (wr.alloc (.cells #[.int .u8 d, .int .u8 k, .int .u8 a, .int .u8 m, .int .u8 t] 81)).cell? ⟨wr.heap.size, 2, none⟩ = some (.int .u8 a) := cell_new rfl
  have b3 : (wr.alloc (.cells #[.int .u8 d, .int .u8 k, .int .u8 a, .int .u8 m, .int .u8 t] 81)).cell? ⟨wr.heap.size, 3, none⟩ = some (.int .u8 m) := cell_new rfl
  have b4 : (wr.alloc (.cells #[.int .u8 d, .int .u8 k, .int .u8 a, .int .u8 m, .int .u8 t] 81)).cell? ⟨wr.heap.size, 4, none⟩ = some (.int .u8 t) := cell_new rfl
  clear hK S M gA
  conv => arg 2; whnf
  go_upto_region 11 with fail
  generalize wr.alloc (.cells #[.int .u8 d, .int .u8 k, .int .u8 a, .int .u8 m, .int .u8 t] 81) = wa at *
  generalize kz κ wr.heap.size = κa at *
  generalize wr.heap.size = ob at *
  clear HS HM o0 o1 o2 o3 o4
  go_upto_region 13 with (go_at_call 12; refine Calls.mono HW.out ?_; rintro r w1 ⟨xs, rfl, hx4, hW⟩; have p0 := cell_grown b0 hW.gr; have p3 := cell_grown b3 hW.gr; have p4 := cell_grown b4 hW.gr; have HW1 : Hid (WRow wa w1 (wa.heap.size + 1) xs.length xs) := hW; clear hW)
  rename_i w1 _ _ v1 hv1 _ _
  injection hv1 with hv1
  subst hv1
  generalize hkb : wa.heap.size + 1 = kb at *
  have HKw : Hid (KwAt w1 kb xs) := ⟨HW1.out.wr.lt, HW1.out.at'⟩
  have Hone : Hid (∀ x ∈ xs, x.size = 1) := HW1.out.one
  have HS1 : Hid (St w0 cb nb mb N K F (kz κa wa.heap.size) L w1) := HSa.out.grow HW1.out.gr
  have HM1 : Hid (Mo (kz κa wa.heap.size) L w1 mv) := HMa.out.grow HW1.out.gr
  clear hkb HW HSa HMa b0 b1 b2 b3 b4 HW1
  generalize kz κa wa.heap.size = κ1 at *
  clear wa
  go_upto_region 14 with (refine wpList_store_mid rfl 84 (.tmp 17) (.tmp 71) rfl w1.heap.size 0 (qc (.slice (some ⟨kb, 0, none⟩) xs.length xs.length)) rfl rfl (there_new rfl) (info84 _ rfl) (qc_all _ _ _) ?_)
  conv => arg 4; whnf
  generalize hw2 : World.setCells (w1.alloc _) w1.heap.size 0 _ = w2
  have gQ : w1.grownBy w2 none := by rw [← hw2]; exact grown_fresh (World.grownBy_alloc w1 _ none) (grown_setCells _ _ _ _) (Nat.le_refl _)
  have HQ2 : Hid (w2.heap[w1.heap.size]? = some (.cells (qc (.slice (some ⟨kb, 0, none⟩) xs.length xs.length)) 84 (0, 0))) := by
    show _ = _
    rw [← hw2]
    exact setCells_all (qc (.slice (some ⟨kb, 0, none⟩) xs.length xs.length)) heap_new rfl
  clear hw2
  have HS2 : Hid (St w0 cb nb mb N K F (kz κ1 w1.heap.size) L w2) := HS1.out.grow gQ
  have HM2 : Hid (Mo (kz κ1 w1.heap.size) L w2 mv) := HM1.out.grow gQ
  have HKw2 : Hid (KwAt w2 kb xs) := HKw.out.grown gQ
  have q0 := cell_grown p0 gQ
  have q3 := cell_grown p3 gQ
  have f0 : w2.cell? ⟨cb, 0, none⟩ = some (.int .i64 (N : Int)) := by have := HS2.out.cfg; unfold World.cell?; rw [this]; rfl
  have f1 : w2.cell? ⟨cb, 1, none⟩ = some (.int .i64 K) := by have := HS2.out.cfg; unfold World.cell?; rw [this]; rfl
  clear gQ HS1 HM1 HKw p0 p3 p4
  generalize kz κ1 w1.heap.size = κ2 at *
  generalize w1.heap.size = qb at *
  clear w1
  obtain ⟨ks, hks⟩ : ∃ ks, ks = decide (0 < (N : Int) ∧ (xs.length : Int) ≤ K) := ⟨_, rfl⟩
  go_cut [18] from 72 to 81 (fun kv wx => kv = .bool ks ∧ wx = w2)
  case first =>
    obtain ⟨NI, hNI⟩ : ∃ NI : Int, NI = (N : Int) := ⟨_, rfl⟩
    rw [← hNI] at f0 hks
    clear hNI
    by_cases h1 : 0 < NI
    · have hd1 : decide (0 < NI) = true := decide_eq_true h1
      by_cases h2 : (xs.length : Int) ≤ K
      · have hk : ks = true := hks.trans (decide_eq_true ⟨h1, h2⟩)
        have hd2 : decide ((xs.length : Int) ≤ K) = true := decide_eq_true h2
        clear hks
        subst hk
        go_wp2_with fail
        go_meet
        exact ⟨rfl, rfl⟩
      · have hk : ks = false := hks.trans (decide_eq_false (fun h => h2 h.2))
        have hd2 : decide ((xs.length : Int) ≤ K) = false := decide_eq_false h2
        clear hks
        subst hk
        go_wp2_with fail
        go_meet
        exact ⟨rfl, rfl⟩
    · have hk : ks = false := hks.trans (decide_eq_false (fun h => h1 h.1))
      have hd1 : decide (0 < NI) = false := decide_eq_false h1
      clear hks
      subst hk
      go_wp2_with fail
      go_meet
      exact ⟨rfl, rfl⟩
  case rest =>
    obtain ⟨rfl, hwc⟩ := hcut
    subst hwc
    have HJn : Hid _ := join_any kb xs.length xs hx4 Hone.out wc HKw2.out
    have Hj : Hid ((joinB xs).size ≤ 100) := joinB_small hx4 Hone.out
    obtain ⟨tn, htn0, htn1, htn⟩ : ∃ tn : Int, 0 ≤ tn ∧ tn < 64 ∧ t % 64 = tn := ⟨t % 64, by omega, by omega, rfl⟩
    obtain ⟨mm, hmm6, hmm⟩ : ∃ mm : Nat, mm ≤ 6 ∧ m % 7 = (mm : Int) := ⟨(m % 7).toNat, by omega, by omega⟩
    have Hmm : Hid (m % 7 = (mm : Int)) := hmm
    have Hks : Hid _ := hks
    rw [htn]
    clear htn hmm hks f0 f1
    by_cases hdd : d % 2 = 0
    · go_upto_if 87 with (go_at_call 13; refine Calls.mono HJn.out ?_; rintro r w3 ⟨rfl, hw⟩; rw [hw]; clear hw w3)
      rename_i K2 hK2 _ _ w9 _ _ v9 hv9 K3 hK3
      injection hv9 with hv9
      subst hv9
      refine wp_cond (t := true) rfl ?_
      rw [if_pos rfl]
      refine a_all HS2.out HM2.out HKw2.out hx4 (Nat.le_refl _) Hj.out hN hF HQ2.out Hks.out htn0 htn1 _ _ _ _ _ _ _ _ _ _ _ _ _ _ _ _ _ _ _ _ _ _ _ _ _ _ _ _ _ _ _ _ _ _ _ _ _ _ _ _ _ _ _ _ _ _ _ _ _ _ _ _ _ _ _ _ _ _ _ _ _ _ _ _ _ _ _ _ _ _ _ _ _ _ _ _ _ _ _ _ _ _ _ _ _ _ _ _ _ _ _ _ _ _ _ _ _ _ _ _ _ _ _ _ _ _ _ _ _ _ _ _ _ _ _ _ _ _ _ _ _ _ _ _ _ _ _ _ _ _ _ _ _ _ _ _ _ _ _ _ _ _ _ _ _ _ _ _ _ _ _ _ _ _ _ _ _ _ _ _ _ _ _ _ _ _ _ _ _ _ _ _ _ _ _ _ _ _ _ _ _ _ _ _ _ _ _ _ _ _ _ _ _ _ _ _ _ _ _ _ _ _ _ _ _ _ _ _ _ _ _ _ _ _ _ _ _ _ _ _ _ _ _ _ _ _ _ _ _ _ _ _ _ _ _ _ _ _ _ _ _ _ _ _ _ _ _ _ _ _ _ _ _ _ _ _ _ _ _ _ _ _ _ _ _ _ _ _ _ _ _ _ _ _ _ _ _ _ _ _ _ _ _ _ _ _ _ _ _ _ _ _ _ _ _ _ _ _ _ _ _ _ _ _ _ _ _ _ _ _ _ _ _ _ _ _ _ _ _ _ _ _ _ _ _ _ _ _ _ _ _ _ _ _ _ _ _ _ _ _ _ _ _ _ _ _ _ _ _ _ _ _ _ _ _ _ _ _ _ _ _ _ _ _ _ _ _ _ _ _ _ _ _ _ _ _ _ _ _ _ _ _ _ _ _ _ _ _ _ _ _ _ _ _ _ _ _ _ _ _ _ _ _ _ _ _ _ _ _ _ _ _ ?_
      intro u8 u20 u21 u22 u23 u24 u25 u26 u88 u89 u90 u91 u92 u93 u94 u95 u96 u97 u98 u99 u100 u101 u102 u103 u104 u105 u106 u107 u108 u109 u110 u111 u112 u113 u114 u115 u116 u117 u118 u119 u120 u121 u122 u123 u124 u125 u126 u127 u128 u129 u130 u131 u132 u133 u134 u135 u136 u137 u138 u139 u140 u141 u142 u143 u144 u145 u146 u147 u148 u149 u150 u151 u152 u153 u154 u155 u156 u157 u158 u159 u160 u161 u162 u163 u164 u165 u166 u167 u168 u169 u170 u171 u172 u173 u174 u175 u176 u177 u178 u179 u180 u181 u182 u183 u184 u185 u186 u187 u188 u189 u190 u191 u192 u193 u194 u195 u196 u197 u198 u199 u200 u201 u202 u203 u204 u205 κ' L' mv' w' S' M'
      refine hK3 _ _ ?_
      have hh' := S'.held
      have hl' := len_held L'
      refine ck_any S'.inv M'.row (by omega) (by omega) _ _ _ _ _ _ _ _ _ _ _ _ _ _ _ _ _ _ _ _ _ _ _ _ _ _ _ _ _ _ _ _ _ _ _ _ _ _ _ _ _ _ _ _ _ _ _ _ _ _ _ _ _ _ _ _ _ _ _ _ _ _ _ _ _ _ _ _ _ _ _ _ _ _ _ _ _ _ _ _ _ _ _ _ _ _ _ _ _ _ _ _ _ _ _ _ _ _ _ _ _ _ _ _ _ _ _ _ _ _ _ _ _ _ _ _ _ _ _ _ _ _ _ _ _ _ _ _ _ _ _ _ _ _ _ _ _ _ _ _ _ _ _ _ _ _ _ _ _ _ _ _ _ _ _ _ _ _ _ _ _ _ _ _ _ _ _ _ _ _ _ _ _ _ _ _ _ _ _ _ _ _ _ _ _ _ _ _ _ _ _ _ _ _ _ _ _ _ _ _ _ _ _ _ _ _ _ _ _ _ _ _ _ _ _ _ _ _ _ _ _ _ _ _ _ _ _ _ _ _ _ _ _ _ _ _ _ _ _ _ _ _ _ _ _ _ _ _ _ _ _ _ _ _ _ _ _ _ _ _ _ _ _ _ _ _ _ _ _ _ _ _ _ _ _ _ _ _ _ _ _ _ _ _ _ _ _ _ _ _ _ _ _ _ _ _ _ _ _ _ _ _ _ _ _ _ _ _ _ _ _ _ _ _ _ _ _ _ _ _ _ _ _ _ _ _ _ _ _ _ _ _ _ _ _ _ _ _ _ _ _ _ _ _ _ _ _ _ _ _ _ _ _ _ _ _ _ _ _ _ _ _ _ _ _ _ _ _ _ _ _ _ _ _ _ _ _ _ _ _ _ _ _ _ _ _ _ _ _ _ _ _ _ _ _ _ _ _ _ _ _ _ _ _ _ _ _ _ _ _ _ _ _ _ _ _ _ ?_
      intro v8 v32 v33 v34 v35 v314 v315 v316 v317 v318 v319 v320 v321 v322 v323 v324 v325 v326 v327 v328 v329 v330 v331 v332 v333 v334 v335 v336 v337 v338 v339 v340 v341 v342 v343 v344 v345 v346 v347 v348 v349 v350 v351 v352 v353 v354 v355 v356 v357 v358 v359 v360 v361 v362 v363 v364 v365 v366 v367 v368 v369 v370 v371 v372 v373 v374 v375 v376 v377 v378 v379 v380 v381 v382 v383 v384 v385 v386 v387 v388 v389 v390 v391 v392 v393 v394 v395 v396 v397 v398 v399 v400 v401 v402 v403 v404 v405 v406 v407 v408 v409 v410 v411 v412 v413 v414 v415 v416 v417 w'' g''
      refine hK2 _ _ ?_
      have HS9 : Hid _ := S'.grow g''
      have HM9 : Hid _ := M'.grow g''
      clear S' M' g'' hK2 hK3 hh' hl'
      go_wp2_with fail
      exact HK.out _ _ _ _ _ _ _ _ _ _ _ _ _ _ _ _ _ _ _ _ _ _ _ _ _ _ _ _ _ _ _ _ _ _ _ _ _ _ _ _ _ _ _ _ _ _ _ _ _ _ _ _ _ _ _ _ _ _ _ _ _ _ _ _ _ _ _ _ _ _ _ _ _ _ _ _ _ _ _ _ _ _ _ _ _ _ _ _ _ _ _ _ _ _ _ _ _ _ _ _ _ _ _ _ _ _ _ _ _ _ _ _ _ _ _ _ _ _ _ _ _ _ _ _ _ _ _ _ _ _ _ _ _ _ _ _ _ _ _ _ _ _ _ _ _ _ _ _ _ _ _ _ _ _ _ _ _ _ _ _ _ _ _ _ _ _ _ _ _ _ _ _ _ _ _ _ _ _ _ _ _ _ _ _ _ _ _ _ _ _ _ _ _ _ _ _ _ _ _ _ _ _ _ _ _ _ _ _ _ _ _ _ _ _ _ _ _ _ _ _ _ _ _ _ _ _ _ _ _ _ _ _ _ _ _ _ _ _ _ _ _ _ _ _ _ _ _ _ _ _ _ _ _ _ _ _ _ _ _ _ _ _ _ _ _ _ _ _ _ _ _ _ _ _ _ _ _ _ _ _ _ _ _ _ _ _ _ _ _ _ _ _ _ _ _ _ _ _ _ _ _ _ _ _ _ _ _ _ _ _ _ _ _ _ _ _ _ _ _ _ _ _ _ _ _ _ _ _ _ _ _ _ _ _ _ _ _ _ _ _ _ _ _ _ _ _ _ _ _ _ _ _ _ _ _ _ _ _ _ _ _ _ _ _ _ _ _ _ _ _ _ _ _ _ _ _ _ _ _ _ _ _ _ _ _ _ _ _ HS9.out HM9.out
    · have hdd1 : d % 2 = 1 := by omega
      go_upto_if 87 with (go_at_call 13; refine Calls.mono HJn.out ?_; rintro r w3 ⟨rfl, hw⟩; rw [hw]; clear hw w3)
      rename_i K2 hK2 _ _ w9 _ _ v9 hv9 K3 hK3
      injection hv9 with hv9
      subst hv9
      refine wp_cond (t := false) rfl ?_
      rw [if_neg Bool.false_ne_true]
      refine b_all HS2.out HM2.out HKw2.out hx4 (Nat.le_refl _) Hj.out hN hF HQ2.out q3 hm.1 hm.2 Hmm.out hmm6 Hks.out htn0 htn1 _ _ _ _ _ _ _ _ _ _ _ _ _ _ _ _ _ _ _ _ _ _ _ _ _ _ _ _ _ _ _ _ _ _ _ _ _ _ _ _ _ _ _ _ _ _ _ _ _ _ _ _ _ _ _ _ _ _ _ _ _ _ _ _ _ _ _ _ _ _ _ _ _ _ _ _ _ _ _ _ _ _ _ _ _ _ _ _ _ _ _ _ _ _ _ _ _ _ _ _ _ _ _ _ _ _ _ _ _ _ _ _ _ _ _ _ _ _ _ _ _ _ _ _ _ _ _ _ _ _ _ _ _ _ _ _ _ _ _ _ _ _ _ _ _ _ _ _ _ _ _ _ _ _ _ _ _ _ _ _ _ _ _ _ _ _ _ _ _ _ _ _ _ _ _ _ _ _ _ _ _ _ _ _ _ _ _ _ _ _ _ _ _ _ _ _ _ _ _ _ _ _ _ _ _ _ _ _ _ _ _ _ _ _ _ _ _ _ _ _ _ _ _ _ _ _ _ _ _ _ _ _ _ _ _ _ _ _ _ _ _ _ _ _ _ _ _ _ _ _ _ _ _ _ _ _ _ _ _ _ _ _ _ _ _ _ _ _ _ _ _ _ _ _ _ _ _ _ _ _ _ _ _ _ _ _ _ _ _ _ _ _ _ _ _ _ _ _ _ _ _ _ _ _ _ _ _ _ _ _ _ _ _ _ _ _ _ _ _ _ _ _ _ _ _ _ _ _ _ _ _ _ _ _ _ _ _ _ _ _ _ _ _ _ _ _ _ _ _ _ _ _ _ _ _ _ _ _ _ _ _ _ _ _ _ _ _ _ _ _ _ _ _ _ _ _ _ _ _ _ _ _ _ _ _ _ _ _ _ _ _ _ _ _ _ _ _ _ _ _ _ _ _ _ _ _ _ _ _ _ _ ?_
      intro u27 u28 u29 u30 u31 u206 u207 u208 u209 u210 u211 u212 u213 u214 u215 u216 u217 u218 u219 u220 u221 u222 u223 u224 u225 u226 u227 u228 u229 u230 u231 u232 u233 u234 u235 u236 u237 u238 u239 u240 u241 u242 u243 u244 u245 u246 u247 u248 u249 u250 u251 u252 u253 u254 u255 u256 u257 u258 u259 u260 u261 u262 u263 u264 u265 u266 u267 u268 u269 u270 u271 u272 u273 u274 u275 u276 u277 u278 u279 u280 u281 u282 u283 u284 u285 u286 u287 u288 u289 u290 u291 u292 u293 u294 u295 u296 u297 u298 u299 u300 u301 u302 u303 u304 u305 u306 u307 u308 u309 u310 u311 u312 u313 κ' L' mv' w' S' M'
      refine hK3 _ _ ?_
      have hh' := S'.held
      have hl' := len_held L'
      refine ck_any S'.inv M'.row (by omega) (by omega) _ _ _ _ _ _ _ _ _ _ _ _ _ _ _ _ _ _ _ _ _ _ _ _ _ _ _ _ _ _ _ _ _ _ _ _ _ _ _ _ _ _ _ _ _ _ _ _ _ _ _ _ _ _ _ _ _ _ _ _ _ _ _ _ _ _ _ _ _ _ _ _ _ _ _ _ _ _ _ _ _ _ _ _ _ _ _ _ _ _ _ _ _ _ _ _ _ _ _ _ _ _ _ _ _ _ _ _ _ _ _ _ _ _ _ _ _ _ _ _ _ _ _ _ _ _ _ _ _ _ _ _ _ _ _ _ _ _ _ _ _ _ _ _ _ _ _ _ _ _ _ _ _ _ _ _ _ _ _ _ _ _ _ _ _ _ _ _ _ _ _ _ _ _ _ _ _ _ _ _ _ _ _ _ _ _ _ _ _ _ _ _ _ _ _ _ _ _ _ _ _ _ _ _ _ _ _ _ _ _ _ _ _ _ _ _ _ _ _ _ _ _ _ _ _ _ _ _ _ _ _ _ _ _ _ _ _ _ _ _ _ _ _ _ _ _ _ _ _ _ _ _ _ _ _ _ _ _ _ _ _ _ _ _ _ _ _ _ _ _ _ _ _ _ _ _ _ _ _ _ _ _ _ _ _ _ _ _ _ _ _ _ _ _ _ _ _ _ _ _ _ _ _ _ _ _ _ _ _ _ _ _ _ _ _ _ _ _ _ _ _ _ _ _ _ _ _ _ _ _ _ _ _ _ _ _ _ _ _ _ _ _ _ _ _ _ _ _ _ _ _ _ _ _ _ _ _ _ _ _ _ _ _ _ _ _ _ _ _ _ _ _ _ _ _ _ _ _ _ _ _ _ _ _ _ _ _ _ _ _ _ _ _ _ _ _ _ _ _ _ _ _ _ _ _ _ _ _ _ _ _ _ _ _ _ _ _ ?_
      intro v8 v32 v33 v34 v35 v314 v315 v316 v317 v318 v319 v320 v321 v322 v323 v324 v325 v326 v327 v328 v329 v330 v331 v332 v333 v334 v335 v336 v337 v338 v339 v340 v341 v342 v343 v344 v345 v346 v347 v348 v349 v350 v351 v352 v353 v354 v355 v356 v357 v358 v359 v360 v361 v362 v363 v364 v365 v366 v367 v368 v369 v370 v371 v372 v373 v374 v375 v376 v377 v378 v379 v380 v381 v382 v383 v384 v385 v386 v387 v388 v389 v390 v391 v392 v393 v394 v395 v396 v397 v398 v399 v400 v401 v402 v403 v404 v405 v406 v407 v408 v409 v410 v411 v412 v413 v414 v415 v416 v417 w'' g''
      refine hK2 _ _ ?_
      have HS9 : Hid _ := S'.grow g''
      have HM9 : Hid _ := M'.grow g''
      clear S' M' g'' hK2 hK3 hh' hl'
      go_wp2_with fail
      exact HK.out _ _ _ _ _ _ _ _ _ _ _ _ _ _ _ _ _ _ _ _ _ _ _ _ _ _ _ _ _ _ _ _ _ _ _ _ _ _ _ _ _ _ _ _ _ _ _ _ _ _ _ _ _ _ _ _ _ _ _ _ _ _ _ _ _ _ _ _ _ _ _ _ _ _ _ _ _ _ _ _ _ _ _ _ _ _ _ _ _ _ _ _ _ _ _ _ _ _ _ _ _ _ _ _ _ _ _ _ _ _ _ _ _ _ _ _ _ _ _ _ _ _ _ _ _ _ _ _ _ _ _ _ _ _ _ _ _ _ _ _ _ _ _ _ _ _ _ _ _ _ _ _ _ _ _ _ _ _ _ _ _ _ _ _ _ _ _ _ _ _ _ _ _ _ _ _ _ _ _ _ _ _ _ _ _ _ _ _ _ _ _ _ _ _ _ _ _ _ _ _ _ _ _ _ _ _ _ _ _ _ _ _ _ _ _ _ _ _ _ _ _ _ _ _ _ _ _ _ _ _ _ _ _ _ _ _ _ _ _ _ _ _ _ _ _ _ _ _ _ _ _ _ _ _ _ _ _ _ _ _ _ _ _ _ _ _ _ _ _ _ _ _ _ _ _ _ _ _ _ _ _ _ _ _ _ _ _ _ _ _ _ _ _ _ _ _ _ _ _ _ _ _ _ _ _ _ _ _ _ _ _ _ _ _ _ _ _ _ _ _ _ _ _ _ _ _ _ _ _ _ _ _ _ _ _ _ _ _ _ _ _ _ _ _ _ _ _ _ _ _ _ _ _ _ _ _ _ _ _ _ _ _ _ _ _ _ _ _ _ _ _ _ _ _ _ _ _ _ _ _ _ _ _ _ _ _ _ _ HS9.out HM9.out
end Go.Proofs.Ybulkdbks
