import Derived.Test.YbulkdbksZz
import Derived.Deep.RegionHeld3
namespace Go.Proofs.Ybulkdbks
open Go Go.RowKit
set_option linter.unusedVariables false

set_option maxHeartbeats 8000000 in
set_option maxRecDepth 1000000 in
theorem b_top {w0 w : World} {cb nb mb N qb kb ob c m : Nat} {K F now M : Int} {κ : Nat → Nat} {L : List Ent} {mv : Value} {xs : List ByteArray} {ks : Bool} (S : St w0 cb nb mb N K F κ L w) (Mo0 : Mo κ L w mv) (hkw : KwAt w kb xs)
    (hq : w.heap[qb]? = some (.cells (qc (.slice (some ⟨kb, 0, none⟩) xs.length c)) 84 (0, 0))) (hop : w.cell? ⟨ob, 3, none⟩ = some (.int .u8 M)) (hM0 : 0 ≤ M) (hM1 : M < 256) (hMm : M % 7 = (m : Int)) (hm6 : m ≤ 6) (R : List Ent → Prop)
    (hK : ∀ (w1 : World) (κ1 : Nat → Nat), St w0 cb nb mb N K F κ1 L w1 → KwAt w1 kb xs → (∀ w', Fr κ1 w1 w' → SrcOk w' (.slice (some ⟨w.heap.size, 0, none⟩) m m) m) →
      Calls Yba.prog 21 #[ptr nb 0, qz (.slice (some ⟨kb, 0, none⟩) xs.length c), .slice (some ⟨w.heap.size, 0, none⟩) m m, .int .i64 now] w1 fun r w' => r = .returned (.tuple #[]) ∧ ∃ κ' L', R L' ∧ (∀ b, b < w1.heap.size → κ' b = κ1 b) ∧ Inv w' κ' nb mb (N : Int) K F L' ∧ heldOf L' ≤ N ∧ Fr κ1 w1 w')
    (t0 t1 t2 t3 t4 t5 t6 t7 t8 t13 t15 t20 t21 t22 t23 t24 t25 t26 t27 t28 t29 t30 t31 t32 t33 t34 t35 t36 t37 t38 t39 t40 t41 t42 t43 t44 t45 t46 t47 t48 t49 t50 t51 t52 t53 t54 t55 t56 t57 t58 t59 t60 t61 t62 t63 t64 t65 t66 t67 t68 t69 t70 t71 t72 t73 t74 t75 t76 t77 t78 t79 t80 t81 t82 t83 t84 t85 t86 t87 t88 t89 t90 t91 t92 t93 t94 t95 t96 t97 t98 t99 t100 t101 t102 t103 t104 t105 t106 t107 t108 t109 t110 t111 t112 t113 t114 t115 t116 t117 t118 t119 t120 t121 t122 t123 t124 t125 t126 t127 t128 t129 t130 t131 t132 t133 t134 t135 t136 t137 t138 t139 t140 t141 t142 t143 t144 t145 t146 t147 t148 t149 t150 t151 t152 t153 t154 t155 t156 t157 t158 t159 t160 t161 t162 t163 t164 t165 t166 t167 t168 t169 t170 t171 t172 t173 t174 t175 t176 t177 t178 t179 t180 t181 t182 t183 t184 t185 t186 t187 t188 t189 t190 t191 t192 t193 t194 t195 t196 t197 t198 t199 t200 t201 t202 t203 t204 t205 t206 t207 t208 t209 t210 t211 t212 t213 t214 t215 t216 t217 t218 t219 t220 t221 t222 t223 t224 t225 t226 t227 t228 t229 t230 t231 t232 t233 t234 t235 t236 t237 t238 t239 t240 t241 t242 t243 t244 t245 t246 t247 t248 t249 t250 t251 t252 t253 t254 t255 t256 t257 t258 t259 t260 t261 t262 t263 t264 t265 t266 t267 t268 t269 t270 t271 t272 t273 t274 t275 t276 t277 t278 t279 t280 t281 t282 t283 t284 t285 t286 t287 t288 t289 t290 t291 t292 t293 t294 t295 t296 t297 t298 t299 t300 t301 t302 t303 t304 t305 t306 t307 t308 t309 t310 t311 t312 t313 t314 t315 t316 t317 t318 t319 t320 t321 t322 t323 t324 t325 t326 t327 t328 t329 t330 t331 t332 t333 t334 t335 t336 t337 t338 t339 t340 t341 t342 t343 t344 t345 t346 t347 t348 t349 t350 t351 t352 t353 t354 t355 t356 t357 t358 t359 t360 t361 t362 t363 t364 t365 t366 t367 t368 t369 t370 t371 t372 t373 t374 t375 t376 t377 t378 t379 t380 t381 t382 t383 t384 t385 t386 t387 t388 t389 t390 t391 t392 t393 t394 t395 t396 t397 t398 t399 t400 t401 t402 t403 t404 t405 t406 t407 t408 t409 t410 t411 t412 t413 t414 t415 t416 t417 t418 : Value) (Q : Exit → Act → World → Prop)
    (hQ : ∀ (u28 u29 u206 u207 u208 u209 u210 u211 u212 u213 u214 u215 u216 u217 u218 u219 u220 u221 u222 u223 u224 u225 u226 u227 u228 u229 u230 u231 u232 u233 u234 u235 : Value) (κ' : Nat → Nat) (L' : List Ent) (w' : World), R L' → St w0 cb nb mb N K F κ' L' w' → Mo κ' L w' mv → Code.wp Yba.prog pB3 Q ⟨#[t0, t1, t2, t3, t4, t5, t6, t7, t8, (ptr cb 0), (ptr nb 0), mv, (.int .i64 (heldOf L : Nat)), t13, (ptr ob 0), t15, (.int .i64 now), (ptr qb 0), (.bool ks), (.string (joinB xs)), t20, t21, t22, t23, t24, t25, t26, (.int .i64 (m : Nat)), u28, u29, t30, t31, t32, t33, t34, t35, t36, t37, t38, t39, t40, t41, t42, t43, t44, t45, t46, t47, t48, t49, t50, t51, t52, t53, t54, t55, t56, t57, t58, t59, t60, t61, t62, t63, t64, t65, t66, t67, t68, t69, t70, t71, t72, t73, t74, t75, t76, t77, t78, t79, t80, t81, t82, t83, t84, t85, t86, t87, t88, t89, t90, t91, t92, t93, t94, t95, t96, t97, t98, t99, t100, t101, t102, t103, t104, t105, t106, t107, t108, t109, t110, t111, t112, t113, t114, t115, t116, t117, t118, t119, t120, t121, t122, t123, t124, t125, t126, t127, t128, t129, t130, t131, t132, t133, t134, t135, t136, t137, t138, t139, t140, t141, t142, t143, t144, t145, t146, t147, t148, t149, t150, t151, t152, t153, t154, t155, t156, t157, t158, t159, t160, t161, t162, t163, t164, t165, t166, t167, t168, t169, t170, t171, t172, t173, t174, t175, t176, t177, t178, t179, t180, t181, t182, t183, t184, t185, t186, t187, t188, t189, t190, t191, t192, t193, t194, t195, t196, t197, t198, t199, t200, t201, t202, t203, t204, t205, u206, u207, u208, u209, u210, u211, u212, u213, u214, u215, u216, u217, u218, u219, u220, u221, u222, u223, u224, u225, u226, u227, u228, u229, u230, u231, u232, u233, u234, u235, (.bool ks), t237, t238, t239, t240, t241, t242, t243, t244, t245, t246, t247, t248, t249, t250, t251, t252, t253, t254, t255, t256, t257, t258, t259, t260, t261, t262, t263, t264, t265, t266, t267, t268, t269, t270, t271, t272, t273, t274, t275, t276, t277, t278, t279, t280, t281, t282, t283, t284, t285, t286, t287, t288, t289, t290, t291, t292, t293, t294, t295, t296, t297, t298, t299, t300, t301, t302, t303, t304, t305, t306, t307, t308, t309, t310, t311, t312, t313, t314, t315, t316, t317, t318, t319, t320, t321, t322, t323, t324, t325, t326, t327, t328, t329, t330, t331, t332, t333, t334, t335, t336, t337, t338, t339, t340, t341, t342, t343, t344, t345, t346, t347, t348, t349, t350, t351, t352, t353, t354, t355, t356, t357, t358, t359, t360, t361, t362, t363, t364, t365, t366, t367, t368, t369, t370, t371, t372, t373, t374, t375, t376, t377, t378, t379, t380, t381, t382, t383, t384, t385, t386, t387, t388, t389, t390, t391, t392, t393, t394, t395, t396, t397, t398, t399, t400, t401, t402, t403, t404, t405, t406, t407, t408, t409, t410, t411, t412, t413, t414, t415, t416, t417, t418], []⟩ w') :
    Code.wp Yba.prog pB Q ⟨#[t0, t1, t2, t3, t4, t5, t6, t7, t8, (ptr cb 0), (ptr nb 0), mv, (.int .i64 (heldOf L : Nat)), t13, (ptr ob 0), t15, (.int .i64 now), (ptr qb 0), (.bool ks), (.string (joinB xs)), t20, t21, t22, t23, t24, t25, t26, t27, t28, t29, t30, t31, t32, t33, t34, t35, t36, t37, t38, t39, t40, t41, t42, t43, t44, t45, t46, t47, t48, t49, t50, t51, t52, t53, t54, t55, t56, t57, t58, t59, t60, t61, t62, t63, t64, t65, t66, t67, t68, t69, t70, t71, t72, t73, t74, t75, t76, t77, t78, t79, t80, t81, t82, t83, t84, t85, t86, t87, t88, t89, t90, t91, t92, t93, t94, t95, t96, t97, t98, t99, t100, t101, t102, t103, t104, t105, t106, t107, t108, t109, t110, t111, t112, t113, t114, t115, t116, t117, t118, t119, t120, t121, t122, t123, t124, t125, t126, t127, t128, t129, t130, t131, t132, t133, t134, t135, t136, t137, t138, t139, t140, t141, t142, t143, t144, t145, t146, t147, t148, t149, t150, t151, t152, t153, t154, t155, t156, t157, t158, t159, t160, t161, t162, t163, t164, t165, t166, t167, t168, t169, t170, t171, t172, t173, t174, t175, t176, t177, t178, t179, t180, t181, t182, t183, t184, t185, t186, t187, t188, t189, t190, t191, t192, t193, t194, t195, t196, t197, t198, t199, t200, t201, t202, t203, t204, t205, t206, t207, t208, t209, t210, t211, t212, t213, t214, t215, t216, t217, t218, t219, t220, t221, t222, t223, t224, t225, t226, t227, t228, t229, t230, t231, t232, t233, t234, t235, t236, t237, t238, t239, t240, t241, t242, t243, t244, t245, t246, t247, t248, t249, t250, t251, t252, t253, t254, t255, t256, t257, t258, t259, t260, t261, t262, t263, t264, t265, t266, t267, t268, t269, t270, t271, t272, t273, t274, t275, t276, t277, t278, t279, t280, t281, t282, t283, t284, t285, t286, t287, t288, t289, t290, t291, t292, t293, t294, t295, t296, t297, t298, t299, t300, t301, t302, t303, t304, t305, t306, t307, t308, t309, t310, t311, t312, t313, t314, t315, t316, t317, t318, t319, t320, t321, t322, t323, t324, t325, t326, t327, t328, t329, t330, t331, t332, t333, t334, t335, t336, t337, t338, t339, t340, t341, t342, t343, t344, t345, t346, t347, t348, t349, t350, t351, t352, t353, t354, t355, t356, t357, t358, t359, t360, t361, t362, t363, t364, t365, t366, t367, t368, t369, t370, t371, t372, t373, t374, t375, t376, t377, t378, t379, t380, t381, t382, t383, t384, t385, t386, t387, t388, t389, t390, t391, t392, t393, t394, t395, t396, t397, t398, t399, t400, t401, t402, t403, t404, t405, t406, t407, t408, t409, t410, t411, t412, t413, t414, t415, t416, t417, t418], []⟩ w := by
  have HQ : Hid _ := hQ
  have HK : Hid _ := hK
  have HS : Hid (St w0 cb nb mb N K F κ L w) := S
  have HMo : Hid (Mo κ L w mv) := Mo0
  have HKw : Hid (KwAt w kb xs) := hkw
  have HMats : Hid _ := mats_any m hm6 w
  have lq : qb < w.heap.size := (Array.getElem?_eq_some_iff.1 hq).1
  have Hq : Hid (∀ w1 : World, w.grownBy w1 none → w1.heap[qb]? = some (.cells (qc (.slice (some ⟨kb, 0, none⟩) xs.length c)) 84 (0, 0))) := fun w1 g => (g.block qb lq (by simp)).trans hq
  have Hall : Hid (∀ w1 : World, NRow w w1 w.heap.size m m → Calls Yba.prog 21 #[ptr nb 0, qz (.slice (some ⟨kb, 0, none⟩) xs.length c), .slice (some ⟨w.heap.size, 0, none⟩) m m, .int .i64 now] w1 fun r w' => r = .returned (.tuple #[]) ∧ ∃ κ' L', R L' ∧ St w0 cb nb mb N K F κ' L' w' ∧ Mo κ' L w' mv ∧ (∀ b, w.heap.size ≤ b → b < w1.heap.size → κ' b = 0) ∧ ZRow w.heap.size w1.heap.size w' w' m) := fun w1 h => by
    have S1 := S.grow h.gr
    have M1 := Mo0.grow h.gr
    refine (hK w1 _ S1 (hkw.grown h.gr) (fun w' fr => nrow_src h (fun b h1 h2 => fr.block b h2 (by rw [kz_ge h1]; decide)))).mono ?_
    rintro r w' ⟨rfl, κ', L', hR, hk, I', hh, fr⟩
    exact ⟨rfl, κ', L', hR, S1.step I' hh fr hk, M1.step fr hk, fun b h1 h2 => (hk b h2).trans (kz_ge h1), ZRow.start h (fun b h1 h2 => fr.block b h2 (by rw [kz_ge h1]; decide))⟩
  clear hQ hK S Mo0 hkw hq HK
  generalize joinB xs = key at *
  generalize xs.length = n at *
  conv => arg 2; whnf
  go_upto_region 49 with (first
    | (go_at_call 20; refine Calls.mono HMats.out ?_; rintro r w1 ⟨rfl, hN⟩; have hq1 := Hq.out w1 hN.gr; have HN : Hid (NRow w w1 w.heap.size m m) := hN; clear hN)
    | (refine wpList_load_row rfl 84 (.tmp 17) rfl qb rfl 84 _ (0, 0) _ hq1 Yba.underlying84 rfl (info84 _ rfl) ?_)
    | (go_at_call 21; refine Calls.mono (Hall.out w1 HN.out) ?_; rintro r w5 ⟨rfl, hr⟩; have HR : Hid _ := hr; clear hr))
  obtain ⟨κ5, L5, hR5, S5, M5, hk5, Z5⟩ := HR.out
  have HR5 : Hid _ := hR5
  have HS5 : Hid (St w0 cb nb mb N K F κ5 L5 w5) := S5
  have HM5 : Hid (Mo κ5 L w5 mv) := M5
  have HZ5 : Hid (ZRow w.heap.size w1.heap.size w5 w5 m) := Z5
  have Hfin : Hid (∀ w6 : World, ZRow w.heap.size w1.heap.size w5 w6 m → St w0 cb nb mb N K F κ5 L5 w6 ∧ Mo κ5 L w6 mv) := fun w6 h => ⟨h.st HS.out S5 hk5, h.mo HMo.out M5⟩
  clear hR5 S5 M5 hk5 Z5 HR Hall HMats Hq hq1 HN HKw HS HMo hop
  generalize hB0 : w.heap.size = B0 at *
  generalize w1.heap.size = B1 at *
  clear hB0 lq
  go_wp2_with fail
  go_loopw [29] (fun si wr => ∃ q : Nat, q ≤ m ∧ si = .int .i64 q ∧ ZRow B0 B1 w5 wr m) (fun si _ => m - (intOf si).toNat)
  case atStart => exact ⟨0, Nat.zero_le _, rfl, HZ5.out⟩
  case round =>
    obtain ⟨q, hq, rfl, hZ⟩ := hrel
    have HZ : Hid (ZRow B0 B1 w5 wr m) := hZ
    clear hZ
    by_cases hlt : q < m
    · obtain ⟨hb, c2, h1, h2, hw, hc⟩ := HZ.out.ent q hlt
      rw [Nat.mul_comm 3 q] at c2
      have hltI : (q : Int) < (m : Int) := by omega
      have fz := hw.fz 0
      have Hb : Hid (B0 < hb ∧ hb < B1) := ⟨h1, h2⟩
      clear h1 h2 hw
      generalize q % 4 = r at *
      by_cases hr0 : 0 < r
      · obtain ⟨v0, hv0⟩ := hc hr0
        have hrI : (0 : Int) < (r : Int) := by omega
        clear hc
        go_wp2_with fail
        go_roundw
        case rel => exact ⟨q + 1, by omega, by go_num, HZ.out.step Hb.out.1 Hb.out.2⟩
        case measure => simp [intOf]; omega
      · have hrI : decide ((0 : Int) < (r : Int)) = false := by simp; omega
        obtain rfl : r = 0 := by omega
        clear hc
        go_wp2_with fail
        go_roundw
        case rel => exact ⟨q + 1, by omega, by go_num, HZ.out⟩
        case measure => simp [intOf]; omega
    · have hltI : ¬ (q : Int) < (m : Int) := by omega
      go_upto_if 236 with fail
      exact HQ.out _ _ _ _ _ _ _ _ _ _ _ _ _ _ _ _ _ _ _ _ _ _ _ _ _ _ _ _ _ _ _ _ _ _ _ HR5.out (Hfin.out _ HZ.out).1 (Hfin.out _ HZ.out).2
end Go.Proofs.Ybulkdbks
