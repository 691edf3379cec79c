import Derived.Test.YbulkdbksPq
import Derived.Deep.RegionHeld3
namespace Go.Proofs.Ybulkdbks
open Go Go.RowKit
set_option linter.unusedVariables false

set_option maxHeartbeats 8000000 in
set_option maxRecDepth 1000000 in
theorem a_miss {w0 w : World} {cb nb mb N qb kb c : Nat} {K F now : Int} {κ : Nat → Nat} {mv : Value} {xs : List ByteArray} {L : List Ent} (S : St w0 cb nb mb N K F κ (L) w) (M : Mo κ (L) w mv) (hkw : KwAt w kb xs) (hx : xs.length ≤ 4) (hc : xs.length ≤ c) (hj : (joinB xs).size ≤ 100) (hN : N ≤ 10) (hF : 0 ≤ F ∧ F ≤ 1000)
    (hq : w.heap[qb]? = some (.cells (qc (.slice (some ⟨kb, 0, none⟩) xs.length c)) 84 (0, 0))) (hyes : 0 < (N : Int) ∧ (xs.length : Int) ≤ K) (hnk : ∀ x ∈ L, x.key ≠ joinB xs) (h0 : 0 ≤ now) (h1 : now < 64) (t0 t1 t2 t3 t4 t5 t6 t7 t8 t13 t14 t15 t20 t21 t22 t23 t24 t25 t26 t27 t28 t29 t30 t31 t32 t33 t34 t35 t36 t37 t38 t39 t40 t41 t42 t43 t44 t45 t46 t47 t48 t49 t50 t51 t52 t53 t54 t55 t56 t57 t58 t59 t60 t61 t62 t63 t64 t65 t66 t67 t68 t69 t70 t71 t72 t73 t74 t75 t76 t77 t78 t79 t80 t81 t82 t83 t84 t85 t86 t87 t88 t89 t90 t91 t92 t93 t94 t95 t96 t97 t98 t99 t100 t101 t102 t103 t104 t105 t106 t107 t108 t109 t110 t111 t112 t113 t114 t115 t116 t117 t118 t119 t120 t121 t122 t123 t124 t125 t126 t127 t128 t129 t130 t131 t132 t133 t134 t135 t136 t137 t138 t139 t140 t141 t142 t143 t144 t145 t146 t147 t148 t149 t150 t151 t152 t153 t154 t155 t156 t157 t158 t159 t160 t161 t162 t163 t164 t165 t166 t167 t168 t169 t170 t171 t172 t173 t174 t175 t176 t177 t178 t179 t180 t181 t182 t183 t184 t185 t186 t187 t188 t189 t190 t191 t192 t193 t194 t195 t196 t197 t198 t199 t200 t201 t202 t203 t204 t205 t206 t207 t208 t209 t210 t211 t212 t213 t214 t215 t216 t217 t218 t219 t220 t221 t222 t223 t224 t225 t226 t227 t228 t229 t230 t231 t232 t233 t234 t235 t236 t237 t238 t239 t240 t241 t242 t243 t244 t245 t246 t247 t248 t249 t250 t251 t252 t253 t254 t255 t256 t257 t258 t259 t260 t261 t262 t263 t264 t265 t266 t267 t268 t269 t270 t271 t272 t273 t274 t275 t276 t277 t278 t279 t280 t281 t282 t283 t284 t285 t286 t287 t288 t289 t290 t291 t292 t293 t294 t295 t296 t297 t298 t299 t300 t301 t302 t303 t304 t305 t306 t307 t308 t309 t310 t311 t312 t313 t314 t315 t316 t317 t318 t319 t320 t321 t322 t323 t324 t325 t326 t327 t328 t329 t330 t331 t332 t333 t334 t335 t336 t337 t338 t339 t340 t341 t342 t343 t344 t345 t346 t347 t348 t349 t350 t351 t352 t353 t354 t355 t356 t357 t358 t359 t360 t361 t362 t363 t364 t365 t366 t367 t368 t369 t370 t371 t372 t373 t374 t375 t376 t377 t378 t379 t380 t381 t382 t383 t384 t385 t386 t387 t388 t389 t390 t391 t392 t393 t394 t395 t396 t397 t398 t399 t400 t401 t402 t403 t404 t405 t406 t407 t408 t409 t410 t411 t412 t413 t414 t415 t416 t417 t418 : Value) (Q : Exit → Act → World → Prop)
    (hQ : ∀ (u8 u20 u21 u22 u23 u24 u25 u26 u88 u89 u90 u91 u92 u93 u94 u95 u96 u97 u98 u99 u100 u101 u102 u103 u104 u105 u106 u107 u108 u109 u110 u111 u112 u113 u114 u115 u116 u117 u118 u119 u120 u121 u122 u123 u124 u125 u126 u127 u128 u129 u130 u131 u132 u133 u134 u135 u136 u137 u138 u139 u140 u141 u142 u143 u144 u145 u146 u147 u148 u149 u150 u151 u152 u153 u154 u155 u156 u157 u158 u159 u160 u161 u162 u163 u164 u165 u166 u167 u168 u169 u170 u171 u172 u173 u174 u175 u176 u177 u178 u179 u180 u181 u182 u183 u184 u185 u186 u187 u188 u189 u190 u191 u192 u193 u194 u195 u196 u197 u198 u199 u200 u201 u202 u203 u204 u205 : Value) (κ' : Nat → Nat) (L' : List Ent) (mv' : Value) (w' : World), St w0 cb nb mb N K F κ' L' w' → Mo κ' L' w' mv' → Q .normal ⟨#[t0, t1, t2, t3, t4, t5, t6, t7, u8, (ptr cb 0), (ptr nb 0), mv', (.int .i64 (heldOf L' : Nat)), t13, t14, t15, (.int .i64 now), (ptr qb 0), (.bool true), (.string (joinB xs)), u20, u21, u22, u23, u24, u25, u26, t27, t28, t29, t30, t31, t32, t33, t34, t35, t36, t37, t38, t39, t40, t41, t42, t43, t44, t45, t46, t47, t48, t49, t50, t51, t52, t53, t54, t55, t56, t57, t58, t59, t60, t61, t62, t63, t64, t65, t66, t67, t68, t69, t70, t71, t72, t73, t74, t75, t76, t77, t78, t79, t80, t81, t82, t83, t84, t85, t86, t87, u88, u89, u90, u91, u92, u93, u94, u95, u96, u97, u98, u99, u100, u101, u102, u103, u104, u105, u106, u107, u108, u109, u110, u111, u112, u113, u114, u115, u116, u117, u118, u119, u120, u121, u122, u123, u124, u125, u126, u127, u128, u129, u130, u131, u132, u133, u134, u135, u136, u137, u138, u139, u140, u141, u142, u143, u144, u145, u146, u147, u148, u149, u150, u151, u152, u153, u154, u155, u156, u157, u158, u159, u160, u161, u162, u163, u164, u165, u166, u167, u168, u169, u170, u171, u172, u173, u174, u175, u176, u177, u178, u179, u180, u181, u182, u183, u184, u185, u186, u187, u188, u189, u190, u191, u192, u193, u194, u195, u196, u197, u198, u199, u200, u201, u202, u203, u204, u205, t206, t207, t208, t209, t210, t211, t212, t213, t214, t215, t216, t217, t218, t219, t220, t221, t222, t223, t224, t225, t226, t227, t228, t229, t230, t231, t232, t233, t234, t235, t236, t237, t238, t239, t240, t241, t242, t243, t244, t245, t246, t247, t248, t249, t250, t251, t252, t253, t254, t255, t256, t257, t258, t259, t260, t261, t262, t263, t264, t265, t266, t267, t268, t269, t270, t271, t272, t273, t274, t275, t276, t277, t278, t279, t280, t281, t282, t283, t284, t285, t286, t287, t288, t289, t290, t291, t292, t293, t294, t295, t296, t297, t298, t299, t300, t301, t302, t303, t304, t305, t306, t307, t308, t309, t310, t311, t312, t313, t314, t315, t316, t317, t318, t319, t320, t321, t322, t323, t324, t325, t326, t327, t328, t329, t330, t331, t332, t333, t334, t335, t336, t337, t338, t339, t340, t341, t342, t343, t344, t345, t346, t347, t348, t349, t350, t351, t352, t353, t354, t355, t356, t357, t358, t359, t360, t361, t362, t363, t364, t365, t366, t367, t368, t369, t370, t371, t372, t373, t374, t375, t376, t377, t378, t379, t380, t381, t382, t383, t384, t385, t386, t387, t388, t389, t390, t391, t392, t393, t394, t395, t396, t397, t398, t399, t400, t401, t402, t403, t404, t405, t406, t407, t408, t409, t410, t411, t412, t413, t414, t415, t416, t417, t418], []⟩ w') :
    Code.wp Yba.prog pA Q ⟨#[t0, t1, t2, t3, t4, t5, t6, t7, t8, (ptr cb 0), (ptr nb 0), mv, (.int .i64 (heldOf (L) : Nat)), t13, t14, t15, (.int .i64 now), (ptr qb 0), (.bool true), (.string (joinB xs)), t20, t21, t22, t23, t24, t25, t26, t27, t28, t29, t30, t31, t32, t33, t34, t35, t36, t37, t38, t39, t40, t41, t42, t43, t44, t45, t46, t47, t48, t49, t50, t51, t52, t53, t54, t55, t56, t57, t58, t59, t60, t61, t62, t63, t64, t65, t66, t67, t68, t69, t70, t71, t72, t73, t74, t75, t76, t77, t78, t79, t80, t81, t82, t83, t84, t85, t86, t87, t88, t89, t90, t91, t92, t93, t94, t95, t96, t97, t98, t99, t100, t101, t102, t103, t104, t105, t106, t107, t108, t109, t110, t111, t112, t113, t114, t115, t116, t117, t118, t119, t120, t121, t122, t123, t124, t125, t126, t127, t128, t129, t130, t131, t132, t133, t134, t135, t136, t137, t138, t139, t140, t141, t142, t143, t144, t145, t146, t147, t148, t149, t150, t151, t152, t153, t154, t155, t156, t157, t158, t159, t160, t161, t162, t163, t164, t165, t166, t167, t168, t169, t170, t171, t172, t173, t174, t175, t176, t177, t178, t179, t180, t181, t182, t183, t184, t185, t186, t187, t188, t189, t190, t191, t192, t193, t194, t195, t196, t197, t198, t199, t200, t201, t202, t203, t204, t205, t206, t207, t208, t209, t210, t211, t212, t213, t214, t215, t216, t217, t218, t219, t220, t221, t222, t223, t224, t225, t226, t227, t228, t229, t230, t231, t232, t233, t234, t235, t236, t237, t238, t239, t240, t241, t242, t243, t244, t245, t246, t247, t248, t249, t250, t251, t252, t253, t254, t255, t256, t257, t258, t259, t260, t261, t262, t263, t264, t265, t266, t267, t268, t269, t270, t271, t272, t273, t274, t275, t276, t277, t278, t279, t280, t281, t282, t283, t284, t285, t286, t287, t288, t289, t290, t291, t292, t293, t294, t295, t296, t297, t298, t299, t300, t301, t302, t303, t304, t305, t306, t307, t308, t309, t310, t311, t312, t313, t314, t315, t316, t317, t318, t319, t320, t321, t322, t323, t324, t325, t326, t327, t328, t329, t330, t331, t332, t333, t334, t335, t336, t337, t338, t339, t340, t341, t342, t343, t344, t345, t346, t347, t348, t349, t350, t351, t352, t353, t354, t355, t356, t357, t358, t359, t360, t361, t362, t363, t364, t365, t366, t367, t368, t369, t370, t371, t372, t373, t374, t375, t376, t377, t378, t379, t380, t381, t382, t383, t384, t385, t386, t387, t388, t389, t390, t391, t392, t393, t394, t395, t396, t397, t398, t399, t400, t401, t402, t403, t404, t405, t406, t407, t408, t409, t410, t411, t412, t413, t414, t415, t416, t417, t418], []⟩ w := by
  have HQ : Hid _ := hQ
  clear hQ
  have hl : L.length ≤ 900 := by have := S.held; have := len_held L; omega
  have HK : Hid _ := kept_miss (now := now) (c := c) S.inv hl (by have := S.held; omega) (by omega) hkw (by omega) hc hj hyes hnk h0 h1
  have HS : Hid _ := S
  have HM : Hid _ := M
  have sn := slnn
  have Hnk : Hid _ := hnk
  have Hm6 : Hid (∀ x ∈ L, x.m ≤ 6) := fun x hx => (S.inv.ents x hx).mz
  have Hh20 : Hid (heldOf L ≤ 20) := by have := S.held; show _ ≤ _; omega
  have hl0 : L.length ≤ 900 := hl
  clear S M hkw hj hnk hyes
  generalize joinB xs = key at *
  generalize xs.length = n at *
  conv => arg 2; whnf
  go_upto_region 24 with (first
    | (refine wpList_load_row rfl 84 (.tmp 17) rfl qb rfl 84 _ (0, 0) _ hq Yba.underlying84 rfl (info84 _ rfl) ?_)
    | (go_at_call 14; refine Calls.mono HK.out ?_; rintro e w1 ⟨rfl, hr⟩; obtain ⟨κ1, eb, ab, k1, I1, fr1⟩ := hr; have HM1 : Hid (Mo κ1 L w1 mv) := HM.out.step fr1 k1; have HS1 : Hid (St w0 cb nb mb N K F κ1 (addL N (newEnt eb ab key now) L) w1) := HS.out.step I1 (addL_held _ _ _) fr1 k1; clear k1 I1 fr1)
    | (go_at_call 15; refine Calls.mono (find_miss mv L key w1 HM1.out.row hl Hnk.out) ?_; rintro e w2 ⟨rfl, hw⟩; rw [hw]; clear hw w2))
  go_quiet (fail)
  rename_i nq
  have HS1' : Hid (St w0 cb nb mb N K F κ1 (addL N (newEnt eb ab key now) L) (w1.drewN nq)) := HS1.out.dN nq
  have HM1' : Hid (Mo κ1 L (w1.drewN nq) mv) := HM1.out.dN nq
  generalize w1.drewN nq = wz at *
  clear HS HM HK HS1 HM1 Hnk
  generalize hne : newEnt eb ab key now = ne at *
  have Hne : Hid (Value.agg #[.string ne.key, .int .i64 ne.m, .bool ne.come, .int .i64 ne.since] = Value.agg #[.string key, .int .i64 0, .bool false, .int .i64 now]) := by show _ = _; rw [← hne]; rfl
  have Hm1 : Hid (ne.m = 0) := by show _ = _; rw [← hne]; rfl
  have HP : Hid _ := prepend_any mv L ne wz HM1'.out.row hl
  rw [Hne.out] at HP
  clear hne
  go_upto_region 30 with (first
    | (go_at_call 18; refine Calls.mono HP.out ?_; rintro e w3 ⟨g, cap, rfl, hg0, hM3, hg3⟩; have HS3 : Hid _ := HS1'.out.grow hg3; have HM3 : Hid (Mo (kz κ1 wz.heap.size) (ne :: L) w3 (.slice (some ⟨g, 0, none⟩) (L.length + 1) cap)) := ⟨hM3, fun g' hg' => (by cases hg'; exact kz_ge hg0)⟩; clear hg0 hM3 hg3))
  have hcfg : w3.cell? ⟨cb, 0, none⟩ = some (.int .i64 (N : Int)) := by have := HS3.out.cfg; unfold World.cell?; rw [this]; rfl
  have Hh1 : Hid (heldOf (ne :: L) = heldOf (L) + 1) := by show _ = _; rw [heldOf_cons, Hm1.out, Nat.add_comm]; rfl
  have Hlen1 : Hid ((ne :: L).length = (L).length + 1) := rfl
  have Hc : Hid (∀ j (hj : j < (ne :: L).length), w3.cell? ⟨g, j * 4 + 1, none⟩ = some (.int .i64 ((ne :: L)[j].m : Nat)) ∧ (ne :: L)[j].m ≤ 6) := fun j hj => by
    have e1 : (ne :: L) = (ne :: L).take j ++ (ne :: L)[j] :: (ne :: L).drop (j + 1) := by rw [List.getElem_cons_drop hj, List.take_append_drop]
    have hr := HM3.out.row
    refine ⟨?_, ?_⟩
    · rw [e1] at hr
      obtain ⟨g', cap', hv, _, _, c1, _, _⟩ := hr.at'
      injection hv with hv
      injection hv with hv
      injection hv with hv
      subst hv
      rw [List.length_take, Nat.min_eq_left (Nat.le_of_lt hj)] at c1
      exact c1
    · have hm := List.getElem_mem hj
      rcases List.mem_cons.1 hm with h | h
      · rw [h, Hm1.out]; omega
      · exact Hm6.out _ h
  have Ht : Hid (∀ j (hj : j < (ne :: L).length), heldOf ((ne :: L).take (j + 1)) = heldOf ((ne :: L).take j) + msz (ne :: L)[j].m) := fun j hj => take_held _ j hj
  have Hle : Hid (∀ k, heldOf ((ne :: L).take k) ≤ heldOf (ne :: L)) := heldOf_take_le _
  have Hta : Hid (heldOf ((ne :: L).take ((L).length + 1)) = heldOf (L) + 1) := by
    show _ = _
    rw [List.take_of_length_le (Nat.le_of_eq Hlen1.out)]; exact Hh1.out
  have hcap : (L).length + 1 ≤ cap := by have := HM3.out.row.cap; rw [Hlen1.out] at this; exact this
  have HSa : Hid (∀ k, fitK N (fun k => heldOf ((ne :: L).take k)) ((L).length + 1) = k → St w0 cb nb mb N K F (kz κ1 wz.heap.size) ((ne :: L).take k) w3) := fun k h => by
    have := HS3.out
    unfold addL at this
    rw [h] at this
    exact this
  have HMa : Hid (∀ k, k ≤ (L).length + 1 → Mo (kz κ1 wz.heap.size) ((ne :: L).take k) w3 (.slice (some ⟨g, 0, none⟩) k cap)) := fun k h => ⟨HM3.out.row.take h, fun g' hg' => HM3.out.kb g' hg'⟩
  have hH0 : heldOf (L) ≤ 20 := Hh20.out
  have HL0 : Hid ((L).length ≤ 900) := hl0
  clear HS3 HM3 HS1' HM1' HP
  generalize hL1 : ne :: L = L1 at *
  generalize (L).length = len0 at *
  generalize heldOf (L) = H0 at *
  have HL1 : Hid _ := hL1
  clear hL1
  go_wp2_with fail
  go_loop [11, 12] (fun s11 s12 => ∃ k : Nat, k ≤ len0 + 1 ∧ fitK N (fun k => heldOf (L1.take k)) k = fitK N (fun k => heldOf (L1.take k)) (len0 + 1) ∧ s11 = .slice (some ⟨g, 0, none⟩) k cap ∧ s12 = .int .i64 (heldOf (L1.take k) : Nat)) (fun s11 _ => slLen s11)
  case atStart => exact ⟨len0 + 1, Nat.le_refl _, rfl, rfl, by rw [Hta.out]; rfl⟩
  case round =>
    obtain ⟨k, hk, hf, rfl, rfl⟩ := hrel
    have hkl := Hle.out k
    rw [Hh1.out] at hkl
    by_cases h : N < heldOf (L1.take k)
    · obtain ⟨j, rfl⟩ : ∃ j, k = j + 1 := by
        cases k with
        | zero => simp [heldOf] at h
        | succ j => exact ⟨j, rfl⟩
      have hj : j < L1.length := by rw [Hlen1.out]; omega
      obtain ⟨c1, hm6⟩ := Hc.out j hj
      have ht := Ht.out j hj
      have HF : Hid (fitK N (fun k => heldOf (L1.take k)) j = fitK N (fun k => heldOf (L1.take k)) (len0 + 1)) := by show _ = _; rw [← hf, fitK_step h]
      have hms : msz L1[j].m ≤ 6 := by unfold msz; split <;> omega
      have HSz : Hid _ := size16 L1[j].m hm6 w3
      have hd : (N : Int) < (heldOf (L1.take (j + 1)) : Int) := by omega
      have hw1 : IntKind.i64.wrap ((heldOf (L1.take (j + 1)) : Int) - (msz L1[j].m : Int)) = (heldOf (L1.take j) : Int) := by rw [wrap64 (by omega) (by omega)]; omega
      have hjcap : (j : Int) ≤ (cap : Int) := by omega
      have hjc : (j : Int) + 1 ≤ 901 := by have := HL0.out; omega
      clear hf Hc Ht Hle
      generalize L1[j].m = mm at *
      generalize hA : heldOf (L1.take (j + 1)) = A at *
      generalize hB : heldOf (L1.take j) = B at *
      have HB : Hid _ := hB
      have Hht : Hid _ := ht
      clear hA hB ht
      go_wp2_with (go_at_call 16; refine Calls.mono HSz.out ?_; rintro e w4 ⟨rfl, hw⟩; rw [hw]; clear hw w4)
      go_round
      case rel => exact ⟨j, by omega, HF.out, rfl, by rw [HB.out]⟩
      case measure => simp [slLen]
    · have hd : decide ((N : Int) < (heldOf (L1.take k) : Int)) = false := by simp; omega
      have e : fitK N (fun k => heldOf (L1.take k)) (len0 + 1) = k := by rw [← hf]; exact fitK_stop (by show heldOf (L1.take k) ≤ N; omega)
      have He : Hid _ := e
      have hdI : ¬ (N : Int) < (heldOf (L1.take k) : Int) := by omega
      clear hf e Hc Ht Hle
      generalize hA : heldOf (L1.take k) = A at *
      have HA : Hid _ := hA
      clear hA
      go_wp2_with fail
      have hA := HA.out
      subst hA
      exact HQ.out _ _ _ _ _ _ _ _ _ _ _ _ _ _ _ _ _ _ _ _ _ _ _ _ _ _ _ _ _ _ _ _ _ _ _ _ _ _ _ _ _ _ _ _ _ _ _ _ _ _ _ _ _ _ _ _ _ _ _ _ _ _ _ _ _ _ _ _ _ _ _ _ _ _ _ _ _ _ _ _ _ _ _ _ _ _ _ _ _ _ _ _ _ _ _ _ _ _ _ _ _ _ _ _ _ _ _ _ _ _ _ _ _ _ _ _ _ _ _ _ _ _ _ _ _ _ _ _ _ _ (HSa.out k He.out) (HMa.out k hk)
end Go.Proofs.Ybulkdbks
