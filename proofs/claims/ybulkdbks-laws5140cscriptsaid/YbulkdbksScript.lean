import Derived.Test.YbulkdbksLp
namespace Go.Proofs.Ybulkdbks
open Go Go.RowKit

theorem size77 : Yba.zeroCells77.size = 122 := by kernel_rfl

theorem st_first {w w3 : World} {N mb : Nat} {K F : Int} {z : Obj} (I : Inv w3 (kset (kset (fun _ => 0) (w.heap.size + 1) 4) mb 5) (w.heap.size + 1) mb (N : Int) K F []) (hmb : w.heap.size + 2 ≤ mb)
    (g : ((w.alloc (.cells #[.int .i64 N, .int .i64 K, .int .i64 F] 48)).alloc z).grownBy w3 (some (w.heap.size + 1))) : St w w.heap.size (w.heap.size + 1) mb N K F (kset (kset (fun _ => 0) (w.heap.size + 1) 4) mb 5) [] w3 := by
  have s1 : (w.alloc (.cells #[.int .i64 N, .int .i64 K, .int .i64 F] 48)).heap.size = w.heap.size + 1 := by simp
  have s2 : ((w.alloc (.cells #[.int .i64 N, .int .i64 K, .int .i64 F] 48)).alloc z).heap.size = w.heap.size + 2 := by simp
  have k0 : ∀ b, b ≤ w.heap.size → kset (kset (fun _ => 0) (w.heap.size + 1) 4) mb 5 b = 0 := fun b hb => by rw [kset_lt (by omega), kset_lt (by omega)]
  refine ⟨I, Nat.zero_le _, k0 _ (Nat.le_refl _), ?_, fun b hb => ⟨k0 b (by omega), ?_⟩, g.os, g.tape, g.output, ?_⟩
  · rw [g.block _ (by rw [s2]; omega) (fun h => by injection h with h; omega), heap_old (by rw [s1]; omega)]
    exact heap_new
  · rw [g.block _ (by rw [s2]; omega) (fun h => by injection h with h; omega), heap_old (by rw [s1]; omega), heap_old hb]
  · have := g.size
    rw [s2] at this
    omega

set_option maxHeartbeats 8000000 in
set_option maxRecDepth 1000000 in
theorem sc_any (w : World) (a b c : Int) (ha : 0 ≤ a ∧ a < 256) (hb : 0 ≤ b ∧ b < 256) (hc : 0 ≤ c ∧ c < 256) (ao : Option Addr) (n cap : Nat) (hn : n ≤ 400) (ho : OpsAt w ao n) :
    Calls Yba.prog 5 #[.int .u8 a, .int .u8 b, .int .u8 c, .slice ao n cap] w fun r w' => r = .returned (.bool true) ∧ Below w.heap.size w w' := by
  obtain ⟨N, hN, hN6⟩ : ∃ N : Nat, a % 6 = N ∧ N ≤ 5 := ⟨(a % 6).toNat, by omega, by omega⟩
  have HO : Hid (OpsAt w ao n) := ho
  clear ho
  have hnI : decide ((400 : Int) < (n : Int)) = false := by simp; omega
  go_enter Yba.func5, Yba.ntmps5
  go_upto_region 5 with fail
  have HKa : Hid _ := ka_any ((w.alloc (.cells #[.int .i64 N, .int .i64 (b % 4), .int .i64 (c % 20 + 1)] 48)).alloc (.cells Yba.zeroCells77 77)) (w.heap.size + 1) (N : Int) (b % 4) (c % 20 + 1) Yba.zeroCells77 (by rw [← World.size_alloc]; exact heap_new) size77
  have HFst : Hid (∀ (w3 : World) (mb : Nat), w.heap.size + 2 ≤ mb → Inv w3 (kset (kset (fun _ => 0) (w.heap.size + 1) 4) mb 5) (w.heap.size + 1) mb (N : Int) (b % 4) (c % 20 + 1) [] → ((w.alloc (.cells #[.int .i64 N, .int .i64 (b % 4), .int .i64 (c % 20 + 1)] 48)).alloc (.cells Yba.zeroCells77 77)).grownBy w3 (some (w.heap.size + 1)) → St w w.heap.size (w.heap.size + 1) mb N (b % 4) (c % 20 + 1) (kset (kset (fun _ => 0) (w.heap.size + 1) 4) mb 5) [] w3) := fun w3 mb h1 h2 h3 => st_first h2 h1 h3
  have hcf : ((w.alloc (.cells #[.int .i64 N, .int .i64 (b % 4), .int .i64 (c % 20 + 1)] 48)).alloc (.cells Yba.zeroCells77 77)).heap[w.heap.size]? = some (.cells #[.int .i64 N, .int .i64 (b % 4), .int .i64 (c % 20 + 1)] 48 (0, 0)) := by rw [heap_old (by simp)]; exact heap_new
  have hs2 : ((w.alloc (.cells #[.int .i64 N, .int .i64 (b % 4), .int .i64 (c % 20 + 1)] 48)).alloc (.cells Yba.zeroCells77 77)).heap.size = w.heap.size + 2 := by simp
  have hK0 : 0 ≤ b % 4 ∧ b % 4 < 4 := by omega
  have hF0 : 0 ≤ c % 20 + 1 ∧ c % 20 + 1 ≤ 1000 := by omega
  generalize ((w.alloc (.cells #[.int .i64 N, .int .i64 (b % 4), .int .i64 (c % 20 + 1)] 48)).alloc (.cells Yba.zeroCells77 77)) = w2 at *
  generalize b % 4 = K at *
  generalize c % 20 + 1 = F at *
  have Hmb : Hid (w.heap.size + 2 ≤ w2.heap.size + 1) := by show _ ≤ _; omega
  clear hs2
  go_upto_region 6 with (first
    | (refine wpList_load_row rfl 48 (.tmp 9) rfl w.heap.size rfl 48 _ (0, 0) _ hcf Yba.underlying48 rfl (info48s _ rfl) ?_)
    | (go_at_call 11; refine Calls.mono HKa.out ?_; rintro r w3 ⟨rfl, I3, g3⟩; have HS3 : Hid _ := HFst.out w3 _ Hmb.out I3 g3; clear I3 g3))
  clear hcf HKa HFst
  go_wp2_with fail
  generalize hmb : w2.heap.size + 1 = mb at *
  clear hmb Hmb
  refine loop_any _ _ _ _ _ _ _ _ _ _ _ _ _ _ _ _ _ _ _ _ _ _ _ _ _ _ _ _ _ _ _ _ _ _ _ _ _ _ _ _ _ _ _ _ _ _ _ _ _ _ _ _ _ _ _ _ _ _ _ _ _ _ _ _ _ _ _ _ _ _ _ _ _ _ _ _ _ _ _ _ _ _ _ _ _ _ _ _ _ _ _ _ _ _ _ _ _ _ _ _ _ _ _ _ _ _ _ _ _ _ _ _ _ _ _ _ _ _ _ _ _ _ _ _ _ _ _ _ _ _ _ _ _ _ _ _ _ _ _ _ _ _ _ _ _ _ _ _ _ _ _ _ _ _ _ _ _ _ _ _ _ _ _ _ _ _ _ _ _ _ _ _ _ _ _ _ _ _ _ _ _ _ _ _ _ _ _ _ _ _ _ _ _ _ _ _ _ _ _ _ _ _ _ _ _ _ _ _ _ _ _ _ _ _ _ _ _ _ _ _ _ _ _ _ _ _ _ _ _ _ _ _ _ _ _ _ _ _ _ _ _ _ _ _ _ _ _ _ _ _ _ _ _ _ _ _ _ _ _ _ _ _ _ _ _ _ _ _ _ _ _ _ _ _ _ _ _ _ _ _ _ _ _ _ _ _ _ _ _ _ _ _ _ _ _ _ _ _ _ _ _ _ _ _ _ _ _ _ _ _ _ _ _ _ _ _ _ _ _ _ _ _ _ _ _ _ _ _ _ _ _ _ _ _ _ _ _ _ _ _ _ _ _ _ _ _ _ _ _ _ _ _ _ _ _ _ _ _ _ _ _ _ _ _ _ _ _ _ _ _ _ _ _ _ _ _ _ _ _ _ _ _ _ _ _ _ _ _ _ _ _ _ _ _ _ _ _ _ _ _ _ _ _ _ _ _ _ _ _ _ _ _ HS3.out ⟨MR.nil _, fun g hg => by cases hg⟩ (by omega) hF0 hn HO.out _ ?_
  intro u8 u14 u15 u16 u17 u18 u19 u20 u21 u22 u23 u24 u25 u26 u27 u28 u29 u30 u31 u32 u33 u34 u35 u58 u59 u60 u61 u62 u63 u64 u65 u66 u67 u68 u69 u70 u71 u72 u73 u74 u75 u76 u77 u78 u79 u80 u81 u82 u83 u84 u85 u86 u87 u88 u89 u90 u91 u92 u93 u94 u95 u96 u97 u98 u99 u100 u101 u102 u103 u104 u105 u106 u107 u108 u109 u110 u111 u112 u113 u114 u115 u116 u117 u118 u119 u120 u121 u122 u123 u124 u125 u126 u127 u128 u129 u130 u131 u132 u133 u134 u135 u136 u137 u138 u139 u140 u141 u142 u143 u144 u145 u146 u147 u148 u149 u150 u151 u152 u153 u154 u155 u156 u157 u158 u159 u160 u161 u162 u163 u164 u165 u166 u167 u168 u169 u170 u171 u172 u173 u174 u175 u176 u177 u178 u179 u180 u181 u182 u183 u184 u185 u186 u187 u188 u189 u190 u191 u192 u193 u194 u195 u196 u197 u198 u199 u200 u201 u202 u203 u204 u205 u206 u207 u208 u209 u210 u211 u212 u213 u214 u215 u216 u217 u218 u219 u220 u221 u222 u223 u224 u225 u226 u227 u228 u229 u230 u231 u232 u233 u234 u235 u236 u237 u238 u239 u240 u241 u242 u243 u244 u245 u246 u247 u248 u249 u250 u251 u252 u253 u254 u255 u256 u257 u258 u259 u260 u261 u262 u263 u264 u265 u266 u267 u268 u269 u270 u271 u272 u273 u274 u275 u276 u277 u278 u279 u280 u281 u282 u283 u284 u285 u286 u287 u288 u289 u290 u291 u292 u293 u294 u295 u296 u297 u298 u299 u300 u301 u302 u303 u304 u305 u306 u307 u308 u309 u310 u311 u312 u313 u314 u315 u316 u317 u318 u319 u320 u321 u322 u323 u324 u325 u326 u327 u328 u329 u330 u331 u332 u333 u334 u335 u336 u337 u338 u339 u340 u341 u342 u343 u344 u345 u346 u347 u348 u349 u350 u351 u352 u353 u354 u355 u356 u357 u358 u359 u360 u361 u362 u363 u364 u365 u366 u367 u368 u369 u370 u371 u372 u373 u374 u375 u376 u377 u378 u379 u380 u381 u382 u383 u384 u385 u386 u387 u388 u389 u390 u391 u392 u393 u394 u395 u396 u397 u398 u399 u400 u401 u402 u403 u404 u405 u406 u407 u408 u409 u410 u411 u412 u413 u414 u415 u416 u417 u418 mv' hv' i' κ' L' w' S'
  have HS' : Hid _ := S'
  clear S'
  rename_i K1 hK1
  refine hK1 _ _ ?_
  clear hK1
  go_wp2_with fail
  go_ret
  have S9 := HS'.out
  exact ⟨rfl, S9.os, S9.tape, S9.output, S9.size, fun b hb => (S9.old b hb).2⟩
end Go.Proofs.Ybulkdbks
