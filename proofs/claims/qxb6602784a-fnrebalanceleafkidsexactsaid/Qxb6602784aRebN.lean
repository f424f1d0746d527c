import Derived.Test.Qxb6602784aRebM
namespace Go.Proofs.Qxb6602784a.grf
open Go.ChangeShapes Go.WideShapes Go.ChangeAt Go.RowKit Go.Maps
set_option linter.unusedSimpArgs false
set_option linter.unusedVariables false

def headN : Nat → Code → Code
  | 0, .seq a _ => a
  | n + 1, .seq _ b => headN n b
  | _, c => c

set_option maxHeartbeats 4000000 in
set_option maxRecDepth 1000000 in
theorem law_catJ (N b0 b1 b2 bO bI bK j m : Nat) (e : Int) (bs es : List Int) (vs : List Value) (xl : List Nat) (LL : List (List Int)) (W0 w : World) (hj2 : j + 1 < m) (hm : m ≤ 65536) (hx : (LL.getD j []).length ≤ 1048576) (hy : (LL.getD (j + 1) []).length ≤ 1048576)
    (hL : (LL.getD j [] ++ LL.getD (j + 1) []).length ≤ 64) (hB : Base w b0 b1 b2 bO m bs es vs xl LL) (hE : EndJ w bI bK m j e bs xl (LL.getD j [] ++ LL.getD (j + 1) [])) (hbel : Below N W0 w) (hN : N ≤ w.heap.size) (K : Act → World → Prop) (hK : ∀ (a : Act) (w : World), Code.wp Try.prog (tailN 22 (Try.f8.body.getD .skip)) (bodyPost Try.prog Try.f8 fun r w' => r = .returned (.bool true) ∧ Below N W0 w') a w → K a w) (u2 u4 u5 u6 u7 u8 u9 u10 u12 u13 u15 u16 u20 u21 u22 u23 u24 u25 u26 u27 u28 u29 u30 u31 u32 u33 u34 u35 u36 u37 u38 u39 u40 u41 u42 u43 u44 u45 u46 u47 u48 u49 u50 u51 u52 u53 u54 u55 u56 u57 u58 u59 u60 u61 u62 u63 u64 u65 u66 u67 u68 u69 u70 u71 u72 u73 u74 u75 u76 u77 u78 u79 u80 u81 u82 u83 u84 u85 u86 u87 u88 u89 u90 u91 u92 u93 u94 u95 u96 u97 u98 u99 u100 u101 u102 u103 u104 u105 u106 u107 u108 u109 u110 u111 u112 u113 u114 u115 u116 u117 u118 u119 u120 u121 u122 u123 u124 u125 u126 u127 u128 u129 u130 u131 u132 u133 u134 u135 u136 u137 u138 u139 u140 u141 u142 u143 u144 u145 u146 u147 u148 u149 u150 u151 u152 u153 u154 u155 u156 u157 u158 u159 u160 u161 u162 u163 u164 u165 u166 u167 u168 u169 u170 u171 u172 u173 u174 u175 u176 u177 u178 u179 u180 u181 u182 u183 u184 u185 u186 u187 u188 u189 u190 u191 u192 u193 u194 u195 u196 u197 u198 u199 u200 u201 u202 u203 u204 u205 u206 u207 u208 u209 u210 u211 u212 u213 u214 u215 u216 u217 u218 u219 u220 u221 u222 u223 u224 u225 u226 u227 u228 u229 u230 u231 u232 u233 u234 u235 u236 u237 u238 u239 u240 u241 u242 u243 u244 u245 u246 u247 u248 u249 u250 u251 u252 u253 u254 u255 u256 u257 u258 u259 u260 u261 u262 u263 u264 u265 u266 u267 u268 u269 u270 u271 u272 u273 u274 u275 u276 u277 u278 u279 u280 u281 u282 u283 u284 u285 u286 u287 u288 u289 u290 u291 u292 u293 u294 u295 u296 u297 u298 u299 u300 u301 u302 u303 u304 u305 u306 u307 u308 u309 u310 u311 u312 u313 u314 u315 u316 u317 u318 u319 u320 u321 u322 u323 u324 u325 u326 u327 u328 u329 u330 u331 u332 u333 u334 u335 u336 u337 u338 u339 u340 u341 u342 u343 u344 u345 u346 u347 u348 u349 u350 u351 u352 u353 u354 u355 u356 u357 u358 u359 u360 u361 u362 u363 u364 u365 u366 u367 u368 u369 u370 u371 u372 u373 u374 u375 u376 u377 u378 u379 : Value) :
    Code.wp Try.prog (headN 21 (Try.f8.body.getD .skip)) (Exit.then K (bodyPost Try.prog Try.f8 fun r w' => r = .returned (.bool true) ∧ Below N W0 w')) ⟨#[.slice (some ⟨b0, 0, none⟩) m m, .slice (some ⟨b1, 0, none⟩) m m, u2, .int .u64 e, u4, u5, u6, u7, u8, u9, u10, .int .i64 (m : Int), u12, u13, .slice (some ⟨bO, 0, none⟩) m m, u15, u16, .slice (some ⟨bK, 0, none⟩) (m - 1) m, .slice (some ⟨bI, 0, none⟩) (m - 1) m, .int .i64 (j : Int), u20, u21, u22, u23, u24, u25, u26, u27, u28, u29, u30, u31, u32, u33, u34, u35, u36, u37, u38, u39, u40, u41, u42, u43, u44, u45, u46, u47, u48, u49, u50, u51, u52, u53, u54, u55, u56, u57, u58, u59, u60, u61, u62, u63, u64, u65, u66, u67, u68, u69, u70, u71, u72, u73, u74, u75, u76, u77, u78, u79, u80, u81, u82, u83, u84, u85, u86, u87, u88, u89, u90, u91, u92, u93, u94, u95, u96, u97, u98, u99, u100, u101, u102, u103, u104, u105, u106, u107, u108, u109, u110, u111, u112, u113, u114, u115, u116, u117, u118, u119, u120, u121, u122, u123, u124, u125, u126, u127, u128, u129, u130, u131, u132, u133, u134, u135, u136, u137, u138, u139, u140, u141, u142, u143, u144, u145, u146, u147, u148, u149, u150, u151, u152, u153, u154, u155, u156, u157, u158, u159, u160, u161, u162, u163, u164, u165, u166, u167, u168, u169, u170, u171, u172, u173, u174, u175, u176, u177, u178, u179, u180, u181, u182, u183, u184, u185, u186, u187, u188, u189, u190, u191, u192, u193, u194, u195, u196, u197, u198, u199, u200, u201, u202, u203, u204, u205, u206, u207, u208, u209, u210, u211, u212, u213, u214, u215, u216, u217, u218, u219, u220, u221, u222, u223, u224, u225, u226, u227, u228, u229, u230, u231, u232, u233, u234, u235, u236, u237, u238, u239, u240, u241, u242, u243, u244, u245, u246, u247, u248, u249, u250, u251, u252, u253, u254, u255, u256, u257, u258, u259, u260, u261, u262, u263, u264, u265, u266, u267, u268, u269, u270, u271, u272, u273, u274, u275, u276, u277, u278, u279, u280, u281, u282, u283, u284, u285, u286, u287, u288, u289, u290, u291, u292, u293, u294, u295, u296, u297, u298, u299, u300, u301, u302, u303, u304, u305, u306, u307, u308, u309, u310, u311, u312, u313, u314, u315, u316, u317, u318, u319, u320, u321, u322, u323, u324, u325, u326, u327, u328, u329, u330, u331, u332, u333, u334, u335, u336, u337, u338, u339, u340, u341, u342, u343, u344, u345, u346, u347, u348, u349, u350, u351, u352, u353, u354, u355, u356, u357, u358, u359, u360, u361, u362, u363, u364, u365, u366, u367, u368, u369, u370, u371, u372, u373, u374, u375, u376, u377, u378, u379], []⟩ w := by
  conv => arg 2; whnf
  obtain ⟨xs, hxs⟩ : ∃ xs, xs = LL.getD j [] := ⟨_, rfl⟩
  obtain ⟨ys, hys⟩ : ∃ ys, ys = LL.getD (j + 1) [] := ⟨_, rfl⟩
  have rx := hB.rows j (by omega)
  have ry := hB.rows (j + 1) (by omega)
  have q1 : w.cell? ⟨b1, j, none⟩ = some (vs.getD j (.slice none 0 0)) := by
    rw [hB.b1.cell, List.getElem?_eq_getElem (by have := hB.lv; omega)]
    simp [List.getD_eq_getElem?_getD, List.getElem?_eq_getElem (show j < vs.length by have := hB.lv; omega)]
  have q2 : w.cell? ⟨b1, j + 1, none⟩ = some (vs.getD (j + 1) (.slice none 0 0)) := by
    rw [hB.b1.cell, List.getElem?_eq_getElem (by have := hB.lv; omega)]
    simp [List.getD_eq_getElem?_getD, List.getElem?_eq_getElem (show j + 1 < vs.length by have := hB.lv; omega)]
  obtain ⟨vx, hvx⟩ : ∃ v, v = vs.getD j (.slice none 0 0) := ⟨_, rfl⟩
  obtain ⟨vy, hvy⟩ : ∃ v, v = vs.getD (j + 1) (.slice none 0 0) := ⟨_, rfl⟩
  rw [← hxs] at hx hL hE rx
  rw [← hys] at hy hL hE ry
  rw [← hvx] at rx q1
  rw [← hvy] at ry q2
  have hcc := concat_ints vx vy xs ys hx hy w.drew rx ry
  obtain ⟨a, c, rfl, _⟩ := rx.slice
  obtain ⟨a', c', rfl, _⟩ := ry.slice
  rw [ints_len] at q1 q2 hcc
  rw [ints_len] at hcc
  obtain ⟨n1, hn1⟩ : ∃ n, n = xs.length := ⟨_, rfl⟩
  obtain ⟨n2, hn2⟩ : ∃ n, n = ys.length := ⟨_, rfl⟩
  rw [← hn1] at q1 hcc hx
  rw [← hn2] at q2 hcc hy
  have HC := hide hcc
  have LX : ∀ w', Blk w' w.heap.size 2 (ints .i64 (xs ++ ys)) → Below w.drew.heap.size w.drew w' → ∃ p, LawJ N W0 w' b0 bO bI bK j m p w.heap.size (n1 + n2) e bs (xs ++ ys) xl := by
    intro w' hg hb
    obtain ⟨p, hJ⟩ := lawJ_of hj2 (Base.below (w := w.drew) ⟨hB.b0, hB.b1, hB.b2, hB.bO, hB.lb, hB.lv, hB.le, hB.lx, hB.rows, hB.leaf⟩ hb) (EndJ.below (w := w.drew) hE hb) hg (by rw [List.length_append]; omega) ((hbel.drew).trans (hb.mono hN))
    rw [List.length_append, ← hn1, ← hn2] at hJ
    exact ⟨p, hJ⟩
  have HL2 : Hid (n1 + n2 ≤ 64) := by rw [List.length_append, ← hn1, ← hn2] at hL; exact hL
  have HLX := hide LX
  clear hcc hB hE hL hxs hys hvx hvy rx ry hbel hn1 hn2 LX
  have LX := HLX.out
  have i1 : ((j : Nat) : Int) + 1 < (m : Int) := by omega
  have i2 : IntKind.i64.wrap ((j : Int) + 1) = (j : Int) + 1 := by rw [IntKind.wrap_i64]; omega
  have i3 : (j : Int) < (m : Int) := by omega
  have i8 : (0 : Int) ≤ (j : Int) + 1 := by omega
  have i9 : ((j : Int) + 1).toNat = j + 1 := by omega
  clear LX
  have HKK := hide hK
  clear hK
  go_region_with (go_at_call 35; refine HC.out.mono ?_; rintro r w' ⟨rfl, hg, hb⟩; have HG := hide hg; have HBB := hide hb; clear hg hb)
  all_goals (obtain ⟨p, hJ⟩ := HLX.out _ HG.out HBB.out; refine HKK.out _ _ ?_; exact law_join N b0 bO bI bK j m p w.heap.size (n1 + n2) e bs (xs ++ ys) xl W0 _ HL2.out hj2 hm hJ _ _ _ _ _ _ _ _ _ _ _ _ _ _ _ _ _ _ _ _ _ _ _ _ _ _ _ _ _ _ _ _ _ _ _ _ _ _ _ _ _ _ _ _ _ _ _ _ _ _ _ _ _ _ _ _ _ _ _ _ _ _ _ _ _ _ _ _ _ _ _ _ _ _ _ _ _ _ _ _ _ _ _ _ _ _ _ _ _ _ _ _ _ _ _ _ _ _ _ _ _ _ _ _ _ _ _ _ _ _ _ _ _ _ _ _ _ _ _ _ _ _ _ _ _ _ _ _ _ _ _ _ _ _ _ _ _ _ _ _ _ _ _ _ _ _ _ _ _ _ _ _ _ _ _ _ _ _ _ _ _ _ _ _ _ _ _ _ _ _ _ _ _ _ _ _ _ _ _ _ _ _ _ _ _ _ _ _ _ _ _ _ _ _ _ _ _ _ _ _ _ _ _ _ _ _ _ _ _ _ _ _ _ _ _ _ _ _ _ _ _ _ _ _ _ _ _ _ _ _ _ _ _ _ _ _ _ _ _ _ _ _ _ _ _ _ _ _ _ _ _ _ _ _ _ _ _ _ _ _ _ _ _ _ _ _ _ _ _ _ _ _ _ _ _ _ _ _ _ _ _ _ _ _ _ _ _ _ _ _ _ _ _ _ _ _ _ _ _ _ _ _ _ _ _ _ _ _ _ _ _ _ _ _ _ _ _ _ _ _ _ _ _ _ _ _ _ _ _ _ _ _ _ _ _ _ _ _ _ _ _ _ _ _ _ _ _ _ _ _ _ _ _ _ _ _ _ _ _ _ _ _ _ _ _ _ _ _ _ _ _ _)

set_option maxHeartbeats 4000000 in
set_option maxRecDepth 1000000 in
theorem law_catS (N b0 b1 b2 bO bI bK j m : Nat) (e : Int) (bs es : List Int) (vs : List Value) (xl : List Nat) (LL : List (List Int)) (W0 w : World) (hj2 : j + 1 < m) (hm : m ≤ 65536) (hx : (LL.getD j []).length ≤ 1048576) (hy : (LL.getD (j + 1) []).length ≤ 1048576)
    (hL : ¬ (LL.getD j [] ++ LL.getD (j + 1) []).length ≤ 64) (hB : Base w b0 b1 b2 bO m bs es vs xl LL) (hE : EndS w bI bK m j e bs xl (LL.getD j [] ++ LL.getD (j + 1) [])) (hbel : Below N W0 w) (hN : N ≤ w.heap.size) (K : Act → World → Prop) (hK : ∀ (a : Act) (w : World), Code.wp Try.prog (tailN 22 (Try.f8.body.getD .skip)) (bodyPost Try.prog Try.f8 fun r w' => r = .returned (.bool true) ∧ Below N W0 w') a w → K a w) (u2 u4 u5 u6 u7 u8 u9 u10 u12 u13 u15 u16 u20 u21 u22 u23 u24 u25 u26 u27 u28 u29 u30 u31 u32 u33 u34 u35 u36 u37 u38 u39 u40 u41 u42 u43 u44 u45 u46 u47 u48 u49 u50 u51 u52 u53 u54 u55 u56 u57 u58 u59 u60 u61 u62 u63 u64 u65 u66 u67 u68 u69 u70 u71 u72 u73 u74 u75 u76 u77 u78 u79 u80 u81 u82 u83 u84 u85 u86 u87 u88 u89 u90 u91 u92 u93 u94 u95 u96 u97 u98 u99 u100 u101 u102 u103 u104 u105 u106 u107 u108 u109 u110 u111 u112 u113 u114 u115 u116 u117 u118 u119 u120 u121 u122 u123 u124 u125 u126 u127 u128 u129 u130 u131 u132 u133 u134 u135 u136 u137 u138 u139 u140 u141 u142 u143 u144 u145 u146 u147 u148 u149 u150 u151 u152 u153 u154 u155 u156 u157 u158 u159 u160 u161 u162 u163 u164 u165 u166 u167 u168 u169 u170 u171 u172 u173 u174 u175 u176 u177 u178 u179 u180 u181 u182 u183 u184 u185 u186 u187 u188 u189 u190 u191 u192 u193 u194 u195 u196 u197 u198 u199 u200 u201 u202 u203 u204 u205 u206 u207 u208 u209 u210 u211 u212 u213 u214 u215 u216 u217 u218 u219 u220 u221 u222 u223 u224 u225 u226 u227 u228 u229 u230 u231 u232 u233 u234 u235 u236 u237 u238 u239 u240 u241 u242 u243 u244 u245 u246 u247 u248 u249 u250 u251 u252 u253 u254 u255 u256 u257 u258 u259 u260 u261 u262 u263 u264 u265 u266 u267 u268 u269 u270 u271 u272 u273 u274 u275 u276 u277 u278 u279 u280 u281 u282 u283 u284 u285 u286 u287 u288 u289 u290 u291 u292 u293 u294 u295 u296 u297 u298 u299 u300 u301 u302 u303 u304 u305 u306 u307 u308 u309 u310 u311 u312 u313 u314 u315 u316 u317 u318 u319 u320 u321 u322 u323 u324 u325 u326 u327 u328 u329 u330 u331 u332 u333 u334 u335 u336 u337 u338 u339 u340 u341 u342 u343 u344 u345 u346 u347 u348 u349 u350 u351 u352 u353 u354 u355 u356 u357 u358 u359 u360 u361 u362 u363 u364 u365 u366 u367 u368 u369 u370 u371 u372 u373 u374 u375 u376 u377 u378 u379 : Value) :
    Code.wp Try.prog (headN 21 (Try.f8.body.getD .skip)) (Exit.then K (bodyPost Try.prog Try.f8 fun r w' => r = .returned (.bool true) ∧ Below N W0 w')) ⟨#[.slice (some ⟨b0, 0, none⟩) m m, .slice (some ⟨b1, 0, none⟩) m m, u2, .int .u64 e, u4, u5, u6, u7, u8, u9, u10, .int .i64 (m : Int), u12, u13, .slice (some ⟨bO, 0, none⟩) m m, u15, u16, .slice (some ⟨bK, 0, none⟩) m m, .slice (some ⟨bI, 0, none⟩) m m, .int .i64 (j : Int), u20, u21, u22, u23, u24, u25, u26, u27, u28, u29, u30, u31, u32, u33, u34, u35, u36, u37, u38, u39, u40, u41, u42, u43, u44, u45, u46, u47, u48, u49, u50, u51, u52, u53, u54, u55, u56, u57, u58, u59, u60, u61, u62, u63, u64, u65, u66, u67, u68, u69, u70, u71, u72, u73, u74, u75, u76, u77, u78, u79, u80, u81, u82, u83, u84, u85, u86, u87, u88, u89, u90, u91, u92, u93, u94, u95, u96, u97, u98, u99, u100, u101, u102, u103, u104, u105, u106, u107, u108, u109, u110, u111, u112, u113, u114, u115, u116, u117, u118, u119, u120, u121, u122, u123, u124, u125, u126, u127, u128, u129, u130, u131, u132, u133, u134, u135, u136, u137, u138, u139, u140, u141, u142, u143, u144, u145, u146, u147, u148, u149, u150, u151, u152, u153, u154, u155, u156, u157, u158, u159, u160, u161, u162, u163, u164, u165, u166, u167, u168, u169, u170, u171, u172, u173, u174, u175, u176, u177, u178, u179, u180, u181, u182, u183, u184, u185, u186, u187, u188, u189, u190, u191, u192, u193, u194, u195, u196, u197, u198, u199, u200, u201, u202, u203, u204, u205, u206, u207, u208, u209, u210, u211, u212, u213, u214, u215, u216, u217, u218, u219, u220, u221, u222, u223, u224, u225, u226, u227, u228, u229, u230, u231, u232, u233, u234, u235, u236, u237, u238, u239, u240, u241, u242, u243, u244, u245, u246, u247, u248, u249, u250, u251, u252, u253, u254, u255, u256, u257, u258, u259, u260, u261, u262, u263, u264, u265, u266, u267, u268, u269, u270, u271, u272, u273, u274, u275, u276, u277, u278, u279, u280, u281, u282, u283, u284, u285, u286, u287, u288, u289, u290, u291, u292, u293, u294, u295, u296, u297, u298, u299, u300, u301, u302, u303, u304, u305, u306, u307, u308, u309, u310, u311, u312, u313, u314, u315, u316, u317, u318, u319, u320, u321, u322, u323, u324, u325, u326, u327, u328, u329, u330, u331, u332, u333, u334, u335, u336, u337, u338, u339, u340, u341, u342, u343, u344, u345, u346, u347, u348, u349, u350, u351, u352, u353, u354, u355, u356, u357, u358, u359, u360, u361, u362, u363, u364, u365, u366, u367, u368, u369, u370, u371, u372, u373, u374, u375, u376, u377, u378, u379], []⟩ w := by
  conv => arg 2; whnf
  obtain ⟨xs, hxs⟩ : ∃ xs, xs = LL.getD j [] := ⟨_, rfl⟩
  obtain ⟨ys, hys⟩ : ∃ ys, ys = LL.getD (j + 1) [] := ⟨_, rfl⟩
  have rx := hB.rows j (by omega)
  have ry := hB.rows (j + 1) (by omega)
  have q1 : w.cell? ⟨b1, j, none⟩ = some (vs.getD j (.slice none 0 0)) := by
    rw [hB.b1.cell, List.getElem?_eq_getElem (by have := hB.lv; omega)]
    simp [List.getD_eq_getElem?_getD, List.getElem?_eq_getElem (show j < vs.length by have := hB.lv; omega)]
  have q2 : w.cell? ⟨b1, j + 1, none⟩ = some (vs.getD (j + 1) (.slice none 0 0)) := by
    rw [hB.b1.cell, List.getElem?_eq_getElem (by have := hB.lv; omega)]
    simp [List.getD_eq_getElem?_getD, List.getElem?_eq_getElem (show j + 1 < vs.length by have := hB.lv; omega)]
  obtain ⟨vx, hvx⟩ : ∃ v, v = vs.getD j (.slice none 0 0) := ⟨_, rfl⟩
  obtain ⟨vy, hvy⟩ : ∃ v, v = vs.getD (j + 1) (.slice none 0 0) := ⟨_, rfl⟩
  rw [← hxs] at hx hL hE rx
  rw [← hys] at hy hL hE ry
  rw [← hvx] at rx q1
  rw [← hvy] at ry q2
  have hcc := concat_ints vx vy xs ys hx hy w.drew rx ry
  obtain ⟨a, c, rfl, _⟩ := rx.slice
  obtain ⟨a', c', rfl, _⟩ := ry.slice
  rw [ints_len] at q1 q2 hcc
  rw [ints_len] at hcc
  obtain ⟨n1, hn1⟩ : ∃ n, n = xs.length := ⟨_, rfl⟩
  obtain ⟨n2, hn2⟩ : ∃ n, n = ys.length := ⟨_, rfl⟩
  rw [← hn1] at q1 hcc hx
  rw [← hn2] at q2 hcc hy
  have HC := hide hcc
  have LX : ∀ w', Blk w' w.heap.size 2 (ints .i64 (xs ++ ys)) → Below w.drew.heap.size w.drew w' → ∃ p q, LawS N W0 w' b0 bO bI bK j m p q w.heap.size (n1 + n2) ((n1 + n2) / 2) e bs (xs ++ ys) xl := by
    intro w' hg hb
    obtain ⟨p, q, hJ⟩ := lawS_of hj2 (Base.below (w := w.drew) ⟨hB.b0, hB.b1, hB.b2, hB.bO, hB.lb, hB.lv, hB.le, hB.lx, hB.rows, hB.leaf⟩ hb) (EndS.below (w := w.drew) hE hb) hg (by omega) (by rw [List.length_append]; omega) ((hbel.drew).trans (hb.mono hN))
    rw [List.length_append, ← hn1, ← hn2] at hJ
    exact ⟨p, q, hJ⟩
  have HL2 : Hid (¬ n1 + n2 ≤ 64) := by rw [List.length_append, ← hn1, ← hn2] at hL; exact hL
  have HLX := hide LX
  clear hcc hB hE hL hxs hys hvx hvy rx ry hbel hn1 hn2 LX
  have LX := HLX.out
  have i1 : ((j : Nat) : Int) + 1 < (m : Int) := by omega
  have i2 : IntKind.i64.wrap ((j : Int) + 1) = (j : Int) + 1 := by rw [IntKind.wrap_i64]; omega
  have i3 : (j : Int) < (m : Int) := by omega
  have i8 : (0 : Int) ≤ (j : Int) + 1 := by omega
  have i9 : ((j : Int) + 1).toNat = j + 1 := by omega
  clear LX
  have HKK := hide hK
  clear hK
  go_region_with (go_at_call 35; refine HC.out.mono ?_; rintro r w' ⟨rfl, hg, hb⟩; have HG := hide hg; have HBB := hide hb; clear hg hb)
  all_goals (obtain ⟨p, q, hJ⟩ := HLX.out _ HG.out HBB.out; refine HKK.out _ _ ?_; exact law_split N b0 bO bI bK j m p q w.heap.size (n1 + n2) ((n1 + n2) / 2) e bs (xs ++ ys) xl W0 _ (by have := HL2.out; omega) (by omega) rfl hj2 hm hJ _ _ _ _ _ _ _ _ _ _ _ _ _ _ _ _ _ _ _ _ _ _ _ _ _ _ _ _ _ _ _ _ _ _ _ _ _ _ _ _ _ _ _ _ _ _ _ _ _ _ _ _ _ _ _ _ _ _ _ _ _ _ _ _ _ _ _ _ _ _ _ _ _ _ _ _ _ _ _ _ _ _ _ _ _ _ _ _ _ _ _ _ _ _ _ _ _ _ _ _ _ _ _ _ _ _ _ _ _ _ _ _ _ _ _ _ _ _ _ _ _ _ _ _ _ _ _ _ _ _ _ _ _ _ _ _ _ _ _ _ _ _ _ _ _ _ _ _ _ _ _ _ _ _ _ _ _ _ _ _ _ _ _ _ _ _ _ _ _ _ _ _ _ _ _ _ _ _ _ _ _ _ _ _ _ _ _ _ _ _ _ _ _ _ _ _ _ _ _ _ _ _ _ _ _ _ _ _ _ _ _ _ _ _ _ _ _ _ _ _ _ _ _ _ _ _ _ _ _ _ _ _ _ _ _ _ _ _ _ _ _ _ _ _ _ _ _ _ _ _ _ _ _ _ _ _ _ _ _ _ _ _ _ _ _ _ _ _ _ _ _ _ _ _ _ _ _ _ _ _ _ _ _ _ _ _ _ _ _ _ _ _ _ _ _ _ _ _ _ _ _ _ _ _ _ _ _ _ _ _ _ _ _ _ _ _ _ _ _ _ _ _ _ _ _ _ _ _ _ _ _ _ _ _ _ _ _ _ _ _ _ _ _ _ _ _ _ _ _ _ _ _ _ _ _ _ _ _ _ _ _ _ _ _ _ _ _ _ _ _ _ _)

end Go.Proofs.Qxb6602784a.grf
