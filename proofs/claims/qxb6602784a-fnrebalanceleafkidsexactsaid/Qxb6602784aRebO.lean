import Derived.Test.Qxb6602784aRebN
namespace Go.Proofs.Qxb6602784a.grf
open Go.ChangeShapes Go.WideShapes Go.ChangeAt Go.RowKit Go.Maps
set_option linter.unusedSimpArgs false
set_option linter.unusedVariables false

set_option maxHeartbeats 4000000 in
set_option maxRecDepth 1000000 in
theorem law_one (N b0 b1 b2 bO bI bK d k m : Nat) (e : Int) (bs es : List Int) (vs : List Value) (xl : List Nat) (LL : List (List Int)) (W0 w : World) (hm2 : m = 1)
    (hB : Base w b0 b1 b2 bO m bs es vs xl LL) (hbI : Blk w bI 2 (ints .i64 bs)) (hbK : Blk w bK 40 (ptrs xl)) (hd : Node w d e (.slice (some ⟨bI, 0, none⟩) m m) (.slice (some ⟨bK, 0, none⟩) m m)) (hbel : Below N W0 w) (hN : N ≤ w.heap.size) (u5 u6 u7 u8 u9 u10 u12 u13 u16 u17 u18 u19 u20 u21 u22 u23 u24 u25 u26 u27 u28 u29 u30 u31 u32 u33 u34 u35 u36 u37 u38 u39 u40 u41 u42 u43 u44 u45 u46 u47 u48 u49 u50 u51 u52 u53 u54 u55 u56 u57 u58 u59 u60 u61 u62 u63 u64 u65 u66 u67 u68 u69 u70 u71 u72 u73 u74 u75 u76 u77 u78 u79 u80 u81 u82 u83 u84 u85 u86 u87 u88 u89 u90 u91 u92 u93 u94 u95 u96 u97 u98 u99 u100 u101 u102 u103 u104 u105 u106 u107 u108 u109 u110 u111 u112 u113 u114 u115 u116 u117 u118 u119 u120 u121 u122 u123 u124 u125 u126 u127 u128 u129 u130 u131 u132 u133 u134 u135 u136 u137 u138 u139 u140 u141 u142 u143 u144 u145 u146 u147 u148 u149 u150 u151 u152 u153 u154 u155 u156 u157 u158 u159 u160 u161 u162 u163 u164 u165 u166 u167 u168 u169 u170 u171 u172 u173 u174 u175 u176 u177 u178 u179 u180 u181 u182 u183 u184 u185 u186 u187 u188 u189 u190 u191 u192 u193 u194 u195 u196 u197 u198 u199 u200 u201 u202 u203 u204 u205 u206 u207 u208 u209 u210 u211 u212 u213 u214 u215 u216 u217 u218 u219 u220 u221 u222 u223 u224 u225 u226 u227 u228 u229 u230 u231 u232 u233 u234 u235 u236 u237 u238 u239 u240 u241 u242 u243 u244 u245 u246 u247 u248 u249 u250 u251 u252 u253 u254 u255 u256 u257 u258 u259 u260 u261 u262 u263 u264 u265 u266 u267 u268 u269 u270 u271 u272 u273 u274 u275 u276 u277 u278 u279 u280 u281 u282 u283 u284 u285 u286 u287 u288 u289 u290 u291 u292 u293 u294 u295 u296 u297 u298 u299 u300 u301 u302 u303 u304 u305 u306 u307 u308 u309 u310 u311 u312 u313 u314 u315 u316 u317 u318 u319 u320 u321 u322 u323 u324 u325 u326 u327 u328 u329 u330 u331 u332 u333 u334 u335 u336 u337 u338 u339 u340 u341 u342 u343 u344 u345 u346 u347 u348 u349 u350 u351 u352 u353 u354 u355 u356 u357 u358 u359 u360 u361 u362 u363 u364 u365 u366 u367 u368 u369 u370 u371 u372 u373 u374 u375 u376 u377 u378 u379 : Value) :
    Code.wp Try.prog (tailN 14 (Try.f8.body.getD .skip)) (bodyPost Try.prog Try.f8 fun r w' => r = .returned (.bool true) ∧ Below N W0 w') ⟨#[.slice (some ⟨b0, 0, none⟩) m m, .slice (some ⟨b1, 0, none⟩) m m, .slice (some ⟨b2, 0, none⟩) m m, .int .u64 e, .int .i64 (k : Int), u5, u6, u7, u8, u9, u10, .int .i64 (m : Int), u12, u13, .slice (some ⟨bO, 0, none⟩) m m, .pointer (some ⟨d, 0, none⟩), u16, u17, u18, u19, u20, u21, u22, u23, u24, u25, u26, u27, u28, u29, u30, u31, u32, u33, u34, u35, u36, u37, u38, u39, u40, u41, u42, u43, u44, u45, u46, u47, u48, u49, u50, u51, u52, u53, u54, u55, u56, u57, u58, u59, u60, u61, u62, u63, u64, u65, u66, u67, u68, u69, u70, u71, u72, u73, u74, u75, u76, u77, u78, u79, u80, u81, u82, u83, u84, u85, u86, u87, u88, u89, u90, u91, u92, u93, u94, u95, u96, u97, u98, u99, u100, u101, u102, u103, u104, u105, u106, u107, u108, u109, u110, u111, u112, u113, u114, u115, u116, u117, u118, u119, u120, u121, u122, u123, u124, u125, u126, u127, u128, u129, u130, u131, u132, u133, u134, u135, u136, u137, u138, u139, u140, u141, u142, u143, u144, u145, u146, u147, u148, u149, u150, u151, u152, u153, u154, u155, u156, u157, u158, u159, u160, u161, u162, u163, u164, u165, u166, u167, u168, u169, u170, u171, u172, u173, u174, u175, u176, u177, u178, u179, u180, u181, u182, u183, u184, u185, u186, u187, u188, u189, u190, u191, u192, u193, u194, u195, u196, u197, u198, u199, u200, u201, u202, u203, u204, u205, u206, u207, u208, u209, u210, u211, u212, u213, u214, u215, u216, u217, u218, u219, u220, u221, u222, u223, u224, u225, u226, u227, u228, u229, u230, u231, u232, u233, u234, u235, u236, u237, u238, u239, u240, u241, u242, u243, u244, u245, u246, u247, u248, u249, u250, u251, u252, u253, u254, u255, u256, u257, u258, u259, u260, u261, u262, u263, u264, u265, u266, u267, u268, u269, u270, u271, u272, u273, u274, u275, u276, u277, u278, u279, u280, u281, u282, u283, u284, u285, u286, u287, u288, u289, u290, u291, u292, u293, u294, u295, u296, u297, u298, u299, u300, u301, u302, u303, u304, u305, u306, u307, u308, u309, u310, u311, u312, u313, u314, u315, u316, u317, u318, u319, u320, u321, u322, u323, u324, u325, u326, u327, u328, u329, u330, u331, u332, u333, u334, u335, u336, u337, u338, u339, u340, u341, u342, u343, u344, u345, u346, u347, u348, u349, u350, u351, u352, u353, u354, u355, u356, u357, u358, u359, u360, u361, u362, u363, u364, u365, u366, u367, u368, u369, u370, u371, u372, u373, u374, u375, u376, u377, u378, u379], []⟩ w := by
  conv => arg 2; whnf
  have hm : m ≤ 65536 := by omega
  obtain ⟨s0, hs0⟩ : ∃ s, s = bs.getD 0 0 := ⟨_, rfl⟩
  obtain ⟨X0, hX0⟩ : ∃ X, X = xl.getD 0 0 := ⟨_, rfl⟩
  have g1 : w.cell? ⟨bI, 0, none⟩ = some (.int .i64 s0) := by rw [hbI.int 0 (by have := hB.lb; omega), hs0]
  have g2 : w.cell? ⟨b0, 0, none⟩ = some (.int .i64 s0) := by rw [hB.b0.int 0 (by have := hB.lb; omega), hs0]
  have g3 : w.cell? ⟨bK, 0, none⟩ = some (.pointer (some ⟨X0, 0, none⟩)) := by rw [hbK.cell, ptrs_at _ _ (by have := hB.lx; omega), hX0]
  have g4 : w.cell? ⟨bO, 0, none⟩ = some (.pointer (some ⟨X0, 0, none⟩)) := by rw [hB.bO.cell, ptrs_at _ _ (by have := hB.lx; omega), hX0]
  have hps := ptr_same X0
  have i0 : ((m : Int) == 1) = true := by simp [hm2]
  have i00 : (0 : Int) < (m : Int) := by omega
  clear hs0 hX0 hbI hbK hm2
  have HB := hide hB
  have HD := hide hd
  have HBEL := hide hbel
  clear hB hd hbel
  have i1 : (e != e) = false := by simp
  go_wp2
  go_loopw [16] (fun i wr => ∃ k' : Nat, k' ≤ m ∧ i = .int .i64 k' ∧ ∃ n, wr = w.drewN n) (fun i _ => m - (intOf i).toNat)
  case atStart => exact ⟨0, Nat.zero_le _, rfl, 0, rfl⟩
  case round =>
    obtain ⟨k', hk', rfl, n, rfl⟩ := hrel
    by_cases hlt : k' < m
    · have i3 : (k' : Int) < (m : Int) := by omega
      obtain ⟨X, hX⟩ : ∃ X, X = xl.getD k' 0 := ⟨_, rfl⟩
      obtain ⟨s, hs⟩ : ∃ s, s = es.getD k' 0 := ⟨_, rfl⟩
      obtain ⟨v, hv⟩ : ∃ v, v = vs.getD k' (.slice none 0 0) := ⟨_, rfl⟩
      have rv := HB.out.rows k' hlt
      have lf := HB.out.leaf k' hlt
      have q1 : w.cell? ⟨bO, k', none⟩ = some (.pointer (some ⟨X, 0, none⟩)) := by rw [HB.out.bO.cell, ptrs_at _ _ (by have := HB.out.lx; omega), hX]
      have q2 : w.cell? ⟨b2, k', none⟩ = some (.int .u64 s) := by rw [HB.out.b2.int k' (by have := HB.out.le; omega), hs]
      have q3 : w.cell? ⟨b1, k', none⟩ = some v := by
        rw [HB.out.b1.cell, hv, List.getElem?_eq_getElem (by have := HB.out.lv; omega)]
        simp [List.getD_eq_getElem?_getD, List.getElem?_eq_getElem (show k' < vs.length by have := HB.out.lv; omega)]
      rw [← hX, ← hs] at lf
      rw [← hv] at rv
      obtain ⟨a, c, rfl, _⟩ := rv.slice
      rw [ints_len] at q3
      have LH : ∀ n0 n, Hid (Calls Try.prog 31 #[.pointer (some ⟨X, 0, none⟩), .int .u64 s, .slice a (LL.getD k' []).length c] (w.drewN (n0 + n)) fun e w' => e = .returned (.bool true) ∧ ∃ m, w' = w.drewN (n0 + m)) :=
        fun n0 n => by have := quiet_holds lf rv n0 n; rw [ints_len] at this; exact this
      clear hX hs hv lf rv
      go_wp2_with fail
      go_quiet ((go_at_call 31; exact (LH _ _).out))
      go_wp2
      go_roundw
      case rel => exact ⟨k' + 1, by omega, by go_num, _, rfl⟩
      case measure => simp [intOf]; omega
    · have i3 : ¬ (k' : Int) < (m : Int) := by omega
      go_wp2_with fail
      refine (get_epoch d e _ _ (w.drewN n) HD.out).mono ?_
      rintro r w' ⟨rfl, rfl⟩
      go_wp2_with fail
      refine (get_kids d e _ _ _ _ (w.drewN n) HD.out).mono ?_
      rintro r w' ⟨rfl, rfl⟩
      go_wp2_with fail
      refine (get_ids d e _ _ _ _ (w.drewN n) HD.out).mono ?_
      rintro r w' ⟨rfl, rfl⟩
      dsimp only
      go_wp2_with fail
      go_quiet (fail)
      go_wp2
      go_ret
      exact ⟨rfl, (HBEL.out.trans (drewN_below _ w n)).trans (drewN_below _ _ _)⟩

set_option maxHeartbeats 4000000 in
set_option maxRecDepth 1000000 in
theorem law_twoJ (N b0 b1 b2 bO bI bK d j k m : Nat) (e : Int) (bs es : List Int) (vs : List Value) (xl : List Nat) (LL : List (List Int)) (W0 w : World) (hk : k < m) (hm2 : 2 ≤ m) (hm : m ≤ 65536) (hj : j = if k = m - 1 then m - 2 else k) (hx : (LL.getD j []).length ≤ 1048576) (hy : (LL.getD (j + 1) []).length ≤ 1048576)
    (hL : (LL.getD j [] ++ LL.getD (j + 1) []).length ≤ 64) (hB : Base w b0 b1 b2 bO m bs es vs xl LL) (hE : EndJ w bI bK m j e bs xl (LL.getD j [] ++ LL.getD (j + 1) [])) (hd : Node w d e (.slice (some ⟨bI, 0, none⟩) (m - 1) m) (.slice (some ⟨bK, 0, none⟩) (m - 1) m)) (hbel : Below N W0 w) (hN : N ≤ w.heap.size) (u5 u6 u7 u8 u9 u10 u12 u13 u16 u17 u18 u19 u20 u21 u22 u23 u24 u25 u26 u27 u28 u29 u30 u31 u32 u33 u34 u35 u36 u37 u38 u39 u40 u41 u42 u43 u44 u45 u46 u47 u48 u49 u50 u51 u52 u53 u54 u55 u56 u57 u58 u59 u60 u61 u62 u63 u64 u65 u66 u67 u68 u69 u70 u71 u72 u73 u74 u75 u76 u77 u78 u79 u80 u81 u82 u83 u84 u85 u86 u87 u88 u89 u90 u91 u92 u93 u94 u95 u96 u97 u98 u99 u100 u101 u102 u103 u104 u105 u106 u107 u108 u109 u110 u111 u112 u113 u114 u115 u116 u117 u118 u119 u120 u121 u122 u123 u124 u125 u126 u127 u128 u129 u130 u131 u132 u133 u134 u135 u136 u137 u138 u139 u140 u141 u142 u143 u144 u145 u146 u147 u148 u149 u150 u151 u152 u153 u154 u155 u156 u157 u158 u159 u160 u161 u162 u163 u164 u165 u166 u167 u168 u169 u170 u171 u172 u173 u174 u175 u176 u177 u178 u179 u180 u181 u182 u183 u184 u185 u186 u187 u188 u189 u190 u191 u192 u193 u194 u195 u196 u197 u198 u199 u200 u201 u202 u203 u204 u205 u206 u207 u208 u209 u210 u211 u212 u213 u214 u215 u216 u217 u218 u219 u220 u221 u222 u223 u224 u225 u226 u227 u228 u229 u230 u231 u232 u233 u234 u235 u236 u237 u238 u239 u240 u241 u242 u243 u244 u245 u246 u247 u248 u249 u250 u251 u252 u253 u254 u255 u256 u257 u258 u259 u260 u261 u262 u263 u264 u265 u266 u267 u268 u269 u270 u271 u272 u273 u274 u275 u276 u277 u278 u279 u280 u281 u282 u283 u284 u285 u286 u287 u288 u289 u290 u291 u292 u293 u294 u295 u296 u297 u298 u299 u300 u301 u302 u303 u304 u305 u306 u307 u308 u309 u310 u311 u312 u313 u314 u315 u316 u317 u318 u319 u320 u321 u322 u323 u324 u325 u326 u327 u328 u329 u330 u331 u332 u333 u334 u335 u336 u337 u338 u339 u340 u341 u342 u343 u344 u345 u346 u347 u348 u349 u350 u351 u352 u353 u354 u355 u356 u357 u358 u359 u360 u361 u362 u363 u364 u365 u366 u367 u368 u369 u370 u371 u372 u373 u374 u375 u376 u377 u378 u379 : Value) :
    Code.wp Try.prog (tailN 14 (Try.f8.body.getD .skip)) (bodyPost Try.prog Try.f8 fun r w' => r = .returned (.bool true) ∧ Below N W0 w') ⟨#[.slice (some ⟨b0, 0, none⟩) m m, .slice (some ⟨b1, 0, none⟩) m m, .slice (some ⟨b2, 0, none⟩) m m, .int .u64 e, .int .i64 (k : Int), u5, u6, u7, u8, u9, u10, .int .i64 (m : Int), u12, u13, .slice (some ⟨bO, 0, none⟩) m m, .pointer (some ⟨d, 0, none⟩), u16, u17, u18, u19, u20, u21, u22, u23, u24, u25, u26, u27, u28, u29, u30, u31, u32, u33, u34, u35, u36, u37, u38, u39, u40, u41, u42, u43, u44, u45, u46, u47, u48, u49, u50, u51, u52, u53, u54, u55, u56, u57, u58, u59, u60, u61, u62, u63, u64, u65, u66, u67, u68, u69, u70, u71, u72, u73, u74, u75, u76, u77, u78, u79, u80, u81, u82, u83, u84, u85, u86, u87, u88, u89, u90, u91, u92, u93, u94, u95, u96, u97, u98, u99, u100, u101, u102, u103, u104, u105, u106, u107, u108, u109, u110, u111, u112, u113, u114, u115, u116, u117, u118, u119, u120, u121, u122, u123, u124, u125, u126, u127, u128, u129, u130, u131, u132, u133, u134, u135, u136, u137, u138, u139, u140, u141, u142, u143, u144, u145, u146, u147, u148, u149, u150, u151, u152, u153, u154, u155, u156, u157, u158, u159, u160, u161, u162, u163, u164, u165, u166, u167, u168, u169, u170, u171, u172, u173, u174, u175, u176, u177, u178, u179, u180, u181, u182, u183, u184, u185, u186, u187, u188, u189, u190, u191, u192, u193, u194, u195, u196, u197, u198, u199, u200, u201, u202, u203, u204, u205, u206, u207, u208, u209, u210, u211, u212, u213, u214, u215, u216, u217, u218, u219, u220, u221, u222, u223, u224, u225, u226, u227, u228, u229, u230, u231, u232, u233, u234, u235, u236, u237, u238, u239, u240, u241, u242, u243, u244, u245, u246, u247, u248, u249, u250, u251, u252, u253, u254, u255, u256, u257, u258, u259, u260, u261, u262, u263, u264, u265, u266, u267, u268, u269, u270, u271, u272, u273, u274, u275, u276, u277, u278, u279, u280, u281, u282, u283, u284, u285, u286, u287, u288, u289, u290, u291, u292, u293, u294, u295, u296, u297, u298, u299, u300, u301, u302, u303, u304, u305, u306, u307, u308, u309, u310, u311, u312, u313, u314, u315, u316, u317, u318, u319, u320, u321, u322, u323, u324, u325, u326, u327, u328, u329, u330, u331, u332, u333, u334, u335, u336, u337, u338, u339, u340, u341, u342, u343, u344, u345, u346, u347, u348, u349, u350, u351, u352, u353, u354, u355, u356, u357, u358, u359, u360, u361, u362, u363, u364, u365, u366, u367, u368, u369, u370, u371, u372, u373, u374, u375, u376, u377, u378, u379], []⟩ w := by
  conv => arg 2; whnf
  have i0 : ((m : Int) == 1) = false := by simp; omega
  have i01 : IntKind.i64.wrap ((m : Int) - 1) = ((m - 1 : Nat) : Int) := by rw [IntKind.wrap_i64]; omega
  have i00 : IntKind.i64.wrap ((m : Int) - 2) = ((m - 2 : Nat) : Int) := by rw [IntKind.wrap_i64]; omega
  have HE := hide hE
  have HJ := hide hj
  have HL := hide hL
  have HX := hide hx
  have HY := hide hy
  clear hE hj hL hx hy
  have HB := hide hB
  have HD := hide hd
  have HBEL := hide hbel
  clear hB hd hbel
  have i1 : (e != e) = false := by simp
  go_wp2
  go_loopw [16] (fun i wr => ∃ k' : Nat, k' ≤ m ∧ i = .int .i64 k' ∧ ∃ n, wr = w.drewN n) (fun i _ => m - (intOf i).toNat)
  case atStart => exact ⟨0, Nat.zero_le _, rfl, 0, rfl⟩
  case round =>
    obtain ⟨k', hk', rfl, n, rfl⟩ := hrel
    by_cases hlt : k' < m
    · have i3 : (k' : Int) < (m : Int) := by omega
      obtain ⟨X, hX⟩ : ∃ X, X = xl.getD k' 0 := ⟨_, rfl⟩
      obtain ⟨s, hs⟩ : ∃ s, s = es.getD k' 0 := ⟨_, rfl⟩
      obtain ⟨v, hv⟩ : ∃ v, v = vs.getD k' (.slice none 0 0) := ⟨_, rfl⟩
      have rv := HB.out.rows k' hlt
      have lf := HB.out.leaf k' hlt
      have q1 : w.cell? ⟨bO, k', none⟩ = some (.pointer (some ⟨X, 0, none⟩)) := by rw [HB.out.bO.cell, ptrs_at _ _ (by have := HB.out.lx; omega), hX]
      have q2 : w.cell? ⟨b2, k', none⟩ = some (.int .u64 s) := by rw [HB.out.b2.int k' (by have := HB.out.le; omega), hs]
      have q3 : w.cell? ⟨b1, k', none⟩ = some v := by
        rw [HB.out.b1.cell, hv, List.getElem?_eq_getElem (by have := HB.out.lv; omega)]
        simp [List.getD_eq_getElem?_getD, List.getElem?_eq_getElem (show k' < vs.length by have := HB.out.lv; omega)]
      rw [← hX, ← hs] at lf
      rw [← hv] at rv
      obtain ⟨a, c, rfl, _⟩ := rv.slice
      rw [ints_len] at q3
      have LH : ∀ n0 n, Hid (Calls Try.prog 31 #[.pointer (some ⟨X, 0, none⟩), .int .u64 s, .slice a (LL.getD k' []).length c] (w.drewN (n0 + n)) fun e w' => e = .returned (.bool true) ∧ ∃ m, w' = w.drewN (n0 + m)) :=
        fun n0 n => by have := quiet_holds lf rv n0 n; rw [ints_len] at this; exact this
      clear hX hs hv lf rv
      go_wp2_with fail
      go_quiet ((go_at_call 31; exact (LH _ _).out))
      go_wp2
      go_roundw
      case rel => exact ⟨k' + 1, by omega, by go_num, _, rfl⟩
      case measure => simp [intOf]; omega
    · have i3 : ¬ (k' : Int) < (m : Int) := by omega
      go_wp2_with fail
      refine (get_epoch d e _ _ (w.drewN n) HD.out).mono ?_
      rintro r w' ⟨rfl, rfl⟩
      go_wp2_with fail
      refine (get_kids d e _ _ _ _ (w.drewN n) HD.out).mono ?_
      rintro r w' ⟨rfl, rfl⟩
      go_wp2_with fail
      refine (get_ids d e _ _ _ _ (w.drewN n) HD.out).mono ?_
      rintro r w' ⟨rfl, rfl⟩
      dsimp only
      have hj2 : j + 1 < m := by have := HJ.out; split at this <;> omega
      have HCAT := hide (law_catJ N b0 b1 b2 bO bI bK j m e bs es vs xl LL W0 (w.drewN n) hj2 hm HX.out HY.out HL.out (HB.out.drewN n) HE.out (HBEL.out.trans (drewN_below _ _ _)) hN)
      by_cases hc : k = m - 1
      · have b2 : ((k : Int) == ((m - 1 : Nat) : Int)) = true := by simp [hc]
        have hj := HJ.out
        rw [if_pos hc] at hj
        rw [hj] at HCAT
        clear hj HB HE HD HBEL HX HY HL
        go_wp2_with fail
        exact HCAT.out _ ‹∀ (a : Act) (w : World), Code.wp Try.prog _ _ a w → _› _ _ _ _ _ _ _ _ _ _ _ _ _ _ _ _ _ _ _ _ _ _ _ _ _ _ _ _ _ _ _ _ _ _ _ _ _ _ _ _ _ _ _ _ _ _ _ _ _ _ _ _ _ _ _ _ _ _ _ _ _ _ _ _ _ _ _ _ _ _ _ _ _ _ _ _ _ _ _ _ _ _ _ _ _ _ _ _ _ _ _ _ _ _ _ _ _ _ _ _ _ _ _ _ _ _ _ _ _ _ _ _ _ _ _ _ _ _ _ _ _ _ _ _ _ _ _ _ _ _ _ _ _ _ _ _ _ _ _ _ _ _ _ _ _ _ _ _ _ _ _ _ _ _ _ _ _ _ _ _ _ _ _ _ _ _ _ _ _ _ _ _ _ _ _ _ _ _ _ _ _ _ _ _ _ _ _ _ _ _ _ _ _ _ _ _ _ _ _ _ _ _ _ _ _ _ _ _ _ _ _ _ _ _ _ _ _ _ _ _ _ _ _ _ _ _ _ _ _ _ _ _ _ _ _ _ _ _ _ _ _ _ _ _ _ _ _ _ _ _ _ _ _ _ _ _ _ _ _ _ _ _ _ _ _ _ _ _ _ _ _ _ _ _ _ _ _ _ _ _ _ _ _ _ _ _ _ _ _ _ _ _ _ _ _ _ _ _ _ _ _ _ _ _ _ _ _ _ _ _ _ _ _ _ _ _ _ _ _ _ _ _ _ _ _ _ _ _ _ _ _ _ _ _ _ _ _ _ _ _ _ _ _ _ _ _ _ _ _ _ _ _ _ _ _ _ _ _ _ _ _ _ _ _ _ _ _ _ _ _ _ _
      · have b2 : ((k : Int) == ((m - 1 : Nat) : Int)) = false := by simp; omega
        have hj := HJ.out
        rw [if_neg hc] at hj
        rw [hj] at HCAT
        clear hj HB HE HD HBEL HX HY HL
        go_wp2_with fail
        exact HCAT.out _ ‹∀ (a : Act) (w : World), Code.wp Try.prog _ _ a w → _› _ _ _ _ _ _ _ _ _ _ _ _ _ _ _ _ _ _ _ _ _ _ _ _ _ _ _ _ _ _ _ _ _ _ _ _ _ _ _ _ _ _ _ _ _ _ _ _ _ _ _ _ _ _ _ _ _ _ _ _ _ _ _ _ _ _ _ _ _ _ _ _ _ _ _ _ _ _ _ _ _ _ _ _ _ _ _ _ _ _ _ _ _ _ _ _ _ _ _ _ _ _ _ _ _ _ _ _ _ _ _ _ _ _ _ _ _ _ _ _ _ _ _ _ _ _ _ _ _ _ _ _ _ _ _ _ _ _ _ _ _ _ _ _ _ _ _ _ _ _ _ _ _ _ _ _ _ _ _ _ _ _ _ _ _ _ _ _ _ _ _ _ _ _ _ _ _ _ _ _ _ _ _ _ _ _ _ _ _ _ _ _ _ _ _ _ _ _ _ _ _ _ _ _ _ _ _ _ _ _ _ _ _ _ _ _ _ _ _ _ _ _ _ _ _ _ _ _ _ _ _ _ _ _ _ _ _ _ _ _ _ _ _ _ _ _ _ _ _ _ _ _ _ _ _ _ _ _ _ _ _ _ _ _ _ _ _ _ _ _ _ _ _ _ _ _ _ _ _ _ _ _ _ _ _ _ _ _ _ _ _ _ _ _ _ _ _ _ _ _ _ _ _ _ _ _ _ _ _ _ _ _ _ _ _ _ _ _ _ _ _ _ _ _ _ _ _ _ _ _ _ _ _ _ _ _ _ _ _ _ _ _ _ _ _ _ _ _ _ _ _ _ _ _ _ _ _ _ _ _ _ _ _ _ _ _ _ _ _ _ _ _

set_option maxHeartbeats 4000000 in
set_option maxRecDepth 1000000 in
theorem law_twoS (N b0 b1 b2 bO bI bK d j k m : Nat) (e : Int) (bs es : List Int) (vs : List Value) (xl : List Nat) (LL : List (List Int)) (W0 w : World) (hk : k < m) (hm2 : 2 ≤ m) (hm : m ≤ 65536) (hj : j = if k = m - 1 then m - 2 else k) (hx : (LL.getD j []).length ≤ 1048576) (hy : (LL.getD (j + 1) []).length ≤ 1048576)
    (hL : ¬ (LL.getD j [] ++ LL.getD (j + 1) []).length ≤ 64) (hB : Base w b0 b1 b2 bO m bs es vs xl LL) (hE : EndS w bI bK m j e bs xl (LL.getD j [] ++ LL.getD (j + 1) [])) (hd : Node w d e (.slice (some ⟨bI, 0, none⟩) m m) (.slice (some ⟨bK, 0, none⟩) m m)) (hbel : Below N W0 w) (hN : N ≤ w.heap.size) (u5 u6 u7 u8 u9 u10 u12 u13 u16 u17 u18 u19 u20 u21 u22 u23 u24 u25 u26 u27 u28 u29 u30 u31 u32 u33 u34 u35 u36 u37 u38 u39 u40 u41 u42 u43 u44 u45 u46 u47 u48 u49 u50 u51 u52 u53 u54 u55 u56 u57 u58 u59 u60 u61 u62 u63 u64 u65 u66 u67 u68 u69 u70 u71 u72 u73 u74 u75 u76 u77 u78 u79 u80 u81 u82 u83 u84 u85 u86 u87 u88 u89 u90 u91 u92 u93 u94 u95 u96 u97 u98 u99 u100 u101 u102 u103 u104 u105 u106 u107 u108 u109 u110 u111 u112 u113 u114 u115 u116 u117 u118 u119 u120 u121 u122 u123 u124 u125 u126 u127 u128 u129 u130 u131 u132 u133 u134 u135 u136 u137 u138 u139 u140 u141 u142 u143 u144 u145 u146 u147 u148 u149 u150 u151 u152 u153 u154 u155 u156 u157 u158 u159 u160 u161 u162 u163 u164 u165 u166 u167 u168 u169 u170 u171 u172 u173 u174 u175 u176 u177 u178 u179 u180 u181 u182 u183 u184 u185 u186 u187 u188 u189 u190 u191 u192 u193 u194 u195 u196 u197 u198 u199 u200 u201 u202 u203 u204 u205 u206 u207 u208 u209 u210 u211 u212 u213 u214 u215 u216 u217 u218 u219 u220 u221 u222 u223 u224 u225 u226 u227 u228 u229 u230 u231 u232 u233 u234 u235 u236 u237 u238 u239 u240 u241 u242 u243 u244 u245 u246 u247 u248 u249 u250 u251 u252 u253 u254 u255 u256 u257 u258 u259 u260 u261 u262 u263 u264 u265 u266 u267 u268 u269 u270 u271 u272 u273 u274 u275 u276 u277 u278 u279 u280 u281 u282 u283 u284 u285 u286 u287 u288 u289 u290 u291 u292 u293 u294 u295 u296 u297 u298 u299 u300 u301 u302 u303 u304 u305 u306 u307 u308 u309 u310 u311 u312 u313 u314 u315 u316 u317 u318 u319 u320 u321 u322 u323 u324 u325 u326 u327 u328 u329 u330 u331 u332 u333 u334 u335 u336 u337 u338 u339 u340 u341 u342 u343 u344 u345 u346 u347 u348 u349 u350 u351 u352 u353 u354 u355 u356 u357 u358 u359 u360 u361 u362 u363 u364 u365 u366 u367 u368 u369 u370 u371 u372 u373 u374 u375 u376 u377 u378 u379 : Value) :
    Code.wp Try.prog (tailN 14 (Try.f8.body.getD .skip)) (bodyPost Try.prog Try.f8 fun r w' => r = .returned (.bool true) ∧ Below N W0 w') ⟨#[.slice (some ⟨b0, 0, none⟩) m m, .slice (some ⟨b1, 0, none⟩) m m, .slice (some ⟨b2, 0, none⟩) m m, .int .u64 e, .int .i64 (k : Int), u5, u6, u7, u8, u9, u10, .int .i64 (m : Int), u12, u13, .slice (some ⟨bO, 0, none⟩) m m, .pointer (some ⟨d, 0, none⟩), u16, u17, u18, u19, u20, u21, u22, u23, u24, u25, u26, u27, u28, u29, u30, u31, u32, u33, u34, u35, u36, u37, u38, u39, u40, u41, u42, u43, u44, u45, u46, u47, u48, u49, u50, u51, u52, u53, u54, u55, u56, u57, u58, u59, u60, u61, u62, u63, u64, u65, u66, u67, u68, u69, u70, u71, u72, u73, u74, u75, u76, u77, u78, u79, u80, u81, u82, u83, u84, u85, u86, u87, u88, u89, u90, u91, u92, u93, u94, u95, u96, u97, u98, u99, u100, u101, u102, u103, u104, u105, u106, u107, u108, u109, u110, u111, u112, u113, u114, u115, u116, u117, u118, u119, u120, u121, u122, u123, u124, u125, u126, u127, u128, u129, u130, u131, u132, u133, u134, u135, u136, u137, u138, u139, u140, u141, u142, u143, u144, u145, u146, u147, u148, u149, u150, u151, u152, u153, u154, u155, u156, u157, u158, u159, u160, u161, u162, u163, u164, u165, u166, u167, u168, u169, u170, u171, u172, u173, u174, u175, u176, u177, u178, u179, u180, u181, u182, u183, u184, u185, u186, u187, u188, u189, u190, u191, u192, u193, u194, u195, u196, u197, u198, u199, u200, u201, u202, u203, u204, u205, u206, u207, u208, u209, u210, u211, u212, u213, u214, u215, u216, u217, u218, u219, u220, u221, u222, u223, u224, u225, u226, u227, u228, u229, u230, u231, u232, u233, u234, u235, u236, u237, u238, u239, u240, u241, u242, u243, u244, u245, u246, u247, u248, u249, u250, u251, u252, u253, u254, u255, u256, u257, u258, u259, u260, u261, u262, u263, u264, u265, u266, u267, u268, u269, u270, u271, u272, u273, u274, u275, u276, u277, u278, u279, u280, u281, u282, u283, u284, u285, u286, u287, u288, u289, u290, u291, u292, u293, u294, u295, u296, u297, u298, u299, u300, u301, u302, u303, u304, u305, u306, u307, u308, u309, u310, u311, u312, u313, u314, u315, u316, u317, u318, u319, u320, u321, u322, u323, u324, u325, u326, u327, u328, u329, u330, u331, u332, u333, u334, u335, u336, u337, u338, u339, u340, u341, u342, u343, u344, u345, u346, u347, u348, u349, u350, u351, u352, u353, u354, u355, u356, u357, u358, u359, u360, u361, u362, u363, u364, u365, u366, u367, u368, u369, u370, u371, u372, u373, u374, u375, u376, u377, u378, u379], []⟩ w := by
  conv => arg 2; whnf
  have i0 : ((m : Int) == 1) = false := by simp; omega
  have i01 : IntKind.i64.wrap ((m : Int) - 1) = ((m - 1 : Nat) : Int) := by rw [IntKind.wrap_i64]; omega
  have i00 : IntKind.i64.wrap ((m : Int) - 2) = ((m - 2 : Nat) : Int) := by rw [IntKind.wrap_i64]; omega
  have HE := hide hE
  have HJ := hide hj
  have HL := hide hL
  have HX := hide hx
  have HY := hide hy
  clear hE hj hL hx hy
  have HB := hide hB
  have HD := hide hd
  have HBEL := hide hbel
  clear hB hd hbel
  have i1 : (e != e) = false := by simp
  go_wp2
  go_loopw [16] (fun i wr => ∃ k' : Nat, k' ≤ m ∧ i = .int .i64 k' ∧ ∃ n, wr = w.drewN n) (fun i _ => m - (intOf i).toNat)
  case atStart => exact ⟨0, Nat.zero_le _, rfl, 0, rfl⟩
  case round =>
    obtain ⟨k', hk', rfl, n, rfl⟩ := hrel
    by_cases hlt : k' < m
    · have i3 : (k' : Int) < (m : Int) := by omega
      obtain ⟨X, hX⟩ : ∃ X, X = xl.getD k' 0 := ⟨_, rfl⟩
      obtain ⟨s, hs⟩ : ∃ s, s = es.getD k' 0 := ⟨_, rfl⟩
      obtain ⟨v, hv⟩ : ∃ v, v = vs.getD k' (.slice none 0 0) := ⟨_, rfl⟩
      have rv := HB.out.rows k' hlt
      have lf := HB.out.leaf k' hlt
      have q1 : w.cell? ⟨bO, k', none⟩ = some (.pointer (some ⟨X, 0, none⟩)) := by rw [HB.out.bO.cell, ptrs_at _ _ (by have := HB.out.lx; omega), hX]
      have q2 : w.cell? ⟨b2, k', none⟩ = some (.int .u64 s) := by rw [HB.out.b2.int k' (by have := HB.out.le; omega), hs]
      have q3 : w.cell? ⟨b1, k', none⟩ = some v := by
        rw [HB.out.b1.cell, hv, List.getElem?_eq_getElem (by have := HB.out.lv; omega)]
        simp [List.getD_eq_getElem?_getD, List.getElem?_eq_getElem (show k' < vs.length by have := HB.out.lv; omega)]
      rw [← hX, ← hs] at lf
      rw [← hv] at rv
      obtain ⟨a, c, rfl, _⟩ := rv.slice
      rw [ints_len] at q3
      have LH : ∀ n0 n, Hid (Calls Try.prog 31 #[.pointer (some ⟨X, 0, none⟩), .int .u64 s, .slice a (LL.getD k' []).length c] (w.drewN (n0 + n)) fun e w' => e = .returned (.bool true) ∧ ∃ m, w' = w.drewN (n0 + m)) :=
        fun n0 n => by have := quiet_holds lf rv n0 n; rw [ints_len] at this; exact this
      clear hX hs hv lf rv
      go_wp2_with fail
      go_quiet ((go_at_call 31; exact (LH _ _).out))
      go_wp2
      go_roundw
      case rel => exact ⟨k' + 1, by omega, by go_num, _, rfl⟩
      case measure => simp [intOf]; omega
    · have i3 : ¬ (k' : Int) < (m : Int) := by omega
      go_wp2_with fail
      refine (get_epoch d e _ _ (w.drewN n) HD.out).mono ?_
      rintro r w' ⟨rfl, rfl⟩
      go_wp2_with fail
      refine (get_kids d e _ _ _ _ (w.drewN n) HD.out).mono ?_
      rintro r w' ⟨rfl, rfl⟩
      go_wp2_with fail
      refine (get_ids d e _ _ _ _ (w.drewN n) HD.out).mono ?_
      rintro r w' ⟨rfl, rfl⟩
      dsimp only
      have hj2 : j + 1 < m := by have := HJ.out; split at this <;> omega
      have HCAT := hide (law_catS N b0 b1 b2 bO bI bK j m e bs es vs xl LL W0 (w.drewN n) hj2 hm HX.out HY.out HL.out (HB.out.drewN n) HE.out (HBEL.out.trans (drewN_below _ _ _)) hN)
      by_cases hc : k = m - 1
      · have b2 : ((k : Int) == ((m - 1 : Nat) : Int)) = true := by simp [hc]
        have hj := HJ.out
        rw [if_pos hc] at hj
        rw [hj] at HCAT
        clear hj HB HE HD HBEL HX HY HL
        go_wp2_with fail
        exact HCAT.out _ ‹∀ (a : Act) (w : World), Code.wp Try.prog _ _ a w → _› _ _ _ _ _ _ _ _ _ _ _ _ _ _ _ _ _ _ _ _ _ _ _ _ _ _ _ _ _ _ _ _ _ _ _ _ _ _ _ _ _ _ _ _ _ _ _ _ _ _ _ _ _ _ _ _ _ _ _ _ _ _ _ _ _ _ _ _ _ _ _ _ _ _ _ _ _ _ _ _ _ _ _ _ _ _ _ _ _ _ _ _ _ _ _ _ _ _ _ _ _ _ _ _ _ _ _ _ _ _ _ _ _ _ _ _ _ _ _ _ _ _ _ _ _ _ _ _ _ _ _ _ _ _ _ _ _ _ _ _ _ _ _ _ _ _ _ _ _ _ _ _ _ _ _ _ _ _ _ _ _ _ _ _ _ _ _ _ _ _ _ _ _ _ _ _ _ _ _ _ _ _ _ _ _ _ _ _ _ _ _ _ _ _ _ _ _ _ _ _ _ _ _ _ _ _ _ _ _ _ _ _ _ _ _ _ _ _ _ _ _ _ _ _ _ _ _ _ _ _ _ _ _ _ _ _ _ _ _ _ _ _ _ _ _ _ _ _ _ _ _ _ _ _ _ _ _ _ _ _ _ _ _ _ _ _ _ _ _ _ _ _ _ _ _ _ _ _ _ _ _ _ _ _ _ _ _ _ _ _ _ _ _ _ _ _ _ _ _ _ _ _ _ _ _ _ _ _ _ _ _ _ _ _ _ _ _ _ _ _ _ _ _ _ _ _ _ _ _ _ _ _ _ _ _ _ _ _ _ _ _ _ _ _ _ _ _ _ _ _ _ _ _ _ _ _ _ _ _ _ _ _ _ _ _ _ _ _ _ _ _ _
      · have b2 : ((k : Int) == ((m - 1 : Nat) : Int)) = false := by simp; omega
        have hj := HJ.out
        rw [if_neg hc] at hj
        rw [hj] at HCAT
        clear hj HB HE HD HBEL HX HY HL
        go_wp2_with fail
        exact HCAT.out _ ‹∀ (a : Act) (w : World), Code.wp Try.prog _ _ a w → _› _ _ _ _ _ _ _ _ _ _ _ _ _ _ _ _ _ _ _ _ _ _ _ _ _ _ _ _ _ _ _ _ _ _ _ _ _ _ _ _ _ _ _ _ _ _ _ _ _ _ _ _ _ _ _ _ _ _ _ _ _ _ _ _ _ _ _ _ _ _ _ _ _ _ _ _ _ _ _ _ _ _ _ _ _ _ _ _ _ _ _ _ _ _ _ _ _ _ _ _ _ _ _ _ _ _ _ _ _ _ _ _ _ _ _ _ _ _ _ _ _ _ _ _ _ _ _ _ _ _ _ _ _ _ _ _ _ _ _ _ _ _ _ _ _ _ _ _ _ _ _ _ _ _ _ _ _ _ _ _ _ _ _ _ _ _ _ _ _ _ _ _ _ _ _ _ _ _ _ _ _ _ _ _ _ _ _ _ _ _ _ _ _ _ _ _ _ _ _ _ _ _ _ _ _ _ _ _ _ _ _ _ _ _ _ _ _ _ _ _ _ _ _ _ _ _ _ _ _ _ _ _ _ _ _ _ _ _ _ _ _ _ _ _ _ _ _ _ _ _ _ _ _ _ _ _ _ _ _ _ _ _ _ _ _ _ _ _ _ _ _ _ _ _ _ _ _ _ _ _ _ _ _ _ _ _ _ _ _ _ _ _ _ _ _ _ _ _ _ _ _ _ _ _ _ _ _ _ _ _ _ _ _ _ _ _ _ _ _ _ _ _ _ _ _ _ _ _ _ _ _ _ _ _ _ _ _ _ _ _ _ _ _ _ _ _ _ _ _ _ _ _ _ _ _ _ _ _ _ _ _ _ _ _ _ _ _ _ _ _ _ _

end Go.Proofs.Qxb6602784a.grf
