import Derived.Test.Qxb6602784aRebQ
namespace Go.Proofs.Qxb6602784a.grf
open Go.ChangeShapes Go.WideShapes Go.ChangeAt Go.RowKit Go.Maps
set_option linter.unusedSimpArgs false
set_option linter.unusedVariables false

set_option maxHeartbeats 4000000 in
set_option maxRecDepth 1000000 in
theorem law_make (N b0 b1 b2 k m : Nat) (e : Int) (bs es : List Int) (vs : List Value) (LL : List (List Int)) (W0 w : World) (hk : k < m) (hm : m ≤ 65536) (hP : Pre w w.heap.size b0 b1 b2 m bs es vs LL) (hbel : Below N W0 w) (hN : N ≤ w.heap.size) (K : Act → World → Prop) (hK : ∀ (a : Act) (w : World), Code.wp Try.prog (tailN 10 (Try.f8.body.getD .skip)) (bodyPost Try.prog Try.f8 fun r w' => r = .returned (.bool true) ∧ Below N W0 w') a w → K a w) (u5 u6 u7 u8 u9 u10 u12 u13 u14 u15 u16 u17 u18 u19 u20 u21 u22 u23 u24 u25 u26 u27 u28 u29 u30 u31 u32 u33 u34 u35 u36 u37 u38 u39 u40 u41 u42 u43 u44 u45 u46 u47 u48 u49 u50 u51 u52 u53 u54 u55 u56 u57 u58 u59 u60 u61 u62 u63 u64 u65 u66 u67 u68 u69 u70 u71 u72 u73 u74 u75 u76 u77 u78 u79 u80 u81 u82 u83 u84 u85 u86 u87 u88 u89 u90 u91 u92 u93 u94 u95 u96 u97 u98 u99 u100 u101 u102 u103 u104 u105 u106 u107 u108 u109 u110 u111 u112 u113 u114 u115 u116 u117 u118 u119 u120 u121 u122 u123 u124 u125 u126 u127 u128 u129 u130 u131 u132 u133 u134 u135 u136 u137 u138 u139 u140 u141 u142 u143 u144 u145 u146 u147 u148 u149 u150 u151 u152 u153 u154 u155 u156 u157 u158 u159 u160 u161 u162 u163 u164 u165 u166 u167 u168 u169 u170 u171 u172 u173 u174 u175 u176 u177 u178 u179 u180 u181 u182 u183 u184 u185 u186 u187 u188 u189 u190 u191 u192 u193 u194 u195 u196 u197 u198 u199 u200 u201 u202 u203 u204 u205 u206 u207 u208 u209 u210 u211 u212 u213 u214 u215 u216 u217 u218 u219 u220 u221 u222 u223 u224 u225 u226 u227 u228 u229 u230 u231 u232 u233 u234 u235 u236 u237 u238 u239 u240 u241 u242 u243 u244 u245 u246 u247 u248 u249 u250 u251 u252 u253 u254 u255 u256 u257 u258 u259 u260 u261 u262 u263 u264 u265 u266 u267 u268 u269 u270 u271 u272 u273 u274 u275 u276 u277 u278 u279 u280 u281 u282 u283 u284 u285 u286 u287 u288 u289 u290 u291 u292 u293 u294 u295 u296 u297 u298 u299 u300 u301 u302 u303 u304 u305 u306 u307 u308 u309 u310 u311 u312 u313 u314 u315 u316 u317 u318 u319 u320 u321 u322 u323 u324 u325 u326 u327 u328 u329 u330 u331 u332 u333 u334 u335 u336 u337 u338 u339 u340 u341 u342 u343 u344 u345 u346 u347 u348 u349 u350 u351 u352 u353 u354 u355 u356 u357 u358 u359 u360 u361 u362 u363 u364 u365 u366 u367 u368 u369 u370 u371 u372 u373 u374 u375 u376 u377 u378 u379 : Value) :
    Code.wp Try.prog (headN 9 (Try.f8.body.getD .skip)) (Exit.then K (bodyPost Try.prog Try.f8 fun r w' => r = .returned (.bool true) ∧ Below N W0 w')) ⟨#[.slice (some ⟨b0, 0, none⟩) m m, .slice (some ⟨b1, 0, none⟩) m m, .slice (some ⟨b2, 0, none⟩) m m, .int .u64 e, .int .i64 (k : Int), u5, u6, u7, u8, u9, u10, .int .i64 (m : Int), u12, u13, u14, u15, u16, u17, u18, u19, u20, u21, u22, u23, u24, u25, u26, u27, u28, u29, u30, u31, u32, u33, u34, u35, u36, u37, u38, u39, u40, u41, u42, u43, u44, u45, u46, u47, u48, u49, u50, u51, u52, u53, u54, u55, u56, u57, u58, u59, u60, u61, u62, u63, u64, u65, u66, u67, u68, u69, u70, u71, u72, u73, u74, u75, u76, u77, u78, u79, u80, u81, u82, u83, u84, u85, u86, u87, u88, u89, u90, u91, u92, u93, u94, u95, u96, u97, u98, u99, u100, u101, u102, u103, u104, u105, u106, u107, u108, u109, u110, u111, u112, u113, u114, u115, u116, u117, u118, u119, u120, u121, u122, u123, u124, u125, u126, u127, u128, u129, u130, u131, u132, u133, u134, u135, u136, u137, u138, u139, u140, u141, u142, u143, u144, u145, u146, u147, u148, u149, u150, u151, u152, u153, u154, u155, u156, u157, u158, u159, u160, u161, u162, u163, u164, u165, u166, u167, u168, u169, u170, u171, u172, u173, u174, u175, u176, u177, u178, u179, u180, u181, u182, u183, u184, u185, u186, u187, u188, u189, u190, u191, u192, u193, u194, u195, u196, u197, u198, u199, u200, u201, u202, u203, u204, u205, u206, u207, u208, u209, u210, u211, u212, u213, u214, u215, u216, u217, u218, u219, u220, u221, u222, u223, u224, u225, u226, u227, u228, u229, u230, u231, u232, u233, u234, u235, u236, u237, u238, u239, u240, u241, u242, u243, u244, u245, u246, u247, u248, u249, u250, u251, u252, u253, u254, u255, u256, u257, u258, u259, u260, u261, u262, u263, u264, u265, u266, u267, u268, u269, u270, u271, u272, u273, u274, u275, u276, u277, u278, u279, u280, u281, u282, u283, u284, u285, u286, u287, u288, u289, u290, u291, u292, u293, u294, u295, u296, u297, u298, u299, u300, u301, u302, u303, u304, u305, u306, u307, u308, u309, u310, u311, u312, u313, u314, u315, u316, u317, u318, u319, u320, u321, u322, u323, u324, u325, u326, u327, u328, u329, u330, u331, u332, u333, u334, u335, u336, u337, u338, u339, u340, u341, u342, u343, u344, u345, u346, u347, u348, u349, u350, u351, u352, u353, u354, u355, u356, u357, u358, u359, u360, u361, u362, u363, u364, u365, u366, u367, u368, u369, u370, u371, u372, u373, u374, u375, u376, u377, u378, u379], []⟩ w := by
  conv => arg 2; whnf
  have HKK := hide hK
  clear hK
  have hmk := fun w => run_make_row' (P := Try.prog) 39 40 (.pointer none) 8 Try.underlying39 info40 rfl .i64 .i64 m (by omega) (by omega) w
  have KT : Hid (KidsTo N W0 (w.alloc (.cells (madeCells #[.pointer none] m) 40)) w.heap.size b0 b1 b2 m bs es vs LL 0 []) := by
    have hg := Blk.new w (madeCells #[.pointer none] m) 40
    rw [made_vals] at hg
    exact ⟨hP.keep (Keep.below ((Below.refl _ _).alloc (Nat.le_refl _) _)), rfl, hg, fun i hi => by omega, hbel.alloc hN _⟩
  clear hP hbel
  go_wp2
  refine HKK.out _ _ ?_
  exact law_kids N b0 b1 b2 w.heap.size k m e bs es vs LL W0 _ hk hm KT.out hN _ _ _ _ _ _ _ _ _ _ _ _ _ _ _ _ _ _ _ _ _ _ _ _ _ _ _ _ _ _ _ _ _ _ _ _ _ _ _ _ _ _ _ _ _ _ _ _ _ _ _ _ _ _ _ _ _ _ _ _ _ _ _ _ _ _ _ _ _ _ _ _ _ _ _ _ _ _ _ _ _ _ _ _ _ _ _ _ _ _ _ _ _ _ _ _ _ _ _ _ _ _ _ _ _ _ _ _ _ _ _ _ _ _ _ _ _ _ _ _ _ _ _ _ _ _ _ _ _ _ _ _ _ _ _ _ _ _ _ _ _ _ _ _ _ _ _ _ _ _ _ _ _ _ _ _ _ _ _ _ _ _ _ _ _ _ _ _ _ _ _ _ _ _ _ _ _ _ _ _ _ _ _ _ _ _ _ _ _ _ _ _ _ _ _ _ _ _ _ _ _ _ _ _ _ _ _ _ _ _ _ _ _ _ _ _ _ _ _ _ _ _ _ _ _ _ _ _ _ _ _ _ _ _ _ _ _ _ _ _ _ _ _ _ _ _ _ _ _ _ _ _ _ _ _ _ _ _ _ _ _ _ _ _ _ _ _ _ _ _ _ _ _ _ _ _ _ _ _ _ _ _ _ _ _ _ _ _ _ _ _ _ _ _ _ _ _ _ _ _ _ _ _ _ _ _ _ _ _ _ _ _ _ _ _ _ _ _ _ _ _ _ _ _ _ _ _ _ _ _ _ _ _ _ _ _ _ _ _ _ _ _ _ _ _ _ _ _ _ _ _ _ _ _ _ _ _ _ _ _ _ _ _ _ _ _ _ _ _ _ _ _ _


theorem LCells.below {w w' : World} {b off n : Nat} {vs : List Value} {LL : List (List Int)} (h : LCells w b off n vs LL) (hb : Below w.heap.size w w') : LCells w' b off n vs LL :=
  ⟨Nat.lt_of_lt_of_le h.lt hb.size, fun i hi => by rw [hb.cell h.lt, h.cell i hi], fun i hi => (h.row i hi).below hb⟩

set_option maxHeartbeats 4000000 in
set_option maxRecDepth 1000000 in
theorem law8_zero (a0 a1 a2 : Option Addr) (n0 c0 c1 n2 c2 : Nat) (e k : Int) (hn0 : n0 ≤ 9223372036854775807) (hn2 : n2 ≤ 9223372036854775807) (W : World) :
    Calls Try.prog 8 #[.slice a0 n0 c0, .slice a1 0 c1, .slice a2 n2 c2, .int .u64 e, .int .i64 k] W fun r w' => r = .returned (.bool true) ∧ Below W.heap.size W w' := by
  go_enter Try.func8, Try.ntmps8
  go_wp2_with fail
  refine (zz22_zero a0 a2 a1 n0 c0 c1 n2 c2 e k hn0 hn2 W).mono ?_
  rintro r w' ⟨⟨b, rfl⟩, rfl⟩
  dsimp only
  cases b with
  | false =>
    go_wp2
    go_ret
    exact ⟨rfl, Below.refl _ _⟩
  | true =>
    by_cases g1 : 65536 < n0
    · have g1' : (65536 : Int) < (n0 : Int) := by omega
      go_wp2
      go_ret
      exact ⟨rfl, Below.refl _ _⟩
    have g1' : ¬ (65536 : Int) < (n0 : Int) := by omega
    by_cases g3 : 65536 < n2
    · have g3' : (65536 : Int) < (n2 : Int) := by omega
      go_wp2
      go_ret
      exact ⟨rfl, Below.refl _ _⟩
    have g3' : ¬ (65536 : Int) < (n2 : Int) := by omega
    go_wp2_with fail
    refine (lists_zero a1 c1 [] W).mono ?_
    rintro r w' ⟨⟨rr, rfl, hr, _⟩, rfl⟩
    dsimp only
    by_cases g4 : 1048576 < 8 * n0 + 8 * n2 + rr
    · have g4' : (1048576 : Int) < 8 * (n0 : Int) + 8 * (n2 : Int) + (rr : Int) := by omega
      go_wp2
      go_ret
      exact ⟨rfl, Below.refl _ _⟩
    have g4' : ¬ (1048576 : Int) < 8 * (n0 : Int) + 8 * (n2 : Int) + (rr : Int) := by omega
    go_wp2
    go_ret
    exact ⟨rfl, Below.refl _ _⟩
end Go.Proofs.Qxb6602784a.grf
