import Derived.Test.Qxb6602784aRebP
namespace Go.Proofs.Qxb6602784a.grf
open Go.ChangeShapes Go.WideShapes Go.ChangeAt Go.RowKit Go.Maps
set_option linter.unusedSimpArgs false
set_option linter.unusedVariables false

/-- The kids that are made so far. -/
structure KidsTo (N : Nat) (W0 w : World) (bK b0 b1 b2 m : Nat) (bs es : List Int) (vs : List Value) (LL : List (List Int)) (k : Nat) (xl : List Nat) : Prop where
  pre : Pre w bK b0 b1 b2 m bs es vs LL
  lx : xl.length = k
  kids : Blk w bK 40 (ptrs xl ++ List.replicate (m - k) (.pointer none))
  leaf : ∀ i, i < k → LeafOff w bK (xl.getD i 0) (es.getD i 0) (LL.getD i [])
  bel : Below N W0 w

theorem kids_step {N : Nat} {W0 w w1 : World} {bK b0 b1 b2 m : Nat} {bs es : List Int} {vs : List Value} {LL : List (List Int)} {k : Nat} {xl : List Nat} {a : Option Addr} {n c : Nat} {s : Int} (hN : N ≤ bK) (hk : k < m) (h : KidsTo N W0 w bK b0 b1 b2 m bs es vs LL k xl)
    (hs : s = es.getD k 0) (hown : Own w1 w.heap.size 2 (.slice a n c) (ints .i64 (LL.getD k []))) (hb : Below w.heap.size w w1) :
    KidsTo N W0 ((w1.alloc (.cells #[.int .u64 s, .slice a n c, .slice none 0 0] 61)).setCell ⟨bK, k, none⟩ (.pointer (some ⟨w1.heap.size, 0, none⟩))) bK b0 b1 b2 m bs es vs LL (k + 1) (xl ++ [w1.heap.size]) := by
  have hKl := h.kids.lt
  have hz := hb.size
  have hlx := h.lx
  have hb2 : Below w.heap.size w (w1.alloc (.cells #[.int .u64 s, .slice a n c, .slice none 0 0] 61)) := hb.alloc hz _
  have KW : Keep bK w ((w1.alloc (.cells #[.int .u64 s, .slice a n c, .slice none 0 0] 61)).setCell ⟨bK, k, none⟩ (.pointer (some ⟨w1.heap.size, 0, none⟩))) := fun z hz hne => by
    rw [Below.heap_setCell _ _ _ _ hne]
    exact hb2.block z hz
  have hnode : Node ((w1.alloc (.cells #[.int .u64 s, .slice a n c, .slice none 0 0] 61)).setCell ⟨bK, k, none⟩ (.pointer (some ⟨w1.heap.size, 0, none⟩))) w1.heap.size s (.slice a n c) (.slice none 0 0) :=
    Blk.set_ne (Blk.new w1 _ 61) _ (by simp; omega) _
  have hoff : OwnOff ((w1.alloc (.cells #[.int .u64 s, .slice a n c, .slice none 0 0] 61)).setCell ⟨bK, k, none⟩ (.pointer (some ⟨w1.heap.size, 0, none⟩))) bK (.slice a n c) (ints .i64 (LL.getD k [])) := by
    rcases hown with ho | ⟨b, h1, h2, h3⟩
    · exact .inl ho
    · exact .inr ⟨b, by omega, h2, Blk.set_ne (h3.alloc _) _ (by simp; omega) _⟩
  refine ⟨h.pre.keep KW, by simp [hlx], ?_, fun i hi => ?_, (h.bel.trans (hb2.mono (by omega))).setCell hN _⟩
  · have := (h.kids.below hb2 hKl).set k (.pointer (some ⟨w1.heap.size, 0, none⟩))
    rw [List.set_append_right _ _ (by rw [ptrs_len]; omega), ptrs_len, hlx, Nat.sub_self, show m - k = (m - (k + 1)) + 1 by omega, List.replicate_succ, List.set_cons_zero] at this
    rw [show ptrs (xl ++ [w1.heap.size]) = ptrs xl ++ [.pointer (some ⟨w1.heap.size, 0, none⟩)] by simp [ptrs], List.append_assoc]
    exact this
  · by_cases e : i = k
    · subst e
      rw [List.getD_eq_getElem?_getD, List.getElem?_append_right (by omega), hlx, Nat.sub_self]
      refine ⟨by simp; omega, _, ?_, hoff⟩
      rw [← hs]
      exact hnode
    · rw [List.getD_eq_getElem?_getD, List.getElem?_append_left (by omega), ← List.getD_eq_getElem?_getD]
      exact KW.leaf (h.leaf i (by omega))

set_option maxHeartbeats 4000000 in
set_option maxRecDepth 1000000 in
theorem law_kids (N b0 b1 b2 bK k m : Nat) (e : Int) (bs es : List Int) (vs : List Value) (LL : List (List Int)) (W0 w : World) (hk : k < m) (hm : m ≤ 65536) (hP : KidsTo N W0 w bK b0 b1 b2 m bs es vs LL 0 []) (hN : N ≤ bK) (u5 u6 u7 u8 u9 u10 u13 u14 u15 u16 u17 u18 u19 u20 u21 u22 u23 u24 u25 u26 u27 u28 u29 u30 u31 u32 u33 u34 u35 u36 u37 u38 u39 u40 u41 u42 u43 u44 u45 u46 u47 u48 u49 u50 u51 u52 u53 u54 u55 u56 u57 u58 u59 u60 u61 u62 u63 u64 u65 u66 u67 u68 u69 u70 u71 u72 u73 u74 u75 u76 u77 u78 u79 u80 u81 u82 u83 u84 u85 u86 u87 u88 u89 u90 u91 u92 u93 u94 u95 u96 u97 u98 u99 u100 u101 u102 u103 u104 u105 u106 u107 u108 u109 u110 u111 u112 u113 u114 u115 u116 u117 u118 u119 u120 u121 u122 u123 u124 u125 u126 u127 u128 u129 u130 u131 u132 u133 u134 u135 u136 u137 u138 u139 u140 u141 u142 u143 u144 u145 u146 u147 u148 u149 u150 u151 u152 u153 u154 u155 u156 u157 u158 u159 u160 u161 u162 u163 u164 u165 u166 u167 u168 u169 u170 u171 u172 u173 u174 u175 u176 u177 u178 u179 u180 u181 u182 u183 u184 u185 u186 u187 u188 u189 u190 u191 u192 u193 u194 u195 u196 u197 u198 u199 u200 u201 u202 u203 u204 u205 u206 u207 u208 u209 u210 u211 u212 u213 u214 u215 u216 u217 u218 u219 u220 u221 u222 u223 u224 u225 u226 u227 u228 u229 u230 u231 u232 u233 u234 u235 u236 u237 u238 u239 u240 u241 u242 u243 u244 u245 u246 u247 u248 u249 u250 u251 u252 u253 u254 u255 u256 u257 u258 u259 u260 u261 u262 u263 u264 u265 u266 u267 u268 u269 u270 u271 u272 u273 u274 u275 u276 u277 u278 u279 u280 u281 u282 u283 u284 u285 u286 u287 u288 u289 u290 u291 u292 u293 u294 u295 u296 u297 u298 u299 u300 u301 u302 u303 u304 u305 u306 u307 u308 u309 u310 u311 u312 u313 u314 u315 u316 u317 u318 u319 u320 u321 u322 u323 u324 u325 u326 u327 u328 u329 u330 u331 u332 u333 u334 u335 u336 u337 u338 u339 u340 u341 u342 u343 u344 u345 u346 u347 u348 u349 u350 u351 u352 u353 u354 u355 u356 u357 u358 u359 u360 u361 u362 u363 u364 u365 u366 u367 u368 u369 u370 u371 u372 u373 u374 u375 u376 u377 u378 u379 : Value) :
    Code.wp Try.prog (tailN 10 (Try.f8.body.getD .skip)) (bodyPost Try.prog Try.f8 fun r w' => r = .returned (.bool true) ∧ Below N W0 w') ⟨#[.slice (some ⟨b0, 0, none⟩) m m, .slice (some ⟨b1, 0, none⟩) m m, .slice (some ⟨b2, 0, none⟩) m m, .int .u64 e, .int .i64 (k : Int), u5, u6, u7, u8, u9, u10, .int .i64 (m : Int), .slice (some ⟨bK, 0, none⟩) m m, u13, u14, u15, u16, u17, u18, u19, u20, u21, u22, u23, u24, u25, u26, u27, u28, u29, u30, u31, u32, u33, u34, u35, u36, u37, u38, u39, u40, u41, u42, u43, u44, u45, u46, u47, u48, u49, u50, u51, u52, u53, u54, u55, u56, u57, u58, u59, u60, u61, u62, u63, u64, u65, u66, u67, u68, u69, u70, u71, u72, u73, u74, u75, u76, u77, u78, u79, u80, u81, u82, u83, u84, u85, u86, u87, u88, u89, u90, u91, u92, u93, u94, u95, u96, u97, u98, u99, u100, u101, u102, u103, u104, u105, u106, u107, u108, u109, u110, u111, u112, u113, u114, u115, u116, u117, u118, u119, u120, u121, u122, u123, u124, u125, u126, u127, u128, u129, u130, u131, u132, u133, u134, u135, u136, u137, u138, u139, u140, u141, u142, u143, u144, u145, u146, u147, u148, u149, u150, u151, u152, u153, u154, u155, u156, u157, u158, u159, u160, u161, u162, u163, u164, u165, u166, u167, u168, u169, u170, u171, u172, u173, u174, u175, u176, u177, u178, u179, u180, u181, u182, u183, u184, u185, u186, u187, u188, u189, u190, u191, u192, u193, u194, u195, u196, u197, u198, u199, u200, u201, u202, u203, u204, u205, u206, u207, u208, u209, u210, u211, u212, u213, u214, u215, u216, u217, u218, u219, u220, u221, u222, u223, u224, u225, u226, u227, u228, u229, u230, u231, u232, u233, u234, u235, u236, u237, u238, u239, u240, u241, u242, u243, u244, u245, u246, u247, u248, u249, u250, u251, u252, u253, u254, u255, u256, u257, u258, u259, u260, u261, u262, u263, u264, u265, u266, u267, u268, u269, u270, u271, u272, u273, u274, u275, u276, u277, u278, u279, u280, u281, u282, u283, u284, u285, u286, u287, u288, u289, u290, u291, u292, u293, u294, u295, u296, u297, u298, u299, u300, u301, u302, u303, u304, u305, u306, u307, u308, u309, u310, u311, u312, u313, u314, u315, u316, u317, u318, u319, u320, u321, u322, u323, u324, u325, u326, u327, u328, u329, u330, u331, u332, u333, u334, u335, u336, u337, u338, u339, u340, u341, u342, u343, u344, u345, u346, u347, u348, u349, u350, u351, u352, u353, u354, u355, u356, u357, u358, u359, u360, u361, u362, u363, u364, u365, u366, u367, u368, u369, u370, u371, u372, u373, u374, u375, u376, u377, u378, u379], []⟩ w := by
  conv => arg 2; whnf
  have H := hide hP
  clear hP
  go_wp2
  go_loopw [13] (fun i wr => ∃ (k' : Nat) (xl : List Nat), k' ≤ m ∧ i = .int .i64 k' ∧ KidsTo N W0 wr bK b0 b1 b2 m bs es vs LL k' xl) (fun i _ => m - (intOf i).toNat)
  case atStart => exact ⟨0, [], Nat.zero_le _, rfl, H.out⟩
  case round =>
    obtain ⟨k', xl, hk', rfl, hJ⟩ := hrel
    have J := hide hJ
    clear hJ H
    by_cases hlt : k' < m
    · have i3 : (k' : Int) < (m : Int) := by omega
      obtain ⟨s, hs⟩ : ∃ s, s = es.getD k' 0 := ⟨_, rfl⟩
      obtain ⟨v, hv⟩ : ∃ v, v = vs.getD k' (.slice none 0 0) := ⟨_, rfl⟩
      have rv := J.out.pre.rows k' hlt
      have q2 : wr.cell? ⟨b2, k', none⟩ = some (.int .u64 s) := by rw [J.out.pre.b2.int k' (by have := J.out.pre.le; omega), hs]
      have q3 : wr.cell? ⟨b1, k', none⟩ = some v := by
        rw [J.out.pre.b1.cell, hv, List.getElem?_eq_getElem (by have := J.out.pre.lv; omega)]
        simp [List.getD_eq_getElem?_getD, List.getElem?_eq_getElem (show k' < vs.length by have := J.out.pre.lv; omega)]
      rw [← hv] at rv
      have hrow := rv.row (by rw [ints_len]; exact J.out.pre.ll k' hlt)
      have hcc := clone_ints v (ints .i64 (LL.getD k' [])) (by rw [ints_len]; exact J.out.pre.ll k' hlt) (ints_one _ _) wr.drew hrow
      obtain ⟨a, c, rfl, _⟩ := hrow.slice
      obtain ⟨n, hn⟩ : ∃ n, n = (ints .i64 (LL.getD k' [])).length := ⟨_, rfl⟩
      rw [← hn] at hcc q3
      have HC := hide hcc
      have hb2l := J.out.pre.b2.lt
      have hKl := J.out.kids.lt
      have HS := hide hs
      have hcell : ∃ cv, wr.cell? ⟨bK, k', none⟩ = some cv := ⟨_, by rw [J.out.kids.cell]; exact List.getElem?_eq_getElem (by simp [ptrs_len, J.out.lx]; omega)⟩
      obtain ⟨cv, q4⟩ := hcell
      have f4 := J.out.kids.frozen k'
      have HF := hide (Blk.drew J.out.kids)
      have JD : KidsTo N W0 wr.drew bK b0 b1 b2 m bs es vs LL k' xl := ⟨J.out.pre.keep (fun z _ _ => rfl), J.out.lx, Blk.drew J.out.kids, fun i hi => Keep.leaf (fun z _ _ => rfl) (J.out.leaf i hi), J.out.bel.drew⟩
      have ST : Hid (∀ w1 a1 n1 c1, Own w1 wr.drew.heap.size 2 (.slice a1 n1 c1) (ints .i64 (LL.getD k' [])) → Below wr.drew.heap.size wr.drew w1 → KidsTo N W0 ((w1.alloc (.cells #[.int .u64 s, .slice a1 n1 c1, .slice none 0 0] 61)).setCell ⟨bK, k', none⟩ (.pointer (some ⟨w1.heap.size, 0, none⟩))) bK b0 b1 b2 m bs es vs LL (k' + 1) (xl ++ [w1.heap.size])) := fun w1 a1 n1 c1 h1 h2 => kids_step hN hlt JD HS.out h1 h2
      clear JD
      clear hs hv hcc rv hrow hn
      go_wp2_with fail
      go_region_with (first
        | (go_at_call 24; refine HC.out.mono ?_; rintro r w1 ⟨v1, rfl, hown, hb⟩; obtain ⟨a1, n1, c1, rfl⟩ := hown.slice; have e2 : w1.cell? ⟨b2, k', none⟩ = some (.int .u64 s) := (hb.cell (by exact hb2l)).trans q2; have HO := hide hown; have HBB := hide hb; clear hown hb)
        | (go_at_call 27; refine (new_leaf _ _ _ _ _).mono ?_; rintro r w2 ⟨rfl, hw2⟩; have k2 : w2.cell? ⟨bK, k', none⟩ = some cv := by { rw [hw2, World.cell?_alloc_lt _ _ _ (by have := HBB.out.size; exact Nat.lt_of_lt_of_le hKl this)]; exact (HBB.out.cell (by exact hKl)).trans q4 }; have k3 : w2.frozen? ⟨bK, k', none⟩ = false := by { rw [hw2]; exact ((HF.out.below HBB.out hKl).alloc _).frozen k' }; have HW2 := hide hw2; clear hw2))
      all_goals
        have ST2 := ST.out _ _ _ _ HO.out HBB.out
        rw [← HW2.out] at ST2
        have ST3 := hide ST2
        clear ST2
        go_wp2
        go_roundw
        case rel => exact ⟨k' + 1, _, by omega, by go_num, ST3.out⟩
        case measure => simp [intOf]; omega
    · have i3 : ¬ (k' : Int) < (m : Int) := by omega
      have e4 : k' = m := by omega
      have hJ := J.out
      rw [e4] at hJ
      have hkids := hJ.kids
      rw [Nat.sub_self, List.replicate_zero, List.append_nil] at hkids
      have HR := hide (law_reb N b0 b1 b2 bK k m e bs es vs xl LL W0 wr hk hm hJ.pre hkids hJ.lx hJ.leaf hJ.bel hN)
      clear hJ hkids e4 J
      go_upto_region 18 with fail
      exact HR.out _ ‹∀ (a : Act) (w : World), Code.wp Try.prog _ _ a w → _› _ _ _ _ _ _ _ _ _ _ _ _ _ _ _ _ _ _ _ _ _ _ _ _ _ _ _ _ _ _ _ _ _ _ _ _ _ _ _ _ _ _ _ _ _ _ _ _ _ _ _ _ _ _ _ _ _ _ _ _ _ _ _ _ _ _ _ _ _ _ _ _ _ _ _ _ _ _ _ _ _ _ _ _ _ _ _ _ _ _ _ _ _ _ _ _ _ _ _ _ _ _ _ _ _ _ _ _ _ _ _ _ _ _ _ _ _ _ _ _ _ _ _ _ _ _ _ _ _ _ _ _ _ _ _ _ _ _ _ _ _ _ _ _ _ _ _ _ _ _ _ _ _ _ _ _ _ _ _ _ _ _ _ _ _ _ _ _ _ _ _ _ _ _ _ _ _ _ _ _ _ _ _ _ _ _ _ _ _ _ _ _ _ _ _ _ _ _ _ _ _ _ _ _ _ _ _ _ _ _ _ _ _ _ _ _ _ _ _ _ _ _ _ _ _ _ _ _ _ _ _ _ _ _ _ _ _ _ _ _ _ _ _ _ _ _ _ _ _ _ _ _ _ _ _ _ _ _ _ _ _ _ _ _ _ _ _ _ _ _ _ _ _ _ _ _ _ _ _ _ _ _ _ _ _ _ _ _ _ _ _ _ _ _ _ _ _ _ _ _ _ _ _ _ _ _ _ _ _ _ _ _ _ _ _ _ _ _ _ _ _ _ _ _ _ _ _ _ _ _ _ _ _ _ _ _ _ _ _ _ _ _ _ _ _ _ _ _ _ _ _ _ _ _ _ _ _ _ _ _ _ _ _ _ _ _ _ _ _ _ _ _ _

end Go.Proofs.Qxb6602784a.grf
