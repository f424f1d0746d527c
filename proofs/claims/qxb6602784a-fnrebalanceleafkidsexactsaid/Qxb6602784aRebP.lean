import Derived.Test.Qxb6602784aRebO
import Derived.Test.Qxb6602784aRebJ
namespace Go.Proofs.Qxb6602784a.grf
open Go.ChangeShapes Go.WideShapes Go.ChangeAt Go.RowKit Go.Maps
set_option linter.unusedSimpArgs false
set_option linter.unusedVariables false

/-- As 'Own', off the row of the kids. -/
def OwnOff (w : World) (bK : Nat) (v : Value) (xs : List Value) : Prop :=
  (v = .slice none 0 0 ∧ xs = []) ∨ ∃ b, b ≠ bK ∧ v = .slice (some ⟨b, 0, none⟩) xs.length xs.length ∧ Blk w b 2 xs
def LeafOff (w : World) (bK d : Nat) (ep : Int) (xs : List Int) : Prop := d ≠ bK ∧ ∃ v, Node w d ep v (.slice none 0 0) ∧ OwnOff w bK v (ints .i64 xs)

/-- All blocks of w other than bK are as they were. -/
def Keep (bK : Nat) (w w' : World) : Prop := ∀ z, z < w.heap.size → z ≠ bK → w'.heap[z]? = w.heap[z]?

theorem Keep.blk {bK : Nat} {w w' : World} (h : Keep bK w w') {b : Nat} {t : TypeId} {xs : List Value} (hb : Blk w b t xs) (hne : b ≠ bK) : Blk w' b t xs := by
  have hl := hb.lt
  unfold Blk at *
  rw [h b hl hne]
  exact hb
theorem Keep.own {bK : Nat} {w w' : World} (h : Keep bK w w') {v : Value} {xs : List Value} (ho : OwnOff w bK v xs) : OwnOff w' bK v xs := by
  rcases ho with ho | ⟨b, h1, h2, h3⟩
  · exact .inl ho
  · exact .inr ⟨b, h1, h2, h.blk h3 h1⟩
theorem Keep.leaf {bK : Nat} {w w' : World} (h : Keep bK w w') {d : Nat} {ep : Int} {xs : List Int} (ho : LeafOff w bK d ep xs) : LeafOff w' bK d ep xs := by
  obtain ⟨h1, v, h2, h3⟩ := ho
  exact ⟨h1, v, h.blk h2 h1, h.own h3⟩
theorem OwnOff.row {bK : Nat} {w : World} {v : Value} {xs : List Value} (h : OwnOff w bK v xs) (hl : xs.length ≤ 1048576) : Row w v xs := by
  rcases h with h | ⟨b, h1, h2, h3⟩
  · exact .inl h
  · exact .inr ⟨⟨b, 0, none⟩, xs.length, h2, Nat.le_refl _, by unfold maxLen; omega, fun i y hi => by rw [add_plain, Nat.zero_add, h3.cell]; exact hi⟩
theorem LeafOff.leaf {bK : Nat} {w : World} {d : Nat} {ep : Int} {xs : List Int} (h : LeafOff w bK d ep xs) (hl : xs.length ≤ 1048576) : Leaf w d ep xs := by
  obtain ⟨_, v, h2, h3⟩ := h
  exact ⟨v, h2, h3.row (by rw [ints_len]; exact hl)⟩
theorem LeafOff.lt {bK : Nat} {w : World} {d : Nat} {ep : Int} {xs : List Int} (h : LeafOff w bK d ep xs) : d < w.heap.size := by
  obtain ⟨_, v, h2, _⟩ := h
  exact Blk.lt h2

/-- What stands ahead of the rebalancing. -/
structure Pre (w : World) (bK b0 b1 b2 m : Nat) (bs es : List Int) (vs : List Value) (LL : List (List Int)) : Prop where
  n0 : b0 ≠ bK
  n1 : b1 ≠ bK
  n2 : b2 ≠ bK
  b0 : Blk w b0 2 (ints .i64 bs)
  b1 : Blk w b1 30 vs
  b2 : Blk w b2 33 (ints .u64 es)
  lb : bs.length = m
  lv : vs.length = m
  le : es.length = m
  ll : ∀ i, i < m → (LL.getD i []).length ≤ 1048576
  rows : ∀ i, i < m → OwnOff w bK (vs.getD i (.slice none 0 0)) (ints .i64 (LL.getD i []))

theorem Pre.keep {w w' : World} {bK b0 b1 b2 m : Nat} {bs es : List Int} {vs : List Value} {LL : List (List Int)} (h : Pre w bK b0 b1 b2 m bs es vs LL) (hk : Keep bK w w') : Pre w' bK b0 b1 b2 m bs es vs LL :=
  ⟨h.n0, h.n1, h.n2, hk.blk h.b0 h.n0, hk.blk h.b1 h.n1, hk.blk h.b2 h.n2, h.lb, h.lv, h.le, h.ll, fun i hi => hk.own (h.rows i hi)⟩
theorem Pre.base {w : World} {bK b0 b1 b2 bO m : Nat} {bs es : List Int} {vs : List Value} {xl : List Nat} {LL : List (List Int)} (h : Pre w bK b0 b1 b2 m bs es vs LL) (lx : xl.length = m) (hl : ∀ i, i < m → LeafOff w bK (xl.getD i 0) (es.getD i 0) (LL.getD i [])) (hO : Blk w bO 40 (ptrs xl)) : Base w b0 b1 b2 bO m bs es vs xl LL :=
  ⟨h.b0, h.b1, h.b2, hO, h.lb, h.lv, h.le, lx, fun i hi => (h.rows i hi).row (by rw [ints_len]; exact h.ll i hi), fun i hi => (hl i hi).leaf (h.ll i hi)⟩

theorem Keep.below {bK : Nat} {w w' : World} (h : Below w.heap.size w w') : Keep bK w w' := fun z hz _ => h.block z hz
theorem Keep.trans {bK : Nat} {w w' w'' : World} (hs : w.heap.size ≤ w'.heap.size) (h : Keep bK w w') (h' : Keep bK w' w'') : Keep bK w w'' := fun z hz hn => by rw [h' z (by omega) hn, h z hz hn]

theorem endJ_of {w w3 w' : World} {d bI bK m j : Nat} {e : Int} {bs : List Int} {xl : List Nat} {L : List Int} (hz : w.heap.size ≤ w3.heap.size) (hx : ∀ i, i < m → xl.getD i 0 < w.heap.size) (h : JoinEnd w3 w' d bI bK m j e e bs (ptrs xl) L) :
    EndJ w' bI bK m j e bs xl L ∧ Node w' d e (.slice (some ⟨bI, 0, none⟩) (m - 1) m) (.slice (some ⟨bK, 0, none⟩) (m - 1) m) ∧ Stay [d, bI, bK] w3 w' ∧ ∀ B, B ≤ d → B ≤ bI → B ≤ bK → Below B w3 w' := by
  obtain ⟨p, ri, rk, h1, h2, h3⟩ := h
  exact ⟨⟨p, ri, rk, h2, fun i hi => by have := hx i hi; omega, h3.ids, h3.kids⟩, h3.node, h3.stay, h3.below⟩
theorem endS_of {w w3 w' : World} {d bI bK m j : Nat} {e : Int} {bs : List Int} {xl : List Nat} {L : List Int} (hz : w.heap.size ≤ w3.heap.size) (hx : ∀ i, i < m → xl.getD i 0 < w.heap.size) (h : SplitEnd w3 w' d bI bK m j e e bs (ptrs xl) L) :
    EndS w' bI bK m j e bs xl L ∧ Node w' d e (.slice (some ⟨bI, 0, none⟩) m m) (.slice (some ⟨bK, 0, none⟩) m m) ∧ Stay [d, bI, bK] w3 w' ∧ ∀ B, B ≤ d → B ≤ bI → B ≤ bK → Below B w3 w' := by
  obtain ⟨p, q, h1, h2, h3, h4, h5, h6⟩ := h
  exact ⟨⟨p, q, h3, fun i hi => by have := hx i hi; omega, fun i hi => by have := hx i hi; omega, h4, h5, h6.ids, h6.kids⟩, h6.node, h6.stay, h6.below⟩

set_option maxHeartbeats 4000000 in
set_option maxRecDepth 1000000 in
theorem law_reb (N b0 b1 b2 bK k m : Nat) (e : Int) (bs es : List Int) (vs : List Value) (xl : List Nat) (LL : List (List Int)) (W0 w : World) (hk : k < m) (hm : m ≤ 65536) (hP : Pre w bK b0 b1 b2 m bs es vs LL) (hKK : Blk w bK 40 (ptrs xl)) (lx : xl.length = m)
    (hl : ∀ i, i < m → LeafOff w bK (xl.getD i 0) (es.getD i 0) (LL.getD i [])) (hbel : Below N W0 w) (hN : N ≤ bK) (K : Act → World → Prop) (hK : ∀ (a : Act) (w : World), Code.wp Try.prog (tailN 12 (Try.f8.body.getD .skip)) (bodyPost Try.prog Try.f8 fun r w' => r = .returned (.bool true) ∧ Below N W0 w') a w → K a w) (u5 u6 u7 u8 u9 u10 u13 u14 u15 u16 u17 u18 u19 u20 u21 u22 u23 u24 u25 u26 u27 u28 u29 u30 u31 u32 u33 u34 u35 u36 u37 u38 u39 u40 u41 u42 u43 u44 u45 u46 u47 u48 u49 u50 u51 u52 u53 u54 u55 u56 u57 u58 u59 u60 u61 u62 u63 u64 u65 u66 u67 u68 u69 u70 u71 u72 u73 u74 u75 u76 u77 u78 u79 u80 u81 u82 u83 u84 u85 u86 u87 u88 u89 u90 u91 u92 u93 u94 u95 u96 u97 u98 u99 u100 u101 u102 u103 u104 u105 u106 u107 u108 u109 u110 u111 u112 u113 u114 u115 u116 u117 u118 u119 u120 u121 u122 u123 u124 u125 u126 u127 u128 u129 u130 u131 u132 u133 u134 u135 u136 u137 u138 u139 u140 u141 u142 u143 u144 u145 u146 u147 u148 u149 u150 u151 u152 u153 u154 u155 u156 u157 u158 u159 u160 u161 u162 u163 u164 u165 u166 u167 u168 u169 u170 u171 u172 u173 u174 u175 u176 u177 u178 u179 u180 u181 u182 u183 u184 u185 u186 u187 u188 u189 u190 u191 u192 u193 u194 u195 u196 u197 u198 u199 u200 u201 u202 u203 u204 u205 u206 u207 u208 u209 u210 u211 u212 u213 u214 u215 u216 u217 u218 u219 u220 u221 u222 u223 u224 u225 u226 u227 u228 u229 u230 u231 u232 u233 u234 u235 u236 u237 u238 u239 u240 u241 u242 u243 u244 u245 u246 u247 u248 u249 u250 u251 u252 u253 u254 u255 u256 u257 u258 u259 u260 u261 u262 u263 u264 u265 u266 u267 u268 u269 u270 u271 u272 u273 u274 u275 u276 u277 u278 u279 u280 u281 u282 u283 u284 u285 u286 u287 u288 u289 u290 u291 u292 u293 u294 u295 u296 u297 u298 u299 u300 u301 u302 u303 u304 u305 u306 u307 u308 u309 u310 u311 u312 u313 u314 u315 u316 u317 u318 u319 u320 u321 u322 u323 u324 u325 u326 u327 u328 u329 u330 u331 u332 u333 u334 u335 u336 u337 u338 u339 u340 u341 u342 u343 u344 u345 u346 u347 u348 u349 u350 u351 u352 u353 u354 u355 u356 u357 u358 u359 u360 u361 u362 u363 u364 u365 u366 u367 u368 u369 u370 u371 u372 u373 u374 u375 u376 u377 u378 u379 : Value) :
    Code.wp Try.prog (headN 11 (Try.f8.body.getD .skip)) (Exit.then K (bodyPost Try.prog Try.f8 fun r w' => r = .returned (.bool true) ∧ Below N W0 w')) ⟨#[.slice (some ⟨b0, 0, none⟩) m m, .slice (some ⟨b1, 0, none⟩) m m, .slice (some ⟨b2, 0, none⟩) m m, .int .u64 e, .int .i64 (k : Int), u5, u6, u7, u8, u9, u10, .int .i64 (m : Int), .slice (some ⟨bK, 0, none⟩) m m, u13, u14, u15, u16, u17, u18, u19, u20, u21, u22, u23, u24, u25, u26, u27, u28, u29, u30, u31, u32, u33, u34, u35, u36, u37, u38, u39, u40, u41, u42, u43, u44, u45, u46, u47, u48, u49, u50, u51, u52, u53, u54, u55, u56, u57, u58, u59, u60, u61, u62, u63, u64, u65, u66, u67, u68, u69, u70, u71, u72, u73, u74, u75, u76, u77, u78, u79, u80, u81, u82, u83, u84, u85, u86, u87, u88, u89, u90, u91, u92, u93, u94, u95, u96, u97, u98, u99, u100, u101, u102, u103, u104, u105, u106, u107, u108, u109, u110, u111, u112, u113, u114, u115, u116, u117, u118, u119, u120, u121, u122, u123, u124, u125, u126, u127, u128, u129, u130, u131, u132, u133, u134, u135, u136, u137, u138, u139, u140, u141, u142, u143, u144, u145, u146, u147, u148, u149, u150, u151, u152, u153, u154, u155, u156, u157, u158, u159, u160, u161, u162, u163, u164, u165, u166, u167, u168, u169, u170, u171, u172, u173, u174, u175, u176, u177, u178, u179, u180, u181, u182, u183, u184, u185, u186, u187, u188, u189, u190, u191, u192, u193, u194, u195, u196, u197, u198, u199, u200, u201, u202, u203, u204, u205, u206, u207, u208, u209, u210, u211, u212, u213, u214, u215, u216, u217, u218, u219, u220, u221, u222, u223, u224, u225, u226, u227, u228, u229, u230, u231, u232, u233, u234, u235, u236, u237, u238, u239, u240, u241, u242, u243, u244, u245, u246, u247, u248, u249, u250, u251, u252, u253, u254, u255, u256, u257, u258, u259, u260, u261, u262, u263, u264, u265, u266, u267, u268, u269, u270, u271, u272, u273, u274, u275, u276, u277, u278, u279, u280, u281, u282, u283, u284, u285, u286, u287, u288, u289, u290, u291, u292, u293, u294, u295, u296, u297, u298, u299, u300, u301, u302, u303, u304, u305, u306, u307, u308, u309, u310, u311, u312, u313, u314, u315, u316, u317, u318, u319, u320, u321, u322, u323, u324, u325, u326, u327, u328, u329, u330, u331, u332, u333, u334, u335, u336, u337, u338, u339, u340, u341, u342, u343, u344, u345, u346, u347, u348, u349, u350, u351, u352, u353, u354, u355, u356, u357, u358, u359, u360, u361, u362, u363, u364, u365, u366, u367, u368, u369, u370, u371, u372, u373, u374, u375, u376, u377, u378, u379], []⟩ w := by
  conv => arg 2; whnf
  conv at hK => enter [a, w, 1, 2]; whnf
  have HP := hide hP
  have HK := hide hKK
  have HLX := hide lx
  have HLF := hide hl
  have HBEL := hide hbel
  clear hP hKK lx hl hbel
  go_wp2_with fail
  refine (clone_ptrs bK m m (ptrs xl) (by rw [ptrs_len]; exact HLX.out) (by omega) (ptrs_one _) w HK.out).mono ?_
  rintro r w1 ⟨rfl, hO, hb1⟩
  have B1 := hide hb1
  have HO := hide hO
  clear hb1 hO
  go_wp2_with fail
  refine (clone_ints _ (ints .i64 bs) (by rw [ints_len, HP.out.lb]; omega) (ints_one _ _) w1 (by
    have := row_blk (HP.out.b0.belowS B1.out) (by rw [HP.out.lb]; omega)
    rw [HP.out.lb] at this
    exact this)).mono ?_
  rintro r w2 ⟨v, rfl, hown, hb2⟩
  obtain ⟨bI, hbI, rfl, hI⟩ : ∃ bI, w1.heap.size ≤ bI ∧ v = .slice (some ⟨bI, 0, none⟩) m m ∧ Blk w2 bI 2 (ints .i64 bs) := by
    rcases hown with ⟨_, h0⟩ | ⟨b, h1, h2, h3⟩
    · have : (ints .i64 bs).length = 0 := by rw [h0]; rfl
      rw [ints_len, HP.out.lb] at this
      omega
    · refine ⟨b, h1, ?_, h3⟩
      rw [h2, ints_len, HP.out.lb]
  have B2 := hide hb2
  have HI := hide hI
  clear hb2 hI hown
  go_wp2_with fail
  refine (new_inner e _ _ _ _ _ _ w2).mono ?_
  rintro r w3 ⟨rfl, hw3⟩
  obtain ⟨d, hd⟩ : ∃ d, d = w2.heap.size := ⟨_, rfl⟩
  rw [← hd]
  have ND : Hid (Node w3 d e (.slice (some ⟨bI, 0, none⟩) m m) (.slice (some ⟨bK, 0, none⟩) m m)) := by rw [hw3, hd]; exact Blk.new w2 _ 61
  have B3 : Hid (Below w2.heap.size w2 w3) := by rw [hw3]; exact (Below.refl _ _).alloc (Nat.le_refl _) _
  have HD := hide hd
  clear hw3 hd
  have z1 := B1.out.size
  have z2 := B2.out.size
  have zK := HK.out.lt
  have zO := HO.out.lt
  have zI := HI.out.lt
  have B13 : Hid (Below w.heap.size w w3) := (B1.out.trans (B2.out.mono z1)).trans (B3.out.mono (by omega))
  have K3 : Hid (Blk w3 bK 40 (ptrs xl)) := HK.out.belowS B13.out
  have O3 : Hid (Blk w3 w.heap.size 40 (ptrs xl)) := (HO.out.belowS B2.out).belowS B3.out
  have I3 : Hid (Blk w3 bI 2 (ints .i64 bs)) := HI.out.belowS B3.out
  have BN : Hid (Below N W0 w3) := HBEL.out.trans (B13.out.mono (by omega))
  have hN3 : N ≤ w3.heap.size := by have := B13.out.size; omega
  go_wp2_with fail
  have hdd := HD.out
  by_cases h1 : m = 1
  · have hz : Calls Try.prog 30 #[.pointer (some ⟨d, 0, none⟩), .int .u64 e, .int .i64 (k : Int)] w3 fun r w' => r = .returned (.tuple #[]) ∧ w' = w3 := by
      subst h1
      exact zz_one d e e k _ _ _ w3 ND.out
    refine hz.mono ?_
    rintro r w' ⟨rfl, rfl⟩
    dsimp only
    have hB := (HP.out.keep (Keep.below B13.out)).base HLX.out (fun i hi => (Keep.below B13.out).leaf (HLF.out i hi)) O3.out
    refine ‹∀ (a : Act) (w : World), wpList Try.prog _ _ [] a w → _› _ _ ?_
    (try simp only [wpList, Exit.then])
    refine ‹∀ (a : Act) (w : World), Code.wp Try.prog _ _ a w → _› _ _ ?_
    exact law_one N b0 b1 b2 w.heap.size bI bK d k m e bs es vs xl LL W0 _ h1 hB I3.out K3.out ND.out BN.out hN3 _ _ _ _ _ _ _ _ _ _ _ _ _ _ _ _ _ _ _ _ _ _ _ _ _ _ _ _ _ _ _ _ _ _ _ _ _ _ _ _ _ _ _ _ _ _ _ _ _ _ _ _ _ _ _ _ _ _ _ _ _ _ _ _ _ _ _ _ _ _ _ _ _ _ _ _ _ _ _ _ _ _ _ _ _ _ _ _ _ _ _ _ _ _ _ _ _ _ _ _ _ _ _ _ _ _ _ _ _ _ _ _ _ _ _ _ _ _ _ _ _ _ _ _ _ _ _ _ _ _ _ _ _ _ _ _ _ _ _ _ _ _ _ _ _ _ _ _ _ _ _ _ _ _ _ _ _ _ _ _ _ _ _ _ _ _ _ _ _ _ _ _ _ _ _ _ _ _ _ _ _ _ _ _ _ _ _ _ _ _ _ _ _ _ _ _ _ _ _ _ _ _ _ _ _ _ _ _ _ _ _ _ _ _ _ _ _ _ _ _ _ _ _ _ _ _ _ _ _ _ _ _ _ _ _ _ _ _ _ _ _ _ _ _ _ _ _ _ _ _ _ _ _ _ _ _ _ _ _ _ _ _ _ _ _ _ _ _ _ _ _ _ _ _ _ _ _ _ _ _ _ _ _ _ _ _ _ _ _ _ _ _ _ _ _ _ _ _ _ _ _ _ _ _ _ _ _ _ _ _ _ _ _ _ _ _ _ _ _ _ _ _ _ _ _ _ _ _ _ _ _ _ _ _ _ _ _ _ _ _ _ _ _ _ _ _ _ _ _ _ _ _ _ _ _ _ _ _ _ _ _ _ _ _ _ _ _ _ _ _ _ _
  · obtain ⟨j, hj⟩ : ∃ j, j = if k = m - 1 then m - 2 else k := ⟨_, rfl⟩
    have hj2 : j + 1 < m := by split at hj <;> omega
    have lf : ∀ i, i < m → LeafOff w3 bK (xl.getD i 0) (es.getD i 0) (LL.getD i []) := fun i hi => (Keep.below B13.out).leaf (HLF.out i hi)
    refine (zz_two d bI bK m k j (xl.getD j 0) (xl.getD (j + 1) 0) e e (es.getD j 0) (es.getD (j + 1) 0) bs (LL.getD j []) (LL.getD (j + 1) []) (ptrs xl) HP.out.lb (by rw [ptrs_len]; exact HLX.out) hk hj (by omega) hm (ptrs_one _) (ptrs_at _ _ (by have := HLX.out; omega)) (ptrs_at _ _ (by have := HLX.out; omega))
      (HP.out.ll j (by omega)) (HP.out.ll (j + 1) hj2) w3 ND.out I3.out K3.out (by omega) (by omega) (by omega) ((lf j (by omega)).leaf (HP.out.ll j (by omega))) ((lf (j + 1) hj2).leaf (HP.out.ll (j + 1) hj2))).mono ?_
    rintro r w' ⟨rfl, hE⟩
    dsimp only
    refine ‹∀ (a : Act) (w : World), wpList Try.prog _ _ [] a w → _› _ _ ?_
    (try simp only [wpList, Exit.then])
    refine ‹∀ (a : Act) (w : World), Code.wp Try.prog _ _ a w → _› _ _ ?_
    have fin : Stay [d, bI, bK] w3 w' → (∀ B, B ≤ d → B ≤ bI → B ≤ bK → Below B w3 w') → Base w' b0 b1 b2 w.heap.size m bs es vs xl LL ∧ Below N W0 w' ∧ N ≤ w'.heap.size := by
      intro hst hbel
      have KW : Keep bK w w' := fun z hz hne => by
        rw [hst.2 z (by have := B13.out.size; omega) (by simp; omega)]
        exact B13.out.block z hz
      exact ⟨(HP.out.keep KW).base HLX.out (fun i hi => KW.leaf (HLF.out i hi)) (O3.out.stay hst (by simp; omega)), BN.out.trans (hbel N (by omega) (by omega) hN), by have := hst.1; omega⟩
    by_cases hL : (LL.getD j [] ++ LL.getD (j + 1) []).length ≤ 64
    · unfold RebEnd at hE
      rw [if_pos hL] at hE
      obtain ⟨h2, h3, h4, h5⟩ := endJ_of (w := w) (by have := B13.out.size; omega) (fun i hi => (HLF.out i hi).lt) hE
      obtain ⟨f1, f2, f3⟩ := fin h4 h5
      exact law_twoJ N b0 b1 b2 w.heap.size bI bK d j k m e bs es vs xl LL W0 w' hk (by omega) hm hj (HP.out.ll j (by omega)) (HP.out.ll (j + 1) hj2) hL f1 h2 h3 f2 f3 _ _ _ _ _ _ _ _ _ _ _ _ _ _ _ _ _ _ _ _ _ _ _ _ _ _ _ _ _ _ _ _ _ _ _ _ _ _ _ _ _ _ _ _ _ _ _ _ _ _ _ _ _ _ _ _ _ _ _ _ _ _ _ _ _ _ _ _ _ _ _ _ _ _ _ _ _ _ _ _ _ _ _ _ _ _ _ _ _ _ _ _ _ _ _ _ _ _ _ _ _ _ _ _ _ _ _ _ _ _ _ _ _ _ _ _ _ _ _ _ _ _ _ _ _ _ _ _ _ _ _ _ _ _ _ _ _ _ _ _ _ _ _ _ _ _ _ _ _ _ _ _ _ _ _ _ _ _ _ _ _ _ _ _ _ _ _ _ _ _ _ _ _ _ _ _ _ _ _ _ _ _ _ _ _ _ _ _ _ _ _ _ _ _ _ _ _ _ _ _ _ _ _ _ _ _ _ _ _ _ _ _ _ _ _ _ _ _ _ _ _ _ _ _ _ _ _ _ _ _ _ _ _ _ _ _ _ _ _ _ _ _ _ _ _ _ _ _ _ _ _ _ _ _ _ _ _ _ _ _ _ _ _ _ _ _ _ _ _ _ _ _ _ _ _ _ _ _ _ _ _ _ _ _ _ _ _ _ _ _ _ _ _ _ _ _ _ _ _ _ _ _ _ _ _ _ _ _ _ _ _ _ _ _ _ _ _ _ _ _ _ _ _ _ _ _ _ _ _ _ _ _ _ _ _ _ _ _ _ _ _ _ _ _ _ _ _ _ _ _ _ _ _ _ _ _ _ _ _ _ _ _ _ _ _ _ _ _ _ _ _ _
    · unfold RebEnd at hE
      rw [if_neg hL] at hE
      obtain ⟨h2, h3, h4, h5⟩ := endS_of (w := w) (by have := B13.out.size; omega) (fun i hi => (HLF.out i hi).lt) hE
      obtain ⟨f1, f2, f3⟩ := fin h4 h5
      exact law_twoS N b0 b1 b2 w.heap.size bI bK d j k m e bs es vs xl LL W0 w' hk (by omega) hm hj (HP.out.ll j (by omega)) (HP.out.ll (j + 1) hj2) hL f1 h2 h3 f2 f3 _ _ _ _ _ _ _ _ _ _ _ _ _ _ _ _ _ _ _ _ _ _ _ _ _ _ _ _ _ _ _ _ _ _ _ _ _ _ _ _ _ _ _ _ _ _ _ _ _ _ _ _ _ _ _ _ _ _ _ _ _ _ _ _ _ _ _ _ _ _ _ _ _ _ _ _ _ _ _ _ _ _ _ _ _ _ _ _ _ _ _ _ _ _ _ _ _ _ _ _ _ _ _ _ _ _ _ _ _ _ _ _ _ _ _ _ _ _ _ _ _ _ _ _ _ _ _ _ _ _ _ _ _ _ _ _ _ _ _ _ _ _ _ _ _ _ _ _ _ _ _ _ _ _ _ _ _ _ _ _ _ _ _ _ _ _ _ _ _ _ _ _ _ _ _ _ _ _ _ _ _ _ _ _ _ _ _ _ _ _ _ _ _ _ _ _ _ _ _ _ _ _ _ _ _ _ _ _ _ _ _ _ _ _ _ _ _ _ _ _ _ _ _ _ _ _ _ _ _ _ _ _ _ _ _ _ _ _ _ _ _ _ _ _ _ _ _ _ _ _ _ _ _ _ _ _ _ _ _ _ _ _ _ _ _ _ _ _ _ _ _ _ _ _ _ _ _ _ _ _ _ _ _ _ _ _ _ _ _ _ _ _ _ _ _ _ _ _ _ _ _ _ _ _ _ _ _ _ _ _ _ _ _ _ _ _ _ _ _ _ _ _ _ _ _ _ _ _ _ _ _ _ _ _ _ _ _ _ _ _ _ _ _ _ _ _ _ _ _ _ _ _ _ _ _ _ _ _ _ _ _ _ _ _ _ _ _ _ _ _ _ _

end Go.Proofs.Qxb6602784a.grf
