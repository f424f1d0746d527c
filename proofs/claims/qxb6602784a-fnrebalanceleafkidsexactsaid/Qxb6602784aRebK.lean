import Derived.Test.Qxb6602784aRebH
import Derived.BigQuiet
namespace Go.Proofs.Qxb6602784a.grf
open Go.ChangeShapes Go.WideShapes Go.ChangeAt Go.RowKit Go.Maps
set_option linter.unusedSimpArgs false
set_option linter.unusedVariables false

theorem quiet_fresh {d x y : Nat} {w : World} {t t' t'' : TypeId} {c c' c'' : List Value} (hd : Blk w d t c) (hx : Blk w x t' c') (hy : Blk w y t'' c'') (nx : d ≠ x) (ny : d ≠ y) (n0 n : Nat) :
    Calls Try.prog 36 #[.pointer (some ⟨d, 0, none⟩), .pointer (some ⟨x, 0, none⟩), .pointer (some ⟨y, 0, none⟩)] (w.drewN (n0 + n)) fun e w' => e = .returned (.bool true) ∧ ∃ m, w' = w.drewN (n0 + m) :=
  (fresh_node (hd.drewN _) (hx.drewN _) (hy.drewN _) nx ny).mono fun e w' h => ⟨h.1, n, h.2.symm⟩
theorem quiet_holds {d : Nat} {ep : Int} {v : Value} {xs : List Int} {w : World} (h : Leaf w d ep xs) (hv : Row w v (ints .i64 xs)) (n0 n : Nat) :
    Calls Try.prog 31 #[.pointer (some ⟨d, 0, none⟩), .int .u64 ep, v] (w.drewN (n0 + n)) fun e w' => e = .returned (.bool true) ∧ ∃ m, w' = w.drewN (n0 + m) :=
  (leaf_holds d ep v xs (w.drewN (n0 + n)) h hv).mono fun e w' h => ⟨h.1, by obtain ⟨m, hm⟩ := h.2; exact ⟨n + m, by rw [hm, World.drewN_drewN, Nat.add_assoc]⟩⟩

/-- Where bound i of the joined node came from. -/
def src (j i : Nat) : Nat := if j < i then i + 1 else i

/-- What the law finds behind a join. -/
structure LawJ (N : Nat) (W0 w : World) (b0 bO bI bK j m p g l : Nat) (e : Int) (bs L : List Int) (xl : List Nat) : Prop where
  c0 : ∀ i, i < m → w.cell? ⟨b0, i, none⟩ = some (.int .i64 (bs.getD i 0))
  cO : ∀ i, i < m → w.cell? ⟨bO, i, none⟩ = some (.pointer (some ⟨xl.getD i 0, 0, none⟩))
  cI : ∀ i, i < m - 1 → w.cell? ⟨bI, i, none⟩ = some (.int .i64 (bs.getD (src j i) 0))
  cK : ∀ i, i < m - 1 → i ≠ j → w.cell? ⟨bK, i, none⟩ = some (.pointer (some ⟨xl.getD (src j i) 0, 0, none⟩))
  cj : w.cell? ⟨bK, j, none⟩ = some (.pointer (some ⟨p, 0, none⟩))
  leaf : Leaf w p e L
  cat : Row w (.slice (some ⟨g, 0, none⟩) l l) (ints .i64 L)
  bp : ∃ t c, Blk w p t c
  bx : ∃ t c, Blk w (xl.getD j 0) t c
  by' : ∃ t c, Blk w (xl.getD (j + 1) 0) t c
  nx : p ≠ xl.getD j 0
  ny : p ≠ xl.getD (j + 1) 0
  bel : Below N W0 w

theorem LawJ.drewN {N : Nat} {W0 w : World} {b0 bO bI bK j m p g l : Nat} {e : Int} {bs L : List Int} {xl : List Nat} (h : LawJ N W0 w b0 bO bI bK j m p g l e bs L xl) (n : Nat) : LawJ N W0 (w.drewN n) b0 bO bI bK j m p g l e bs L xl :=
  ⟨h.c0, h.cO, h.cI, h.cK, h.cj, h.leaf, h.cat, h.bp, h.bx, h.by', h.nx, h.ny, h.bel.trans (drewN_below _ _ _)⟩

set_option maxHeartbeats 4000000 in
set_option maxRecDepth 1000000 in
theorem law_join (N b0 bO bI bK j m p g l : Nat) (e : Int) (bs L : List Int) (xl : List Nat) (W0 w : World) (hl : l ≤ 64) (hj2 : j + 1 < m) (hm : m ≤ 65536) (H : Hid (LawJ N W0 w b0 bO bI bK j m p g l e bs L xl)) (u1 u2 u4 u5 u6 u7 u8 u9 u10 u12 u13 u15 u16 u21 u22 u23 u24 u25 u26 u27 u28 u29 u30 u31 u32 u33 u34 u35 u36 u37 u38 u39 u40 u41 u42 u43 u44 u45 u46 u47 u48 u49 u50 u51 u52 u53 u54 u55 u56 u57 u58 u59 u60 u61 u62 u63 u64 u65 u66 u67 u68 u69 u70 u71 u72 u73 u74 u75 u76 u77 u78 u79 u80 u81 u82 u83 u84 u85 u86 u87 u88 u89 u90 u91 u92 u93 u94 u95 u96 u97 u98 u99 u100 u101 u102 u103 u104 u105 u106 u107 u108 u109 u110 u111 u112 u113 u114 u115 u116 u117 u118 u119 u120 u121 u122 u123 u124 u125 u126 u127 u128 u129 u130 u131 u132 u133 u134 u135 u136 u137 u138 u139 u140 u141 u142 u143 u144 u145 u146 u147 u148 u149 u150 u151 u152 u153 u154 u155 u156 u157 u158 u159 u160 u161 u162 u163 u164 u165 u166 u167 u168 u169 u170 u171 u172 u173 u174 u175 u176 u177 u178 u179 u180 u181 u182 u183 u184 u185 u186 u187 u188 u189 u190 u191 u192 u193 u194 u195 u196 u197 u198 u199 u200 u201 u202 u203 u204 u205 u206 u207 u208 u209 u210 u211 u212 u213 u214 u215 u216 u217 u218 u219 u220 u221 u222 u223 u224 u225 u226 u227 u228 u229 u230 u231 u232 u233 u234 u235 u236 u237 u238 u239 u240 u241 u242 u243 u244 u245 u246 u247 u248 u249 u250 u251 u252 u253 u254 u255 u256 u257 u258 u259 u260 u261 u262 u263 u264 u265 u266 u267 u268 u269 u270 u271 u272 u273 u274 u275 u276 u277 u278 u279 u280 u281 u282 u283 u284 u285 u286 u287 u288 u289 u290 u291 u292 u293 u294 u295 u296 u297 u298 u299 u300 u301 u302 u303 u304 u305 u306 u307 u308 u309 u310 u311 u312 u313 u314 u315 u316 u317 u318 u319 u320 u321 u322 u323 u324 u325 u326 u327 u328 u329 u330 u331 u332 u333 u334 u335 u336 u337 u338 u339 u340 u341 u342 u343 u344 u345 u346 u347 u348 u349 u350 u351 u352 u353 u354 u355 u356 u357 u358 u359 u360 u361 u362 u363 u364 u365 u366 u367 u368 u369 u370 u371 u372 u373 u374 u375 u376 u377 u378 u379 : Value) :
    Code.wp Try.prog (tailN 22 (Try.f8.body.getD .skip)) (bodyPost Try.prog Try.f8 fun r w' => r = .returned (.bool true) ∧ Below N W0 w') ⟨#[.slice (some ⟨b0, 0, none⟩) m m, u1, u2, .int .u64 e, u4, u5, u6, u7, u8, u9, u10, .int .i64 (m : Int), u12, u13, .slice (some ⟨bO, 0, none⟩) m m, u15, u16, .slice (some ⟨bK, 0, none⟩) (m - 1) m, .slice (some ⟨bI, 0, none⟩) (m - 1) m, .int .i64 (j : Int), .slice (some ⟨g, 0, none⟩) l l, u21, u22, u23, u24, u25, u26, u27, u28, u29, u30, u31, u32, u33, u34, u35, u36, u37, u38, u39, u40, u41, u42, u43, u44, u45, u46, u47, u48, u49, u50, u51, u52, u53, u54, u55, u56, u57, u58, u59, u60, u61, u62, u63, u64, u65, u66, u67, u68, u69, u70, u71, u72, u73, u74, u75, u76, u77, u78, u79, u80, u81, u82, u83, u84, u85, u86, u87, u88, u89, u90, u91, u92, u93, u94, u95, u96, u97, u98, u99, u100, u101, u102, u103, u104, u105, u106, u107, u108, u109, u110, u111, u112, u113, u114, u115, u116, u117, u118, u119, u120, u121, u122, u123, u124, u125, u126, u127, u128, u129, u130, u131, u132, u133, u134, u135, u136, u137, u138, u139, u140, u141, u142, u143, u144, u145, u146, u147, u148, u149, u150, u151, u152, u153, u154, u155, u156, u157, u158, u159, u160, u161, u162, u163, u164, u165, u166, u167, u168, u169, u170, u171, u172, u173, u174, u175, u176, u177, u178, u179, u180, u181, u182, u183, u184, u185, u186, u187, u188, u189, u190, u191, u192, u193, u194, u195, u196, u197, u198, u199, u200, u201, u202, u203, u204, u205, u206, u207, u208, u209, u210, u211, u212, u213, u214, u215, u216, u217, u218, u219, u220, u221, u222, u223, u224, u225, u226, u227, u228, u229, u230, u231, u232, u233, u234, u235, u236, u237, u238, u239, u240, u241, u242, u243, u244, u245, u246, u247, u248, u249, u250, u251, u252, u253, u254, u255, u256, u257, u258, u259, u260, u261, u262, u263, u264, u265, u266, u267, u268, u269, u270, u271, u272, u273, u274, u275, u276, u277, u278, u279, u280, u281, u282, u283, u284, u285, u286, u287, u288, u289, u290, u291, u292, u293, u294, u295, u296, u297, u298, u299, u300, u301, u302, u303, u304, u305, u306, u307, u308, u309, u310, u311, u312, u313, u314, u315, u316, u317, u318, u319, u320, u321, u322, u323, u324, u325, u326, u327, u328, u329, u330, u331, u332, u333, u334, u335, u336, u337, u338, u339, u340, u341, u342, u343, u344, u345, u346, u347, u348, u349, u350, u351, u352, u353, u354, u355, u356, u357, u358, u359, u360, u361, u362, u363, u364, u365, u366, u367, u368, u369, u370, u371, u372, u373, u374, u375, u376, u377, u378, u379], []⟩ w := by
  conv => arg 2; whnf
  have i0 : IntKind.i64.wrap ((m : Int) - 1) = ((m - 1 : Nat) : Int) := by rw [IntKind.wrap_i64]; omega
  have i1 : (l : Int) ≤ 64 := by omega
  have i2 : (((m - 1 : Nat) : Int) != ((m - 1 : Nat) : Int)) = false := by simp
  go_wp2
  go_loopw [21] (fun i wr => ∃ k : Nat, k ≤ m - 1 ∧ i = .int .i64 k ∧ LawJ N W0 wr b0 bO bI bK j m p g l e bs L xl) (fun i _ => m - (intOf i).toNat)
  case atStart => exact ⟨0, Nat.zero_le _, rfl, H.out⟩
  case round =>
    obtain ⟨k, hk, rfl, hJ⟩ := hrel
    have J := hide hJ
    clear hJ H
    by_cases hlt : k < m - 1
    · have i3 : (k : Int) < ((m - 1 : Nat) : Int) := by omega
      by_cases c1 : k = j
      · subst c1
        obtain ⟨s, hs⟩ : ∃ s, s = bs.getD k 0 := ⟨_, rfl⟩
        obtain ⟨X, hX⟩ : ∃ X, X = xl.getD k 0 := ⟨_, rfl⟩
        obtain ⟨Y, hY⟩ : ∃ Y, Y = xl.getD (k + 1) 0 := ⟨_, rfl⟩
        have q1 : wr.cell? ⟨bI, k, none⟩ = some (.int .i64 s) := by rw [J.out.cI k hlt, hs]; unfold src; rw [if_neg (Nat.lt_irrefl k)]
        have q2 : wr.cell? ⟨b0, k, none⟩ = some (.int .i64 s) := by rw [J.out.c0 k (by omega), hs]
        have q3 := J.out.cj
        have q4 : wr.cell? ⟨bO, k, none⟩ = some (.pointer (some ⟨X, 0, none⟩)) := by rw [J.out.cO k (by omega), hX]
        have q5 : wr.cell? ⟨bO, k + 1, none⟩ = some (.pointer (some ⟨Y, 0, none⟩)) := by rw [J.out.cO (k + 1) (by omega), hY]
        obtain ⟨t1, z1, B1⟩ := J.out.bp
        obtain ⟨t2, z2, B2⟩ := J.out.bx
        obtain ⟨t3, z3, B3⟩ := J.out.by'
        have n1 := J.out.nx
        have n2 := J.out.ny
        rw [← hX] at B2 n1
        rw [← hY] at B3 n2
        have FR : ∀ n0 n, Hid (Calls Try.prog 36 #[.pointer (some ⟨p, 0, none⟩), .pointer (some ⟨X, 0, none⟩), .pointer (some ⟨Y, 0, none⟩)] (wr.drewN (n0 + n)) fun e w' => e = .returned (.bool true) ∧ ∃ m, w' = wr.drewN (n0 + m)) :=
          fun n0 n => quiet_fresh B1 B2 B3 n1 n2 n0 n
        have LH : ∀ n0 n, Hid (Calls Try.prog 31 #[.pointer (some ⟨p, 0, none⟩), .int .u64 e, .slice (some ⟨g, 0, none⟩) l l] (wr.drewN (n0 + n)) fun e w' => e = .returned (.bool true) ∧ ∃ m, w' = wr.drewN (n0 + m)) :=
          fun n0 n => quiet_holds J.out.leaf J.out.cat n0 n
        have i4 : (k : Int) < (m : Int) := by omega
        have i5 : IntKind.i64.wrap ((k : Int) + 1) = (k : Int) + 1 := by rw [IntKind.wrap_i64]; omega
        have i6 : (k : Int) + 1 < (m : Int) := by omega
        have i7 : ((k : Int) == (k : Int)) = true := by simp
        have i8 : (0 : Int) ≤ (k : Int) + 1 := by omega
        have i9 : ((k : Int) + 1).toNat = k + 1 := by omega
        have JN : ∀ n, Hid (LawJ N W0 (wr.drewN n) b0 bO bI bK k m p g l e bs L xl) := fun n => J.out.drewN n
        clear hs hX hY B1 B2 B3 n1 n2
        go_wp2_with fail
        go_quiet (fail)
        go_wp2_with fail
        go_quiet (first | (go_at_call 36; exact (FR _ _).out) | (go_at_call 31; exact (LH _ _).out))
        go_wp2
        go_roundw
        case rel => exact ⟨k + 1, by omega, by go_num, (JN _).out⟩
        case measure => simp [intOf]; omega
      · by_cases c2 : j < k
        · obtain ⟨s, hs⟩ : ∃ s, s = bs.getD (k + 1) 0 := ⟨_, rfl⟩
          obtain ⟨X, hX⟩ : ∃ X, X = xl.getD (k + 1) 0 := ⟨_, rfl⟩
          have hsr : src j k = k + 1 := by unfold src; rw [if_pos c2]
          have q1 : wr.cell? ⟨bI, k, none⟩ = some (.int .i64 s) := by rw [J.out.cI k hlt, hs, hsr]
          have q2 : wr.cell? ⟨b0, k + 1, none⟩ = some (.int .i64 s) := by rw [J.out.c0 (k + 1) (by omega), hs]
          have q3 : wr.cell? ⟨bK, k, none⟩ = some (.pointer (some ⟨X, 0, none⟩)) := by rw [J.out.cK k hlt c1, hX, hsr]
          have q4 : wr.cell? ⟨bO, k + 1, none⟩ = some (.pointer (some ⟨X, 0, none⟩)) := by rw [J.out.cO (k + 1) (by omega), hX]
          have hps := ptr_nsame X
          have i4 : (k : Int) < (m : Int) := by omega
          have i5 : IntKind.i64.wrap ((k : Int) + 1) = (k : Int) + 1 := by rw [IntKind.wrap_i64]; omega
          have i6 : (k : Int) + 1 < (m : Int) := by omega
          have i8 : (0 : Int) ≤ (k : Int) + 1 := by omega
          have i9 : ((k : Int) + 1).toNat = k + 1 := by omega
          have i10 : (j : Int) < (k : Int) := by omega
          have i7 : ((k : Int) == (j : Int)) = false := by simp; omega
          have JN : ∀ n, Hid (LawJ N W0 (wr.drewN n) b0 bO bI bK j m p g l e bs L xl) := fun n => J.out.drewN n
          clear hs hX hsr
          go_wp2_with fail
          go_quiet (fail)
          go_wp2_with fail
          go_quiet (fail)
          go_wp2
          go_roundw
          case rel => exact ⟨k + 1, by omega, by go_num, (JN _).out⟩
          case measure => simp [intOf]; omega
        · obtain ⟨s, hs⟩ : ∃ s, s = bs.getD (k) 0 := ⟨_, rfl⟩
          obtain ⟨X, hX⟩ : ∃ X, X = xl.getD (k) 0 := ⟨_, rfl⟩
          have hsr : src j k = k := by unfold src; rw [if_neg c2]
          have q1 : wr.cell? ⟨bI, k, none⟩ = some (.int .i64 s) := by rw [J.out.cI k hlt, hs, hsr]
          have q2 : wr.cell? ⟨b0, k, none⟩ = some (.int .i64 s) := by rw [J.out.c0 (k) (by omega), hs]
          have q3 : wr.cell? ⟨bK, k, none⟩ = some (.pointer (some ⟨X, 0, none⟩)) := by rw [J.out.cK k hlt c1, hX, hsr]
          have q4 : wr.cell? ⟨bO, k, none⟩ = some (.pointer (some ⟨X, 0, none⟩)) := by rw [J.out.cO (k) (by omega), hX]
          have hps := ptr_nsame X
          have i4 : (k : Int) < (m : Int) := by omega
          have i10 : ¬ (j : Int) < (k : Int) := by omega
          have i7 : ((k : Int) == (j : Int)) = false := by simp; omega
          have JN : ∀ n, Hid (LawJ N W0 (wr.drewN n) b0 bO bI bK j m p g l e bs L xl) := fun n => J.out.drewN n
          clear hs hX hsr
          go_wp2_with fail
          go_quiet (fail)
          go_wp2_with fail
          go_quiet (fail)
          go_wp2
          go_roundw
          case rel => exact ⟨k + 1, by omega, by go_num, (JN _).out⟩
          case measure => simp [intOf]; omega
    · have i3 : ¬ (k : Int) < ((m - 1 : Nat) : Int) := by omega
      have BE : Hid (Below N W0 wr) := J.out.bel
      go_wp2
      go_ret
      exact ⟨rfl, BE.out⟩

end Go.Proofs.Qxb6602784a.grf
