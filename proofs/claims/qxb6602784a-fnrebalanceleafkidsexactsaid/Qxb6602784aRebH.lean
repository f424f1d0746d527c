import Derived.Test.Qxb6602784aRebG
import Derived.BigQuiet
import Derived.Deep.RegionHeld3
namespace Go.Proofs.Qxb6602784a.grf
open Go.ChangeShapes Go.WideShapes Go.ChangeAt Go.RowKit Go.Maps
set_option linter.unusedSimpArgs false
set_option linter.unusedVariables false

theorem reb_one (d : Nat) (ep e k : Int) (ids : Value) (a : Option Addr) (c : Nat) (w : World) (hd : Node w d ep ids (.slice a 1 c)) :
    Calls Try.prog 46 #[.pointer (some ⟨d, 0, none⟩), .int .u64 e, .int .i64 k] w fun r w' => r = .returned (.tuple #[]) ∧ w' = w := by
  have q := hd.kids
  clear hd
  go_enter Try.func46, Try.ntmps46
  go_wp2
  (try simp only [Exit.inBlock, Exit.then]); refine bodyPost_ret (results_none rfl _ _ _) rfl ?_
  exact ⟨rfl, rfl⟩

/-- The two were joined into one. -/
def JoinEnd (w w' : World) (d bI bK m j : Nat) (ep e : Int) (bs : List Int) (ps : List Value) (L : List Int) : Prop :=
  ∃ p ri rk, w.heap.size ≤ p ∧ Leaf w' p e L ∧ DropTo w w' d bI bK ep (.slice (some ⟨bI, 0, none⟩) (m - 1) m) (.slice (some ⟨bK, 0, none⟩) (m - 1) m) (ints .i64 (bs.eraseIdx (j + 1)) ++ ri) ((ps.set j (.pointer (some ⟨p, 0, none⟩))).eraseIdx (j + 1) ++ rk)
/-- The two were laid into two halves. -/
def SplitEnd (w w' : World) (d bI bK m j : Nat) (ep e : Int) (bs : List Int) (ps : List Value) (L : List Int) : Prop :=
  ∃ p q, w.heap.size ≤ p ∧ w.heap.size ≤ q ∧ p ≠ q ∧ Leaf w' p e (L.take (L.length / 2)) ∧ Leaf w' q e (L.drop (L.length / 2)) ∧
    DropTo w w' d bI bK ep (.slice (some ⟨bI, 0, none⟩) m m) (.slice (some ⟨bK, 0, none⟩) m m) (ints .i64 (bs.set (j + 1) (L.getD (L.length / 2) 0))) ((ps.set j (.pointer (some ⟨p, 0, none⟩))).set (j + 1) (.pointer (some ⟨q, 0, none⟩)))
def RebEnd (w w' : World) (d bI bK m j : Nat) (ep e : Int) (bs : List Int) (ps : List Value) (L : List Int) : Prop :=
  if L.length ≤ 64 then JoinEnd w w' d bI bK m j ep e bs ps L else SplitEnd w w' d bI bK m j ep e bs ps L

theorem DropTo.after {w w5 w' : World} {d bI bK : Nat} {ep ep' : Int} {ids kids ids' kids' : Value} {is ks is' ks' : List Value} (h : DropTo w w5 d bI bK ep ids kids is ks) (h' : DropTo w5 w' d bI bK ep' ids' kids' is' ks') : DropTo w w' d bI bK ep' ids' kids' is' ks' :=
  ⟨h'.node, h'.ids, h'.kids, h.stay.trans h'.stay, fun B h1 h2 h3 => (h.below B h1 h2 h3).trans (h'.below B h1 h2 h3)⟩

theorem DropTo.besides {w wc w' : World} {d bI bK p : Nat} {ep : Int} {ids kids : Value} {is ks : List Value} (h : DropTo w wc d bI bK ep ids kids is ks) (hd : d < w.heap.size) (hI : bI < w.heap.size) (hK : bK < w.heap.size) (hp : w.heap.size ≤ p) (hst : Stay [p] wc w') (hbel : ∀ B, B ≤ p → Below B wc w') : DropTo w w' d bI bK ep ids kids is ks :=
  ⟨Blk.stay h.node hst (by simp; omega), h.ids.stay hst (by simp; omega), h.kids.stay hst (by simp; omega), ⟨by have := h.stay.1; have := hst.1; omega, fun z hz hm => by rw [hst.2 z (by have := h.stay.1; omega) (by simp; omega), h.stay.2 z hz hm]⟩, fun B h1 h2 h3 => (h.below B h1 h2 h3).trans (hbel B (by omega))⟩

theorem drewN_below (B : Nat) (w : World) (n : Nat) : Below B w (w.drewN n) := by
  have h := Below.refl B w
  exact ⟨h.os, h.tape, h.output, h.size, h.block⟩

def tailN : Nat → Code → Code
  | 0, c => c
  | n + 1, .seq _ b => tailN n b
  | _, c => c

set_option maxHeartbeats 4000000 in
set_option maxRecDepth 1000000 in
theorem reb_tail_join (d bI bK m j x y p b n m' : Nat) (ep e : Int) (bs L : List Int) (ps : List Value) (w wc : World) (HBS : Hid (bs.length = m)) (HPS : Hid (ps.length = m)) (hj2 : j + 1 < m) (hm : m ≤ 65536) (HP : Hid (∀ v ∈ ps, v.oneCell' = true)) (HPX : Hid (ps[j]? = some (.pointer (some ⟨x, 0, none⟩)))) (HPY : Hid (ps[j + 1]? = some (.pointer (some ⟨y, 0, none⟩))))
    (h1 : d ≠ bI) (h2 : d ≠ bK) (h3 : bI ≠ bK) (hdl : d < w.heap.size) (hIl : bI < w.heap.size) (hKl : bK < w.heap.size) (hp : w.heap.size ≤ p) (hb0 : w.heap.size ≤ b) (hpb : p ≠ b) (HL : Hid (L.length = n + m')) (hn : n ≤ 1048576) (hm' : m' ≤ 1048576)
    (NP : Hid (Node wc p e (.slice (some ⟨b, 0, none⟩) (n + m') (n + m')) (.slice none 0 0))) (HBB : Hid (Blk wc b 2 (ints .i64 L))) (qx : wc.cell? ⟨x, 2, none⟩ = some (.slice none 0 0)) (DH : Hid (DropTo w wc d bI bK ep (.slice (some ⟨bI, 0, none⟩) m m) (.slice (some ⟨bK, 0, none⟩) m m) (ints .i64 bs) ps)) (hL : n + m' ≤ 64) (u3 u4 u5 u9 u10 u11 u12 u13 u14 u15 u16 u17 u18 u19 u20 u21 u22 u23 u24 u25 u26 u27 u28 u29 u30 u31 u32 u33 u34 u35 u36 u37 u38 u39 u40 u41 u42 u43 u44 u45 u46 u47 u48 u49 u50 u51 u52 u53 u54 u55 u56 u57 u58 u59 u60 u61 u62 u63 u64 u65 u66 u67 u68 u69 u70 u71 u72 u73 u74 u75 u76 u77 u78 u79 u80 u81 u82 u83 u84 u85 u86 u87 u88 u89 u90 u91 u92 u93 u94 u95 u96 u97 u98 u99 u100 u101 u102 u103 u104 u105 u106 u107 u108 u109 u110 u111 u112 u113 u114 u115 u116 u117 u118 u119 u120 u121 u122 u123 u124 u125 u126 u127 u128 u129 u130 u131 u132 u133 u134 u135 u136 u137 u138 u139 u140 u141 u142 u143 u144 u145 u146 u147 u148 : Value) :
    Code.wp Try.prog (tailN 4 (Try.f46.body.getD .skip)) (bodyPost Try.prog Try.f46 fun r w' => r = .returned (.tuple #[]) ∧ RebEnd w w' d bI bK m j ep e bs ps L) ⟨#[.pointer (some ⟨d, 0, none⟩), .int .u64 e, .int .i64 (j : Int), u3, u4, u5, .pointer (some ⟨x, 0, none⟩), .pointer (some ⟨y, 0, none⟩), .pointer (some ⟨p, 0, none⟩), u9, u10, u11, u12, u13, u14, u15, u16, u17, u18, u19, u20, u21, u22, u23, u24, u25, u26, u27, u28, u29, u30, u31, u32, u33, u34, u35, u36, u37, u38, u39, u40, u41, u42, u43, u44, u45, u46, u47, u48, u49, u50, u51, u52, u53, u54, u55, u56, u57, u58, u59, u60, u61, u62, u63, u64, u65, u66, u67, u68, u69, u70, u71, u72, u73, u74, u75, u76, u77, u78, u79, u80, u81, u82, u83, u84, u85, u86, u87, u88, u89, u90, u91, u92, u93, u94, u95, u96, u97, u98, u99, u100, u101, u102, u103, u104, u105, u106, u107, u108, u109, u110, u111, u112, u113, u114, u115, u116, u117, u118, u119, u120, u121, u122, u123, u124, u125, u126, u127, u128, u129, u130, u131, u132, u133, u134, u135, u136, u137, u138, u139, u140, u141, u142, u143, u144, u145, u146, u147, u148], []⟩ wc := by
  conv => arg 2; whnf
  have qp1 := NP.out.ids
  have qk := DH.out.node.kids
  have qi := DH.out.node.ids
  have hnn := neq39 none 0 0
  obtain ⟨cv, q5⟩ : ∃ cv, wc.cell? ⟨bK, j, none⟩ = some cv := ⟨_, by rw [DH.out.kids.cell]; exact HPX.out⟩
  have f5 := DH.out.kids.frozen j
  have hb6 : ¬ (64 : Int) < ((n : Int) + (m' : Int)) := by omega
  have D5 := hide (DH.out.setKid h2 h3 j (.pointer (some ⟨p, 0, none⟩)))
  have NP5 : Hid (Node (wc.setCell ⟨bK, j, none⟩ (.pointer (some ⟨p, 0, none⟩))) p e (.slice (some ⟨b, 0, none⟩) (n + m') (n + m')) (.slice none 0 0)) := Blk.set_ne NP.out _ (by simp; omega) _
  have HBB5 : Hid (Blk (wc.setCell ⟨bK, j, none⟩ (.pointer (some ⟨p, 0, none⟩))) b 2 (ints .i64 L)) := Blk.set_ne HBB.out _ (by simp; omega) _
  go_wp2_with fail
  have hdr := drop_kid d bI bK m (j + 1) ep bs (ps.set j (.pointer (some ⟨p, 0, none⟩))) HBS.out (by rw [List.length_set]; exact HPS.out) (by omega) hm (fun v hv => by
    rcases List.mem_or_eq_of_mem_set hv with h | h
    · exact HP.out v h
    · rw [h]; rfl) _ D5.out.node D5.out.ids D5.out.kids h1 h2 h3
  rw [Int.natCast_add] at hdr
  refine hdr.mono ?_
  rintro r w' ⟨rfl, ri, rk, hD⟩
  have HE : Hid (RebEnd w w' d bI bK m j ep e bs ps L) := by
    unfold Hid RebEnd
    rw [if_pos (by rw [HL.out]; exact hL)]
    have hne : ∀ z, w.heap.size ≤ z → z ∉ [d, bI, bK] := fun z hz => by simp; omega
    refine ⟨p, ri, rk, hp, ⟨_, Blk.stay NP5.out hD.stay (hne p hp), .inr ⟨⟨b, 0, none⟩, n + m', ?_, ?_, ?_, ?_⟩⟩, D5.out.after hD⟩
    · rw [ints_len, HL.out]
    · rw [ints_len, HL.out]; exact Nat.le_refl _
    · unfold maxLen; omega
    · intro i y hi
      rw [add_plain, Nat.zero_add, (Blk.stay HBB5.out hD.stay (hne b hb0)).cell]
      exact hi
  clear hdr hD
  go_wp2
  go_end0
  exact ⟨rfl, HE.out⟩

end Go.Proofs.Qxb6602784a.grf
