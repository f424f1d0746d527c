import Derived.Test.Qxb6602784aRebH
namespace Go.Proofs.Qxb6602784a.grf
open Go.ChangeShapes Go.WideShapes Go.ChangeAt Go.RowKit Go.Maps
set_option linter.unusedSimpArgs false
set_option linter.unusedVariables false

def SplitMid (w wx : World) (d bI bK m j p b n m' : Nat) (ep e : Int) (bs : List Int) (ps : List Value) (L : List Int) : Prop :=
  ∃ q g c, w.heap.size ≤ q ∧ w.heap.size ≤ g ∧ p ≠ q ∧ Node wx q e (.slice (some ⟨g, 0, none⟩) (n + m' - (n + m') / 2) c) (.slice none 0 0)
    ∧ Row wx (.slice (some ⟨g, 0, none⟩) (n + m' - (n + m') / 2) c) (ints .i64 (L.drop ((n + m') / 2))) ∧ Node wx p e (.slice (some ⟨b, 0, none⟩) ((n + m') / 2) (n + m')) (.slice none 0 0) ∧ Blk wx b 2 (ints .i64 L)
    ∧ DropTo w wx d bI bK ep (.slice (some ⟨bI, 0, none⟩) m m) (.slice (some ⟨bK, 0, none⟩) m m) (ints .i64 bs) ((ps.set j (.pointer (some ⟨p, 0, none⟩))).set (j + 1) (.pointer (some ⟨q, 0, none⟩)))

theorem Row.set_ne {w : World} {x : Addr} {n c : Nat} {xs : List Value} (h : Row w (.slice (some x) n c) xs) (a : Addr) (hne : x.block ≠ a.block) (v : Value) : Row (w.setCell a v) (.slice (some x) n c) xs := by
  rcases h with ⟨h, _⟩ | ⟨x', cap, h1, h2, h3, h4⟩
  · simp at h
  · refine .inr ⟨x', cap, h1, h2, h3, fun i y hi => ?_⟩
    simp at h1
    rw [World.cell?_setCell_other]
    · exact h4 i y hi
    · intro e2
      apply hne
      rw [h1.1, ← add_block x' i, ← e2]

theorem split_mid {w wc w' : World} {d bI bK m j p b n m' q g c : Nat} {ep e : Int} {bs : List Int} {ps : List Value} {L : List Int} (h2 : d ≠ bK) (h3 : bI ≠ bK) (hKl : bK < w.heap.size) (hp : w.heap.size ≤ p) (hb0 : w.heap.size ≤ b) (hpb : p ≠ b) (hsz : w.heap.size ≤ wc.heap.size)
    (NP : Node wc p e (.slice (some ⟨b, 0, none⟩) (n + m') (n + m')) (.slice none 0 0)) (HBB : Blk wc b 2 (ints .i64 L)) (hq : wc.drew.heap.size ≤ q) (hg : wc.drew.heap.size ≤ g) (hst : Stay [p] wc.drew w')
    (nq : Node w' q e (.slice (some ⟨g, 0, none⟩) (n + m' - (n + m') / 2) c) (.slice none 0 0)) (rowq : Row w' (.slice (some ⟨g, 0, none⟩) (n + m' - (n + m') / 2) c) (ints .i64 (L.drop ((n + m') / 2)))) (np' : Node w' p e (.slice (some ⟨b, 0, none⟩) ((n + m') / 2) (n + m')) (.slice none 0 0))
    (D' : DropTo w w' d bI bK ep (.slice (some ⟨bI, 0, none⟩) m m) (.slice (some ⟨bK, 0, none⟩) m m) (ints .i64 bs) ps) :
    SplitMid w ((w'.setCell ⟨bK, j, none⟩ (.pointer (some ⟨p, 0, none⟩))).setCell ⟨bK, j + 1, none⟩ (.pointer (some ⟨q, 0, none⟩))) d bI bK m j p b n m' ep e bs ps L := by
  have hpl := Blk.lt NP
  have hq' : wc.heap.size ≤ q := hq
  have hg' : wc.heap.size ≤ g := hg
  have bb : Blk w' b 2 (ints .i64 L) := Blk.stay (w := wc.drew) HBB hst (by simp; omega)
  refine ⟨q, g, c, by omega, by omega, by omega, Blk.set_ne (Blk.set_ne nq _ (by simp; omega) _) _ (by simp; omega) _, (rowq.set_ne _ (by simp; omega) _).set_ne _ (by simp; omega) _, Blk.set_ne (Blk.set_ne np' _ (by simp; omega) _) _ (by simp; omega) _, (bb.set_ne _ (by simp; omega) _).set_ne _ (by simp; omega) _, (D'.setKid h2 h3 j _).setKid h2 h3 (j + 1) _⟩

set_option maxHeartbeats 4000000 in
set_option maxRecDepth 1000000 in
theorem reb_tail_split (d bI bK m j x y p b n m' : Nat) (ep e : Int) (bs L : List Int) (ps : List Value) (w wc : World) (HBS : Hid (bs.length = m)) (HPS : Hid (ps.length = m)) (hj2 : j + 1 < m) (hm : m ≤ 65536) (HP : Hid (∀ v ∈ ps, v.oneCell' = true)) (HPX : Hid (ps[j]? = some (.pointer (some ⟨x, 0, none⟩)))) (HPY : Hid (ps[j + 1]? = some (.pointer (some ⟨y, 0, none⟩))))
    (h1 : d ≠ bI) (h2 : d ≠ bK) (h3 : bI ≠ bK) (hdl : d < w.heap.size) (hIl : bI < w.heap.size) (hKl : bK < w.heap.size) (hp : w.heap.size ≤ p) (hb0 : w.heap.size ≤ b) (hpb : p ≠ b) (HL : Hid (L.length = n + m')) (hn : n ≤ 1048576) (hm' : m' ≤ 1048576)
    (NP : Hid (Node wc p e (.slice (some ⟨b, 0, none⟩) (n + m') (n + m')) (.slice none 0 0))) (HBB : Hid (Blk wc b 2 (ints .i64 L))) (qx : wc.cell? ⟨x, 2, none⟩ = some (.slice none 0 0)) (DH : Hid (DropTo w wc d bI bK ep (.slice (some ⟨bI, 0, none⟩) m m) (.slice (some ⟨bK, 0, none⟩) m m) (ints .i64 bs) ps)) (hL : ¬ n + m' ≤ 64) (u3 u4 u5 u9 u10 u11 u12 u13 u14 u15 u16 u17 u18 u19 u20 u21 u22 u23 u24 u25 u26 u27 u28 u29 u30 u31 u32 u33 u34 u35 u36 u37 u38 u39 u40 u41 u42 u43 u44 u45 u46 u47 u48 u49 u50 u51 u52 u53 u54 u55 u56 u57 u58 u59 u60 u61 u62 u63 u64 u65 u66 u67 u68 u69 u70 u71 u72 u73 u74 u75 u76 u77 u78 u79 u80 u81 u82 u83 u84 u85 u86 u87 u88 u89 u90 u91 u92 u93 u94 u95 u96 u97 u98 u99 u100 u101 u102 u103 u104 u105 u106 u107 u108 u109 u110 u111 u112 u113 u114 u115 u116 u117 u118 u119 u120 u121 u122 u123 u124 u125 u126 u127 u128 u129 u130 u131 u132 u133 u134 u135 u136 u137 u138 u139 u140 u141 u142 u143 u144 u145 u146 u147 u148 : Value) :
    Code.wp Try.prog (tailN 4 (Try.f46.body.getD .skip)) (bodyPost Try.prog Try.f46 fun r w' => r = .returned (.tuple #[]) ∧ RebEnd w w' d bI bK m j ep e bs ps L) ⟨#[.pointer (some ⟨d, 0, none⟩), .int .u64 e, .int .i64 (j : Int), u3, u4, u5, .pointer (some ⟨x, 0, none⟩), .pointer (some ⟨y, 0, none⟩), .pointer (some ⟨p, 0, none⟩), u9, u10, u11, u12, u13, u14, u15, u16, u17, u18, u19, u20, u21, u22, u23, u24, u25, u26, u27, u28, u29, u30, u31, u32, u33, u34, u35, u36, u37, u38, u39, u40, u41, u42, u43, u44, u45, u46, u47, u48, u49, u50, u51, u52, u53, u54, u55, u56, u57, u58, u59, u60, u61, u62, u63, u64, u65, u66, u67, u68, u69, u70, u71, u72, u73, u74, u75, u76, u77, u78, u79, u80, u81, u82, u83, u84, u85, u86, u87, u88, u89, u90, u91, u92, u93, u94, u95, u96, u97, u98, u99, u100, u101, u102, u103, u104, u105, u106, u107, u108, u109, u110, u111, u112, u113, u114, u115, u116, u117, u118, u119, u120, u121, u122, u123, u124, u125, u126, u127, u128, u129, u130, u131, u132, u133, u134, u135, u136, u137, u138, u139, u140, u141, u142, u143, u144, u145, u146, u147, u148], []⟩ wc := by
  conv => arg 2; whnf
  have qp1 := NP.out.ids
  have qk := DH.out.node.kids
  have qi := DH.out.node.ids
  have hnn := neq39 none 0 0
  have hb6 : (64 : Int) < ((n : Int) + (m' : Int)) := by omega
  have hsp := split_leaf p b (n + m') ((n + m') / 2) (n + m') e e L HL.out (by omega) (by omega) (Nat.le_refl _) (by unfold maxLen; omega) wc.drew NP.out HBB.out hpb
  have HSP := hide hsp
  clear hsp
  have i1 : ((j : Nat) : Int) + 1 < (m : Int) := by omega
  have i2 : IntKind.i64.wrap ((j : Int) + 1) = (j : Int) + 1 := by rw [IntKind.wrap_i64]; omega
  have i3 : (j : Int) < (m : Int) := by omega
  have i5 : IntKind.i64.wrap (((n : Int) + (m' : Int)).tdiv 2) = (((n + m') / 2 : Nat) : Int) := by
    rw [IntKind.wrap_i64, Int.tdiv_eq_ediv_of_nonneg (by omega)]
    omega
  have hsz : w.heap.size ≤ wc.heap.size := DH.out.stay.1
  go_wp2_with fail
  go_cut [0] (fun v wx => v = .pointer (some ⟨d, 0, none⟩) ∧ SplitMid w wx d bI bK m j p b n m' ep e bs ps L)
  case first =>
    go_region_with (go_at_call 48; refine HSP.out.mono ?_; rintro r w' ⟨q, g, c2, rfl, hq, hg, nq', rowq, np', hst, hbel⟩; have D' := hide (DropTo.besides DH.out.drew hdl hIl hKl hp hst hbel); have k1 := D'.out.node.kids; have k2 := D'.out.kids.cell j; have k3 := D'.out.kids.cell (j + 1); have k4 := D'.out.kids.frozen j; have k5 := D'.out.kids.frozen (j + 1); rw [HPX.out] at k2; rw [HPY.out] at k3; have HST := hide hst; have NQ := hide nq'; have NP' := hide np'; have RQ := hide rowq; clear hst nq' np' rowq hbel)
    all_goals (go_wp2_with fail; go_meet; exact ⟨rfl, split_mid h2 h3 hKl hp hb0 hpb hsz NP.out HBB.out hq hg HST.out NQ.out RQ.out NP'.out D'.out⟩)
  case rest =>
    obtain ⟨rfl, q, g, c, hq, hg, hpq, nq, rowq, np, bb, D⟩ := hcut
    have hlq : (ints .i64 (L.drop ((n + m') / 2))).length = n + m' - (n + m') / 2 := by rw [ints_len, List.length_drop, HL.out]
    have hz0 : wc.cell? ⟨g, 0, none⟩ = some (.int .i64 (L.getD ((n + m') / 2) 0)) := by
      rcases rowq with ⟨h, _⟩ | ⟨x', cap, h1, h2, h3, h4⟩
      · simp at h
      · simp at h1
        have := h4 0 (.int .i64 (L.getD ((n + m') / 2) 0)) (by
          rw [ints_at _ _ _ (by rw [List.length_drop, HL.out]; omega)]
          simp [List.getD_eq_getElem?_getD, List.getElem?_drop])
        rw [← h1.1, add_plain] at this
        exact this
    obtain ⟨lv, hlv⟩ : ∃ lv, lv = L.getD ((n + m') / 2) 0 := ⟨_, rfl⟩
    rw [← hlv] at hz0
    have q1 := D.node.ids
    have q2 := D.node.kids
    have q3 : wc.cell? ⟨bK, j + 1, none⟩ = some (.pointer (some ⟨q, 0, none⟩)) := by
      rw [D.kids.cell, List.getElem?_set_self (by rw [List.length_set, HPS.out]; omega)]
    have q4 := nq.ids
    obtain ⟨cv, q5⟩ : ∃ cv, wc.cell? ⟨bI, j + 1, none⟩ = some cv := ⟨_, by rw [D.ids.cell]; exact List.getElem?_eq_getElem (by rw [ints_len, HBS.out]; omega)⟩
    have f5 := D.ids.frozen (j + 1)
    have i6 : ((0 : Nat) : Int) < ((n + m' - (n + m') / 2 : Nat) : Int) := by omega
    have i7 : 0 < n + m' - (n + m') / 2 := by omega
    have HE : Hid (SplitEnd w (wc.drew.setCell ⟨bI, j + 1, none⟩ (.int .i64 lv)) d bI bK m j ep e bs ps L) := by
      have hlL : L.length / 2 = (n + m') / 2 := by rw [HL.out]
      unfold Hid SplitEnd
      rw [hlL, ← hlv]
      have np3 : Node (wc.drew.setCell ⟨bI, j + 1, none⟩ (.int .i64 lv)) p e (.slice (some ⟨b, 0, none⟩) ((n + m') / 2) (n + m')) (.slice none 0 0) := Blk.set_ne (Blk.drew np) _ (by simp; omega) _
      have nq3 : Node (wc.drew.setCell ⟨bI, j + 1, none⟩ (.int .i64 lv)) q e (.slice (some ⟨g, 0, none⟩) (n + m' - (n + m') / 2) c) (.slice none 0 0) := Blk.set_ne (Blk.drew nq) _ (by simp; omega) _
      have bb3 : Blk (wc.drew.setCell ⟨bI, j + 1, none⟩ (.int .i64 lv)) b 2 (ints .i64 L) := Blk.set_ne (Blk.drew bb) _ (by simp; omega) _
      have rq3 : Row (wc.drew.setCell ⟨bI, j + 1, none⟩ (.int .i64 lv)) (.slice (some ⟨g, 0, none⟩) (n + m' - (n + m') / 2) c) (ints .i64 (L.drop ((n + m') / 2))) := Row.set_ne (w := wc.drew) rowq _ (by simp; omega) _
      have D3 := D.drew
      refine ⟨p, q, hp, hq, hpq, ⟨_, np3, .inr ⟨⟨b, 0, none⟩, n + m', ?_, ?_, ?_, ?_⟩⟩, ⟨_, nq3, rq3⟩, ⟨Blk.set_ne D3.node _ (by simp; omega) _, ?_, D3.kids.set_ne _ (by simp; omega) _, D3.stay.setCell (by simp) _, fun B b1 b2 b3 => (D3.below B b1 b2 b3).setCell b2 _⟩⟩
      · rw [ints_len, List.length_take, HL.out]; congr 1; omega
      · rw [ints_len, List.length_take, HL.out]; omega
      · unfold maxLen; omega
      · intro i y hi
        rw [add_plain, Nat.zero_add, bb3.cell]
        rw [show ints .i64 (List.take ((n + m') / 2) L) = (ints .i64 L).take ((n + m') / 2) by simp [ints], List.getElem?_take] at hi
        split at hi
        · exact hi
        · cases hi
      · exact Blk.setInt D3.ids (j + 1) lv
    have HR : Hid (RebEnd w (wc.drew.setCell ⟨bI, j + 1, none⟩ (.int .i64 lv)) d bI bK m j ep e bs ps L) := by
      unfold Hid RebEnd
      rw [if_neg (by rw [HL.out]; exact hL)]
      exact HE.out
    clear D nq np rowq bb hlv hlq qp1 qk qi qx HE
    go_wp2_with fail
    go_region
    all_goals (go_wp2_with fail; (try simp only [Exit.inBlock, Exit.then]); refine bodyPost_ret (results_none rfl _ _ _) rfl ?_; exact ⟨rfl, HR.out⟩)
end Go.Proofs.Qxb6602784a.grf
