import Derived.Test.Qxb6602784aRebF
import Derived.Deep.RegionLaw
import Derived.BigRegion
namespace Go.Proofs.Qxb6602784a.grf
open Go.ChangeShapes Go.WideShapes Go.ChangeAt Go.RowKit Go.Maps
set_option linter.unusedSimpArgs false
set_option linter.unusedVariables false

/-- append with a known outcome, as one step of a region that draws. -/
theorem step_append_known {P : Program} {ops : Array Oper} {o : Oper} {a : Act} {w : World} {K : Act → World → Prop} {Q : Exit → Act → World → Prop} {E : Prop}
    (hg : o.guard = none) (s x : Operand) (t : TypeId) (hop : o.op = Op.call { callee := Callee.builtin Builtin.append, args := #[s, x], argTypes := #[t, t] })
    (v u r : Value) (w' : World) (hs : a.eval s = v) (hx : a.eval x = u) (hr : Sem.run P (Builtin.append_ #[t, t] o.type #[v, u]) w = .ok r w') (hK : K (a.put o.dst r) w') :
    if Region.wanted o (yielded ops a.tmps) = true then Oper.wp P o a w K Q else E := by
  have hw : Region.wanted o (yielded ops a.tmps) = true := by simp [Region.wanted, hg]
  rw [if_pos hw]
  unfold Oper.wp
  simp [execOp, hop, resolve, invoke, builtin, hs, hx, hr, Result.andThen]
  exact hK
theorem step_copy_known {P : Program} {ops : Array Oper} {o : Oper} {a : Act} {w : World} {K : Act → World → Prop} {Q : Exit → Act → World → Prop} {E : Prop}
    (hg : o.guard = none) (s x : Operand) (t : TypeId) (hop : o.op = Op.call { callee := Callee.builtin Builtin.copy, args := #[s, x], argTypes := #[t, t] })
    (v u r : Value) (w' : World) (hs : a.eval s = v) (hx : a.eval x = u) (hr : Sem.run P (Builtin.copy_ #[t, t] o.type #[v, u]) w = .ok r w') (hK : K (a.put o.dst r) w') :
    if Region.wanted o (yielded ops a.tmps) = true then Oper.wp P o a w K Q else E := by
  have hw : Region.wanted o (yielded ops a.tmps) = true := by simp [Region.wanted, hg]
  rw [if_pos hw]
  unfold Oper.wp
  simp [execOp, hop, resolve, invoke, builtin, hs, hx, hr, Result.andThen]
  exact hK

theorem tail_at {w : World} {b m k : Nat} {t : TypeId} {xs : List Value} (hx : xs.length = m) (h : Blk w b t xs) :
    ∃ A : Addr, (if m = k + 1 then some (⟨b, 0, none⟩ : Addr) else some ⟨b, k + 1, none⟩) = some A ∧ ∀ j u, (xs.drop (k + 1))[j]? = some u → w.cell? (A.add j) = some u := by
  by_cases hm : m = k + 1
  · refine ⟨⟨b, 0, none⟩, by simp [hm], fun j u hu => ?_⟩
    rw [List.drop_eq_nil_of_le (by omega)] at hu
    simp at hu
  · refine ⟨⟨b, k + 1, none⟩, by simp [hm], fun j u hu => ?_⟩
    rw [add_plain, h.cell]
    simpa [List.getElem?_drop] using hu

/-- What 'drop' has done so far (the world wx): the node, its rows. -/
structure DropTo (w wx : World) (d bI bK : Nat) (ep : Int) (ids kids : Value) (is ks : List Value) : Prop where
  node : Node wx d ep ids kids
  ids : Blk wx bI 2 is
  kids : Blk wx bK 40 ks
  stay : Stay [d, bI, bK] w wx
  below : ∀ B, B ≤ d → B ≤ bI → B ≤ bK → Below B w wx

theorem Stay.refl (bs : List Nat) (w : World) : Stay bs w w := ⟨Nat.le_refl _, fun _ _ _ => rfl⟩
theorem Stay.setCell {bs : List Nat} {w w' : World} (h : Stay bs w w') {a : Addr} (ha : a.block ∈ bs) (v : Value) : Stay bs w (w'.setCell a v) := by
  refine ⟨by simpa using h.1, fun x hx hm => ?_⟩
  rw [Below.heap_setCell _ _ _ _ (by intro e; rw [e] at hm; exact hm ha)]
  exact h.2 x hx hm
theorem Stay.setCells {bs : List Nat} {w : World} {b : Nat} (hb : b ∈ bs) : ∀ (vs : List Value) (o : Nat) (w' : World), Stay bs w w' → Stay bs w (w'.setCells b o vs)
  | [], _, _, h => h
  | v :: r, o, w', h => Stay.setCells hb r (o + 1) _ (h.setCell (a := ⟨b, o, none⟩) hb v)
theorem Stay.drew {bs : List Nat} {w w' : World} (h : Stay bs w w') : Stay bs w w'.drew := h
theorem Stay.mono {bs cs : List Nat} {w w' : World} (h : Stay bs w w') (hs : ∀ x ∈ bs, x ∈ cs) : Stay cs w w' := ⟨h.1, fun x hx hm => h.2 x hx fun hb => hm (hs x hb)⟩
theorem Stay.trans {bs : List Nat} {w w' w'' : World} (h : Stay bs w w') (h' : Stay bs w' w'') : Stay bs w w'' :=
  ⟨Nat.le_trans h.1 h'.1, fun x hx hm => by rw [h'.2 x (by have := h.1; omega) hm, h.2 x hx hm]⟩

theorem DropTo.drew {w wx : World} {d bI bK : Nat} {ep : Int} {ids kids : Value} {is ks : List Value} (h : DropTo w wx d bI bK ep ids kids is ks) : DropTo w wx.drew d bI bK ep ids kids is ks :=
  ⟨h.node, h.ids, h.kids, h.stay, fun B h1 h2 h3 => (h.below B h1 h2 h3).drew⟩
theorem DropTo.setIds {w wx : World} {d bI bK : Nat} {ep : Int} {ids kids : Value} {is ks : List Value} (h : DropTo w wx d bI bK ep ids kids is ks) (h1 : d ≠ bI) (h3 : bI ≠ bK) (o : Nat) (vs : List Value) (hl : o + vs.length ≤ is.length) :
    DropTo w (wx.setCells bI o vs) d bI bK ep ids kids (is.take o ++ vs ++ is.drop (o + vs.length)) ks :=
  ⟨Blk.setCells_ne h1 _ _ _ h.node, Blk.setCells _ _ _ _ h.ids hl, Blk.setCells_ne (Ne.symm h3) _ _ _ h.kids, Stay.setCells (by simp) _ _ _ h.stay, fun B b1 b2 b3 => below_setCells b2 _ _ _ (h.below B b1 b2 b3)⟩
theorem DropTo.setKids {w wx : World} {d bI bK : Nat} {ep : Int} {ids kids : Value} {is ks : List Value} (h : DropTo w wx d bI bK ep ids kids is ks) (h2 : d ≠ bK) (h3 : bI ≠ bK) (o : Nat) (vs : List Value) (hl : o + vs.length ≤ ks.length) :
    DropTo w (wx.setCells bK o vs) d bI bK ep ids kids is (ks.take o ++ vs ++ ks.drop (o + vs.length)) :=
  ⟨Blk.setCells_ne h2 _ _ _ h.node, Blk.setCells_ne h3 _ _ _ h.ids, Blk.setCells _ _ _ _ h.kids hl, Stay.setCells (by simp) _ _ _ h.stay, fun B b1 b2 b3 => below_setCells b3 _ _ _ (h.below B b1 b2 b3)⟩
theorem DropTo.setKid {w wx : World} {d bI bK : Nat} {ep : Int} {ids kids : Value} {is ks : List Value} (h : DropTo w wx d bI bK ep ids kids is ks) (h2 : d ≠ bK) (h3 : bI ≠ bK) (o : Nat) (v : Value) :
    DropTo w (wx.setCell ⟨bK, o, none⟩ v) d bI bK ep ids kids is (ks.set o v) :=
  ⟨Blk.set_ne h.node _ h2 _, h.ids.set_ne _ h3 _, h.kids.set _ _, h.stay.setCell (by simp) _, fun B b1 b2 b3 => (h.below B b1 b2 b3).setCell b3 _⟩
theorem DropTo.setNode1 {w wx : World} {d bI bK : Nat} {ep : Int} {ids kids : Value} {is ks : List Value} (h : DropTo w wx d bI bK ep ids kids is ks) (h1 : d ≠ bI) (h2 : d ≠ bK) (v : Value) :
    DropTo w (wx.setCell ⟨d, 1, none⟩ v) d bI bK ep v kids is ks :=
  ⟨Blk.set h.node 1 v, h.ids.set_ne _ (Ne.symm h1) _, h.kids.set_ne _ (Ne.symm h2) _, h.stay.setCell (by simp) _, fun B b1 b2 b3 => (h.below B b1 b2 b3).setCell b1 _⟩
theorem DropTo.setNode2 {w wx : World} {d bI bK : Nat} {ep : Int} {ids kids : Value} {is ks : List Value} (h : DropTo w wx d bI bK ep ids kids is ks) (h1 : d ≠ bI) (h2 : d ≠ bK) (v : Value) :
    DropTo w (wx.setCell ⟨d, 2, none⟩ v) d bI bK ep ids v is ks :=
  ⟨Blk.set h.node 2 v, h.ids.set_ne _ (Ne.symm h1) _, h.kids.set_ne _ (Ne.symm h2) _, h.stay.setCell (by simp) _, fun B b1 b2 b3 => (h.below B b1 b2 b3).setCell b1 _⟩

theorem erase_cells (xs : List Value) (m k : Nat) (hx : xs.length = m) (hk : k < m) : xs.take k ++ xs.drop (k + 1) ++ xs.drop (k + (xs.drop (k + 1)).length) = xs.eraseIdx k ++ xs.drop (m - 1) := by
  rw [List.eraseIdx_eq_take_drop_succ, List.length_drop, hx, show k + (m - (k + 1)) = m - 1 by omega]

set_option maxHeartbeats 2000000 in
set_option maxRecDepth 1000000 in
theorem drop_kid (d bI bK m k : Nat) (ep : Int) (bs : List Int) (ps : List Value) (hbs : bs.length = m) (hps : ps.length = m) (hk : k < m) (hm : m ≤ 65536) (hp1 : ∀ v ∈ ps, v.oneCell' = true) (w : World)
    (hd : Node w d ep (.slice (some ⟨bI, 0, none⟩) m m) (.slice (some ⟨bK, 0, none⟩) m m)) (hI : Blk w bI 2 (ints .i64 bs)) (hK : Blk w bK 40 ps) (h1 : d ≠ bI) (h2 : d ≠ bK) (h3 : bI ≠ bK) :
    Calls Try.prog 49 #[.pointer (some ⟨d, 0, none⟩), .int .i64 k] w fun r w' => r = .returned (.tuple #[]) ∧
      ∃ ri rk, DropTo w w' d bI bK ep (.slice (some ⟨bI, 0, none⟩) (m - 1) m) (.slice (some ⟨bK, 0, none⟩) (m - 1) m) (ints .i64 (bs.eraseIdx k) ++ ri) (ps.eraseIdx k ++ rk) := by
  have d0 : DropTo w w.drew d bI bK ep (.slice (some ⟨bI, 0, none⟩) m m) (.slice (some ⟨bK, 0, none⟩) m m) (ints .i64 bs) ps := ⟨hd, hI, hK, Stay.refl _ _, fun B _ _ _ => (Below.refl _ _).drew⟩
  obtain ⟨A, hA, hnews⟩ := tail_at (m := m) (k := k) (by rw [ints_len]; exact hbs) hI
  obtain ⟨nw, hnw⟩ : ∃ nw, nw = (ints .i64 bs).drop (k + 1) := ⟨_, rfl⟩
  have hl : nw.length = m - (k + 1) := by rw [hnw]; simp [ints_len, hbs]
  obtain ⟨i0, hi0, hz0, hz1, hz2⟩ := info_parts info2
  have a1 := run_append_room_cells (P := Try.prog) w.drew 30 30 2 i0 Try.underlying30 hi0 bI 0 k m A (m - (k + 1)) (m - (k + 1)) nw (by rw [hl, hz1]; simp) (by rw [hnw]; exact hnews) (fun u hu => ints_one _ _ u (List.mem_of_mem_drop (hnw ▸ hu))) (by omega)
    (fun j hj => by
      rw [Blk.cell d0.ids, hz1, List.getElem?_eq_getElem (by rw [ints_len]; omega)]
      rfl) (fun j hj => Blk.frozen d0.ids _)
  rw [hz1, Nat.mul_one, Nat.zero_add, show k + (m - (k + 1)) = m - 1 by omega] at a1
  have d1 := d0.setIds h1 h3 k nw (by rw [hl, ints_len]; omega)
  have e1 := erase_cells (ints .i64 bs) m k (by rw [ints_len]; exact hbs) hk
  rw [hnw, e1, ← hnw] at d1
  have d2 := d1.setNode1 h1 h2 (.slice (some ⟨bI, 0, none⟩) (m - 1) m)
  have q1 := hd.ids
  have q2 := d1.node.ids
  have f2 := Blk.frozen d1.node 1
  have A1 := hide a1
  have D2 := hide d2
  clear a1 hnw hnews d0 d1 d2 e1 hd hI hK hi0 hz0 hz1 hz2 hl
  have hic : k ≤ m := by omega
  have hwr : IntKind.i64.wrap ((k : Int) + 1) = (k : Int) + 1 := by rw [IntKind.wrap_i64]; omega
  have hp0 : (0 : Int) ≤ (k : Int) + 1 := by omega
  have hp1' : (k : Int) + 1 ≤ (m : Int) := by omega
  have hp2 : ((k : Int) + 1).toNat = k + 1 := by omega
  have HP := hide hp1
  have hne1 : d ≠ bI := h1
  clear hp1
  go_enter Try.func49, Try.ntmps49
  go_wp2_with fail
  go_cut [0] (fun x wx => x = .pointer (some ⟨d, 0, none⟩) ∧ DropTo w wx d bI bK ep (.slice (some ⟨bI, 0, none⟩) (m - 1) m) (.slice (some ⟨bK, 0, none⟩) m m) ((ints .i64 bs).eraseIdx k ++ (ints .i64 bs).drop (m - 1)) ps)
  case first =>
    go_region_law (refine step_append_known rfl (.tmp 10) (.tmp 17) 30 rfl (.slice (some ⟨bI, 0, none⟩) k m) (.slice (some A) (m - (k + 1)) (m - (k + 1))) _ _ (by simp [Act.eval, Act.put]) (by simp [Act.eval, Act.put]) A1.out ?_)
    all_goals (go_wp2_with fail; go_meet; exact ⟨rfl, D2.out⟩)
  case rest =>
    obtain ⟨rfl, hd2⟩ := hcut
    have d0 := hd2.drew
    obtain ⟨A2, hA2, hnews⟩ := tail_at (m := m) (k := k) hps d0.kids
    obtain ⟨nk, hnk⟩ : ∃ nk, nk = ps.drop (k + 1) := ⟨_, rfl⟩
    have hl : nk.length = m - (k + 1) := by rw [hnk]; simp [hps]
    have a1 := run_copy_cells (P := Try.prog) wc.drew 39 39 3 40 bK k (m - k) (m - k) A2 (m - (k + 1)) (m - (k + 1)) nk Try.underlying39 (by kernel_rfl) (by rw [hl]; show _ = min _ _; omega) (by rw [hnk]; exact hnews)
      (fun j hj => by
        rw [Blk.cell d0.kids, List.getElem?_eq_getElem (by omega)]
        rfl) (fun j hj => Blk.frozen d0.kids _) (fun u hu => HP.out u (List.mem_of_mem_drop (hnk ▸ hu)))
    have d1 := d0.setKids h2 h3 k nk (by rw [hl, hps]; omega)
    have e1 := erase_cells ps m k hps hk
    rw [hnk, e1, ← hnk] at d1
    have q3 := hd2.node.kids
    have A1' := hide a1
    have D1 := hide d1
    have hAk : ¬ m = k := by omega
    clear a1 hnk hnews d0 d1 e1 hd2 hl q1 q2 f2 hA
    go_wp2_with fail
    go_cut [0] (fun x wx => x = .pointer (some ⟨d, 0, none⟩) ∧ DropTo w wx d bI bK ep (.slice (some ⟨bI, 0, none⟩) (m - 1) m) (.slice (some ⟨bK, 0, none⟩) m m) ((ints .i64 bs).eraseIdx k ++ (ints .i64 bs).drop (m - 1)) (ps.eraseIdx k ++ ps.drop (m - 1)))
    case first =>
      go_region_law (refine step_copy_known rfl (.tmp 26) (.tmp 33) 39 rfl (.slice (some ⟨bK, k, none⟩) (m - k) (m - k)) (.slice (some A2) (m - (k + 1)) (m - (k + 1))) _ _ (by simp [Act.eval, Act.put]) (by simp [Act.eval, Act.put]) A1'.out ?_)
      all_goals (go_wp2_with fail; go_meet; exact ⟨rfl, D1.out⟩)
    case rest =>
      obtain ⟨rfl, hd3⟩ := hcut
      have hle : (ps.eraseIdx k).length = m - 1 := by rw [List.length_eraseIdx, if_pos (by omega), hps]
      have d0 := hd3.drew
      have d1 := d0.setKid h2 h3 (m - 1) (.pointer none)
      have e1 : (ps.eraseIdx k ++ ps.drop (m - 1)).set (m - 1) (.pointer none) = ps.eraseIdx k ++ (ps.drop (m - 1)).set 0 (.pointer none) := by
        rw [List.set_append_right _ _ (by omega), hle, Nat.sub_self]
      rw [e1] at d1
      have q4 := hd3.node.kids
      obtain ⟨cv, q5⟩ : ∃ cv, wc.cell? ⟨bK, m - 1, none⟩ = some cv := ⟨_, by rw [hd3.kids.cell]; exact List.getElem?_eq_getElem (by simp [hle, hps]; omega)⟩
      have f5 := hd3.kids.frozen (m - 1)
      have D3 := hide d1
      have j1 : IntKind.i64.wrap ((m : Int) - 1) = ((m - 1 : Nat) : Int) := by rw [IntKind.wrap_i64]; omega
      have j2 : ((m - 1 : Nat) : Int) < (m : Int) := by omega
      clear hd3 d0 d1 e1 q3 hA2
      go_wp2_with fail
      go_cut [0] (fun x wx => x = .pointer (some ⟨d, 0, none⟩) ∧ DropTo w wx d bI bK ep (.slice (some ⟨bI, 0, none⟩) (m - 1) m) (.slice (some ⟨bK, 0, none⟩) m m) ((ints .i64 bs).eraseIdx k ++ (ints .i64 bs).drop (m - 1)) (ps.eraseIdx k ++ (ps.drop (m - 1)).set 0 (.pointer none)))
      case first =>
        go_region
        all_goals (go_wp2_with fail; go_meet; exact ⟨rfl, D3.out⟩)
      case rest =>
        obtain ⟨rfl, hd4⟩ := hcut
        have d0 := hd4.drew
        have d1 := d0.setNode2 h1 h2 (.slice (some ⟨bK, 0, none⟩) (m - 1) m)
        have e2 : (ints .i64 bs).eraseIdx k = ints .i64 (bs.eraseIdx k) := by
          rw [List.eraseIdx_eq_take_drop_succ, List.eraseIdx_eq_take_drop_succ, ← ints_app]
          simp [ints]
        rw [e2] at d1
        have q6 := hd4.node.kids
        have f6 := Blk.frozen hd4.node 2
        have D4 := hide d1
        have j3 : ((m - 1 : Nat) : Int) ≤ (m : Int) := by omega
        clear hd4 d0 d1 e2 q4 q5 f5
        go_wp2_with fail
        go_region
        all_goals (go_wp2_with fail; go_end0; exact ⟨rfl, _, _, D4.out⟩)
end Go.Proofs.Qxb6602784a.grf
