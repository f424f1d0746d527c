import Derived.Test.Qxb6602784aRebL
namespace Go.Proofs.Qxb6602784a.grf
open Go.ChangeShapes Go.WideShapes Go.ChangeAt Go.RowKit Go.Maps
set_option linter.unusedSimpArgs false
set_option linter.unusedVariables false

/-- A list of blocks as pointers. -/
def ptrs (xl : List Nat) : List Value := xl.map fun x => .pointer (some ⟨x, 0, none⟩)
theorem ptrs_len (xl : List Nat) : (ptrs xl).length = xl.length := by simp [ptrs]
theorem ptrs_at (xl : List Nat) (i : Nat) (h : i < xl.length) : (ptrs xl)[i]? = some (.pointer (some ⟨xl.getD i 0, 0, none⟩)) := by simp [ptrs, h]
theorem ptrs_one (xl : List Nat) : ∀ v ∈ ptrs xl, v.oneCell' = true := by
  intro v hv
  simp only [ptrs, List.mem_map] at hv
  obtain ⟨s, _, rfl⟩ := hv
  rfl

theorem Leaf.below {w w' : World} {d : Nat} {ep : Int} {xs : List Int} (h : Leaf w d ep xs) (hb : Below w.heap.size w w') : Leaf w' d ep xs := by
  obtain ⟨v, h1, h2⟩ := h
  exact ⟨v, Blk.below h1 hb (Blk.lt h1), h2.below hb⟩
theorem Blk.belowS {w w' : World} {b : Nat} {t : TypeId} {xs : List Value} (h : Blk w b t xs) (hb : Below w.heap.size w w') : Blk w' b t xs := h.below hb h.lt

/-- What stands of the law's own rows, and of the old kids. -/
structure Base (w : World) (b0 b1 b2 bO m : Nat) (bs es : List Int) (vs : List Value) (xl : List Nat) (LL : List (List Int)) : Prop where
  b0 : Blk w b0 2 (ints .i64 bs)
  b1 : Blk w b1 30 vs
  b2 : Blk w b2 33 (ints .u64 es)
  bO : Blk w bO 40 (ptrs xl)
  lb : bs.length = m
  lv : vs.length = m
  le : es.length = m
  lx : xl.length = m
  rows : ∀ i, i < m → Row w (vs.getD i (.slice none 0 0)) (ints .i64 (LL.getD i []))
  leaf : ∀ i, i < m → Leaf w (xl.getD i 0) (es.getD i 0) (LL.getD i [])

theorem Base.below {w w' : World} {b0 b1 b2 bO m : Nat} {bs es : List Int} {vs : List Value} {xl : List Nat} {LL : List (List Int)} (h : Base w b0 b1 b2 bO m bs es vs xl LL) (hb : Below w.heap.size w w') : Base w' b0 b1 b2 bO m bs es vs xl LL :=
  ⟨h.b0.belowS hb, h.b1.belowS hb, h.b2.belowS hb, h.bO.belowS hb, h.lb, h.lv, h.le, h.lx, fun i hi => (h.rows i hi).below hb, fun i hi => (h.leaf i hi).below hb⟩
theorem Base.drewN {w : World} {b0 b1 b2 bO m : Nat} {bs es : List Int} {vs : List Value} {xl : List Nat} {LL : List (List Int)} (h : Base w b0 b1 b2 bO m bs es vs xl LL) (n : Nat) : Base (w.drewN n) b0 b1 b2 bO m bs es vs xl LL :=
  ⟨h.b0, h.b1, h.b2, h.bO, h.lb, h.lv, h.le, h.lx, h.rows, h.leaf⟩

/-- The node behind a join. -/
def EndJ (w : World) (bI bK m j : Nat) (e : Int) (bs : List Int) (xl : List Nat) (L : List Int) : Prop :=
  ∃ p ri rk, Leaf w p e L ∧ (∀ i, i < m → p ≠ xl.getD i 0) ∧ Blk w bI 2 (ints .i64 (bs.eraseIdx (j + 1)) ++ ri) ∧ Blk w bK 40 (((ptrs xl).set j (.pointer (some ⟨p, 0, none⟩))).eraseIdx (j + 1) ++ rk)
/-- The node behind a split. -/
def EndS (w : World) (bI bK m j : Nat) (e : Int) (bs : List Int) (xl : List Nat) (L : List Int) : Prop :=
  ∃ p q, p ≠ q ∧ (∀ i, i < m → p ≠ xl.getD i 0) ∧ (∀ i, i < m → q ≠ xl.getD i 0) ∧ Leaf w p e (L.take (L.length / 2)) ∧ Leaf w q e (L.drop (L.length / 2)) ∧ Blk w bI 2 (ints .i64 (bs.set (j + 1) (L.getD (L.length / 2) 0)))
    ∧ Blk w bK 40 (((ptrs xl).set j (.pointer (some ⟨p, 0, none⟩))).set (j + 1) (.pointer (some ⟨q, 0, none⟩)))

theorem EndJ.below {w w' : World} {bI bK m j : Nat} {e : Int} {bs : List Int} {xl : List Nat} {L : List Int} (h : EndJ w bI bK m j e bs xl L) (hb : Below w.heap.size w w') : EndJ w' bI bK m j e bs xl L := by
  obtain ⟨p, ri, rk, h1, h2, h3, h4⟩ := h
  exact ⟨p, ri, rk, h1.below hb, h2, h3.belowS hb, h4.belowS hb⟩
theorem EndS.below {w w' : World} {bI bK m j : Nat} {e : Int} {bs : List Int} {xl : List Nat} {L : List Int} (h : EndS w bI bK m j e bs xl L) (hb : Below w.heap.size w w') : EndS w' bI bK m j e bs xl L := by
  obtain ⟨p, q, h1, h2, h3, h4, h5, h6, h7⟩ := h
  exact ⟨p, q, h1, h2, h3, h4.below hb, h5.below hb, h6.belowS hb, h7.belowS hb⟩

theorem Leaf.blk {w : World} {d : Nat} {ep : Int} {xs : List Int} (h : Leaf w d ep xs) : ∃ t c, Blk w d t c := by
  obtain ⟨v, h1, _⟩ := h
  exact ⟨_, _, h1⟩

theorem row_blk {w : World} {g : Nat} {L : List Int} (h : Blk w g 2 (ints .i64 L)) (hl : L.length ≤ 2097152) : Row w (.slice (some ⟨g, 0, none⟩) L.length L.length) (ints .i64 L) :=
  .inr ⟨⟨g, 0, none⟩, L.length, by rw [ints_len], by rw [ints_len]; exact Nat.le_refl _, by unfold maxLen; omega, fun i y hi => by rw [add_plain, Nat.zero_add, h.cell]; exact hi⟩

theorem lawJ_of {N : Nat} {W0 w : World} {b0 b1 b2 bO bI bK j m g : Nat} {e : Int} {bs es L : List Int} {vs : List Value} {xl : List Nat} {LL : List (List Int)} (hj : j + 1 < m) (hB : Base w b0 b1 b2 bO m bs es vs xl LL) (hE : EndJ w bI bK m j e bs xl L) (hg : Blk w g 2 (ints .i64 L)) (hL : L.length ≤ 2097152) (hb : Below N W0 w) :
    ∃ p, LawJ N W0 w b0 bO bI bK j m p g L.length e bs L xl := by
  obtain ⟨p, ri, rk, h1, h2, h3, h4⟩ := hE
  have lb := hB.lb
  have lx := hB.lx
  refine ⟨p, ⟨fun i hi => hB.b0.int i (by omega), fun i hi => by rw [hB.bO.cell, ptrs_at _ _ (by omega)], fun i hi => ?_, fun i hi hne => ?_, ?_, h1, row_blk hg hL, h1.blk, (hB.leaf j (by omega)).blk, (hB.leaf (j + 1) (by omega)).blk, h2 j (by omega), h2 (j + 1) (by omega), hb⟩⟩
  · have hl : (bs.eraseIdx (j + 1)).length = m - 1 := by rw [List.length_eraseIdx, if_pos (by omega), lb]
    rw [h3.cell, List.getElem?_append_left (by rw [ints_len]; omega), ints_at _ _ _ (by omega)]
    congr 2
    rw [List.getD_eq_getElem?_getD, List.getElem?_eraseIdx, List.getD_eq_getElem?_getD]
    unfold src
    by_cases c : j < i
    · rw [if_neg (by omega), if_pos c]
    · rw [if_pos (by omega), if_neg c]
  · have hl : (((ptrs xl).set j (.pointer (some ⟨p, 0, none⟩))).eraseIdx (j + 1)).length = m - 1 := by rw [List.length_eraseIdx, List.length_set, ptrs_len, if_pos (by omega), lx]
    rw [h4.cell, List.getElem?_append_left (by omega), List.getElem?_eraseIdx]
    unfold src
    by_cases c : j < i
    · rw [if_neg (by omega), if_pos c, List.getElem?_set_ne (by omega), ptrs_at _ _ (by omega)]
    · rw [if_pos (by omega), if_neg c, List.getElem?_set_ne (by omega), ptrs_at _ _ (by omega)]
  · have hl : (((ptrs xl).set j (.pointer (some ⟨p, 0, none⟩))).eraseIdx (j + 1)).length = m - 1 := by rw [List.length_eraseIdx, List.length_set, ptrs_len, if_pos (by omega), lx]
    rw [h4.cell, List.getElem?_append_left (by omega), List.getElem?_eraseIdx, if_pos (by omega), List.getElem?_set_self (by rw [ptrs_len]; omega)]

theorem lawS_of {N : Nat} {W0 w : World} {b0 b1 b2 bO bI bK j m g : Nat} {e : Int} {bs es L : List Int} {vs : List Value} {xl : List Nat} {LL : List (List Int)} (hj : j + 1 < m) (hB : Base w b0 b1 b2 bO m bs es vs xl LL) (hE : EndS w bI bK m j e bs xl L) (hg : Blk w g 2 (ints .i64 L)) (hL0 : 64 < L.length) (hL : L.length ≤ 2097152) (hb : Below N W0 w) :
    ∃ p q, LawS N W0 w b0 bO bI bK j m p q g L.length (L.length / 2) e bs L xl := by
  obtain ⟨p, q, h0, h1, h2, h3, h4, h5, h6⟩ := hE
  have lb := hB.lb
  have lx := hB.lx
  refine ⟨p, q, ⟨fun i hi => hB.b0.int i (by omega), fun i hi => by rw [hB.bO.cell, ptrs_at _ _ (by omega)], fun i hi hne => ?_, ?_, hg.int _ (by omega), fun i hi n1 n2 => ?_, ?_, ?_, h3, h4, ?_, ?_, h3.blk, h4.blk, (hB.leaf j (by omega)).blk, (hB.leaf (j + 1) (by omega)).blk, h1 j (by omega), h1 (j + 1) (by omega), h2 j (by omega), h2 (j + 1) (by omega), h0, hb⟩⟩
  · rw [h5.int i (by rw [List.length_set]; omega)]
    congr 2
    rw [List.getD_eq_getElem?_getD, List.getElem?_set_ne (by omega), List.getD_eq_getElem?_getD]
  · rw [h5.int (j + 1) (by rw [List.length_set]; omega)]
    congr 2
    rw [List.getD_eq_getElem?_getD, List.getElem?_set_self (by omega)]
    rfl
  · rw [h6.cell, List.getElem?_set_ne (by omega), List.getElem?_set_ne (by omega), ptrs_at _ _ (by omega)]
  · rw [h6.cell, List.getElem?_set_ne (by omega), List.getElem?_set_self (by rw [ptrs_len]; omega)]
  · rw [h6.cell, List.getElem?_set_self (by rw [List.length_set, ptrs_len]; omega)]
  · refine .inr ⟨⟨g, 0, none⟩, L.length, ?_, ?_, by unfold maxLen; omega, fun i y hi => ?_⟩
    · rw [ints_len, List.length_take]; congr 1; omega
    · rw [ints_len, List.length_take]; omega
    · rw [show ints .i64 (List.take (L.length / 2) L) = (ints .i64 L).take (L.length / 2) by simp [ints], List.getElem?_take] at hi
      split at hi
      · rw [add_plain, Nat.zero_add, hg.cell]; exact hi
      · cases hi
  · refine .inr ⟨⟨g, L.length / 2, none⟩, L.length - L.length / 2, ?_, ?_, by unfold maxLen; omega, fun i y hi => ?_⟩
    · rw [ints_len, List.length_drop]
    · rw [ints_len, List.length_drop]; exact Nat.le_refl _
    · rw [show ints .i64 (List.drop (L.length / 2) L) = (ints .i64 L).drop (L.length / 2) by simp [ints], List.getElem?_drop] at hi
      rw [add_plain, hg.cell]; exact hi
end Go.Proofs.Qxb6602784a.grf
