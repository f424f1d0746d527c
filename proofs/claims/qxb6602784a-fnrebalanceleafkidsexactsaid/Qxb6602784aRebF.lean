import Derived.Test.Qxb6602784aRebE
import Derived.Maps.AppendAt
namespace Go.Proofs.Qxb6602784a.grf
open Go.ChangeShapes Go.WideShapes Go.ChangeAt Go.RowKit Go.Maps
set_option linter.unusedSimpArgs false
set_option linter.unusedVariables false

theorem neq39 (a : Option Addr) (n c : Nat) : ∀ w : World, Sem.run Try.prog (binOp .neq 39 (.slice a n c) (.slice none 0 0)) w = .ok (.bool (!a.isNone)) w :=
  fun w => run_neq_slice_nil_any w 39 40 a n c 0 0 Try.underlying39

/-- The outcome of 'append([]int64(nil), xs[at:]...)'. -/
theorem append_tail {w : World} {b n at' cap : Nat} {xs : List Int} (hx : xs.length = n) (ha : at' < n) (hn : n ≤ 2097152) (hb : Blk w b 2 (ints .i64 xs)) :
    ∃ g c w', Sem.run Try.prog (Builtin.append_ #[30, 30] 30 #[.slice none 0 0, .slice (some ⟨b, at', none⟩) (n - at') cap]) w = .ok (.slice (some ⟨g, 0, none⟩) (n - at') c) w'
      ∧ Row w' (.slice (some ⟨g, 0, none⟩) (n - at') c) (ints .i64 (xs.drop at')) ∧ w.heap.size ≤ g ∧ g < w'.heap.size ∧ Below w.heap.size w w' := by
  obtain ⟨i0, hi, hz0, hz1, hz2⟩ := info_parts info2
  obtain ⟨v', w', hr, h2, h3, h4, h5⟩ := run_append_own_at (P := Try.prog) w w.heap.size 30 30 2 i0 (.int .i64 0) 1 8 Try.underlying30 hi hz0 hz1 hz2 rfl (by decide) (.slice none 0 0) 0 [] (World.ownsRow_nil _ _ _ _) ⟨b, at', none⟩ (n - at') cap (ints .i64 (xs.drop at'))
    (by rw [ints_len]; simp; omega) (fun j u hj => by
      rw [add_plain, hb.cell]
      have hj2 : j < (xs.drop at').length := by
        have := (List.getElem?_eq_some_iff.1 hj).1
        rwa [ints_len] at this
      rw [ints_at _ _ _ hj2] at hj
      rw [ints_at _ _ _ (by simp at hj2; omega), ← hj]
      simp [List.getD_eq_getElem?_getD, List.getElem?_drop]) (ints_one _ _) (by unfold maxLen; omega) (by omega) (Nat.le_refl _)
  have hp : (n - at') ≠ 0 := by omega
  rw [Nat.zero_add, List.nil_append] at h2
  have hcell := fun g => h2.cells (g := g)
  rcases h2 with ⟨hl, ⟨_, h0⟩ | ⟨g, c, cur, rfl, hg, hh, hc1, hc2, hc3, hc4⟩⟩
  · exact absurd h0 hp
  · refine ⟨g, c, w', hr, .inr ⟨⟨g, 0, none⟩, c, ?_, ?_, hc2, ?_⟩, hg, ?_, ?_⟩
    · rw [ints_len]; simp [hx]
    · rw [ints_len]; simp; omega
    · exact hcell g rfl
    · apply Decidable.byContradiction
      intro hn
      rw [Array.getElem?_eq_none (by omega)] at hh
      cases hh
    · exact (Below.refl _ _).grown h3 (Nat.le_refl _) (fun j hj => by cases hj)

/-- All blocks of w stay as they are, but those in the list. -/
def Stay (bs : List Nat) (w w' : World) : Prop := w.heap.size ≤ w'.heap.size ∧ ∀ x, x < w.heap.size → x ∉ bs → w'.heap[x]? = w.heap[x]?

theorem Blk.stay {bs : List Nat} {w w' : World} {b : Nat} {t : TypeId} {xs : List Value} (h : Blk w b t xs) (hs : Stay bs w w') (hb : b ∉ bs) : Blk w' b t xs := by
  have hl := h.lt
  unfold Blk at *
  rw [hs.2 b hl hb]
  exact h

set_option maxHeartbeats 2000000 in
theorem split_leaf (d b n at' cap : Nat) (ep e : Int) (xs : List Int) (hx : xs.length = n) (ha : at' < n) (hn : n ≤ 2097152) (hc : n ≤ cap) (hcm : cap ≤ maxLen) (w : World) (hd : Node w d ep (.slice (some ⟨b, 0, none⟩) n cap) (.slice none 0 0)) (hb : Blk w b 2 (ints .i64 xs)) (hdb : d ≠ b) :
    Calls Try.prog 48 #[.pointer (some ⟨d, 0, none⟩), .int .u64 e, .int .i64 at'] w fun r w' => ∃ p g c, r = .returned (.pointer (some ⟨p, 0, none⟩)) ∧ w.heap.size ≤ p ∧ w.heap.size ≤ g
      ∧ Node w' p e (.slice (some ⟨g, 0, none⟩) (n - at') c) (.slice none 0 0) ∧ Row w' (.slice (some ⟨g, 0, none⟩) (n - at') c) (ints .i64 (xs.drop at'))
      ∧ Node w' d ep (.slice (some ⟨b, 0, none⟩) at' cap) (.slice none 0 0) ∧ Stay [d] w w' ∧ ∀ B, B ≤ d → Below B w w' := by
  obtain ⟨g, c, w1, hr, hrow, hg, hgl, hbel⟩ := append_tail (cap := cap - at') hx ha hn hb
  have q1 := hd.ids
  have hdl := Blk.lt hd
  have hbl := hb.lt
  have hz := hbel.size
  obtain ⟨w2, hw2⟩ : ∃ w2, w2 = w1.alloc (.cells #[.int .u64 e, .slice (some ⟨g, 0, none⟩) (n - at') c, .slice none 0 0] 61) := ⟨_, rfl⟩
  have hd1 := Blk.below hd hbel hdl
  have hd2 : Node w2 d ep (.slice (some ⟨b, 0, none⟩) n cap) (.slice none 0 0) := by rw [hw2]; exact Blk.alloc hd1 _
  have hp2 : Node w2 w1.heap.size e (.slice (some ⟨g, 0, none⟩) (n - at') c) (.slice none 0 0) := by rw [hw2]; exact Blk.new w1 _ 61
  have hrow2 : Row w2 (.slice (some ⟨g, 0, none⟩) (n - at') c) (ints .i64 (xs.drop at')) := by rw [hw2]; exact hrow.alloc _
  have hbel2 : Below w.heap.size w w2 := by rw [hw2]; exact hbel.alloc hz _
  have hd3 : Node (w2.setCell ⟨d, 1, none⟩ (.slice (some ⟨b, 0, none⟩) at' cap)) d ep (.slice (some ⟨b, 0, none⟩) at' cap) (.slice none 0 0) := Blk.set hd2 1 _
  have hp3 : Node (w2.setCell ⟨d, 1, none⟩ (.slice (some ⟨b, 0, none⟩) at' cap)) w1.heap.size e (.slice (some ⟨g, 0, none⟩) (n - at') c) (.slice none 0 0) := Blk.set_ne hp2 _ (by simp; omega) _
  have hrow3 : Row (w2.setCell ⟨d, 1, none⟩ (.slice (some ⟨b, 0, none⟩) at' cap)) (.slice (some ⟨g, 0, none⟩) (n - at') c) (ints .i64 (xs.drop at')) := by
    rcases hrow2 with h | ⟨x, cap', h1, h2, h3, h4⟩
    · exact .inl h
    · refine .inr ⟨x, cap', h1, h2, h3, fun i y hi => ?_⟩
      rw [World.cell?_setCell_other]
      · exact h4 i y hi
      · intro e2
        have e3 : x.block = d := by rw [← add_block x i, ← e2]
        simp at h1
        rw [← h1.1] at e3
        simp at e3
        omega
  have hst : Stay [d] w (w2.setCell ⟨d, 1, none⟩ (.slice (some ⟨b, 0, none⟩) at' cap)) := by
    refine ⟨by have := hbel2.size; simpa using this, fun x hx hm => ?_⟩
    rw [Below.heap_setCell _ _ _ _ (by simpa using hm)]
    exact hbel2.block x hx
  have hbb : ∀ B, B ≤ d → Below B w (w2.setCell ⟨d, 1, none⟩ (.slice (some ⟨b, 0, none⟩) at' cap)) := fun B hB => (hbel2.mono (by omega)).setCell hB _
  have q2 := hd2.ids
  have q3 := Blk.frozen hd2 1
  have q4 := hd3.kids
  have R := hide hr
  have H1 := hide hd3
  have H2 := hide hp3
  have H3 := hide hrow3
  have H4 := hide hst
  have H5 := hide hbb
  have hnn := neq39 none 0 0
  have i1 : (at' : Int) ≤ (n : Int) := by omega
  have i2 : (at' : Int) ≤ (cap : Int) := by omega
  rw [hw2] at q2 q3 q4
  have HW := hide hw2
  clear hr hd3 hp3 hrow3 hst hbb hd2 hp2 hrow2 hbel2 hd1 hd hb hrow hbel hw2 hx
  go_enter Try.func48, Try.ntmps48
  go_wp2_with (at_builtin; refine wpList_append_known _ _ rfl _ _ 30 rfl _ _ _ rfl rfl R.out ?_)
  go_ret
  rw [← HW.out]
  exact ⟨_, g, c, rfl, hz, hg, H2.out, H3.out, H1.out, H4.out, H5.out⟩
end Go.Proofs.Qxb6602784a.grf
