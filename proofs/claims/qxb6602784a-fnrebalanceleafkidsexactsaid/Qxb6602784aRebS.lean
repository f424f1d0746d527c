import Derived.Test.Qxb6602784aRebR
namespace Go.Proofs.Qxb6602784a.grf
open Go.ChangeShapes Go.WideShapes Go.ChangeAt Go.RowKit Go.Maps
set_option linter.unusedSimpArgs false
set_option linter.unusedVariables false


set_option maxHeartbeats 8000000 in
set_option maxRecDepth 1000000 in
theorem law8_some (a0 a2 : Option Addr) (b off n0 c0 m cap n2 c2 : Nat) (e k : Int) (bs es : List Int) (vs : List Value) (LL : List (List Int)) (hn0 : n0 ≤ 9223372036854775807) (hn : m ≤ 9223372036854775807) (hn2 : n2 ≤ 9223372036854775807) (h1 : 1 ≤ m) (lb : bs.length = n0) (le : es.length = n2) (W : World)
    (h0 : Row W (.slice a0 n0 c0) (ints .i64 bs)) (hl : LCells W b off m vs LL) (h2 : Row W (.slice a2 n2 c2) (ints .u64 es)) :
    Calls Try.prog 8 #[.slice a0 n0 c0, .slice (some ⟨b, off, none⟩) m cap, .slice a2 n2 c2, .int .u64 e, .int .i64 k] W fun r w' => r = .returned (.bool true) ∧ Below W.heap.size W w' := by
  have H0 := hide h0
  have HL := hide hl
  have H2 := hide h2
  have HLB := hide lb
  have HLE := hide le
  clear h0 hl h2 lb le
  go_enter Try.func8, Try.ntmps8
  go_wp2_with fail
  refine (zz22_some a0 a2 b off m n0 c0 cap n2 c2 e k vs LL hn0 hn hn2 W HL.out).mono ?_
  rintro r w' ⟨⟨bb, rfl⟩, rfl⟩
  dsimp only
  cases bb with
  | false =>
    go_wp2
    go_ret
    exact ⟨rfl, Below.refl _ _⟩
  | true =>
    by_cases g1 : 65536 < n0
    · have g1' : (65536 : Int) < (n0 : Int) := by omega
      go_wp2
      go_ret
      exact ⟨rfl, Below.refl _ _⟩
    have g1' : ¬ (65536 : Int) < (n0 : Int) := by omega
    by_cases g2 : 65536 < m
    · have g2' : (65536 : Int) < (m : Int) := by omega
      go_wp2
      go_ret
      exact ⟨rfl, Below.refl _ _⟩
    have g2' : ¬ (65536 : Int) < (m : Int) := by omega
    by_cases g3 : 65536 < n2
    · have g3' : (65536 : Int) < (n2 : Int) := by omega
      go_wp2
      go_ret
      exact ⟨rfl, Below.refl _ _⟩
    have g3' : ¬ (65536 : Int) < (n2 : Int) := by omega
    go_wp2_with fail
    refine (lists_some b off m cap vs LL hn W HL.out).mono ?_
    rintro r w' ⟨⟨rr, rfl, hr, hall⟩, rfl⟩
    dsimp only
    have HALL := hide hall
    clear hall
    by_cases g4 : 1048576 < 8 * n0 + 8 * n2 + rr
    · have g4' : (1048576 : Int) < 8 * (n0 : Int) + 8 * (n2 : Int) + (rr : Int) := by omega
      go_wp2
      go_ret
      exact ⟨rfl, Below.refl _ _⟩
    have g4' : ¬ (1048576 : Int) < 8 * (n0 : Int) + 8 * (n2 : Int) + (rr : Int) := by omega
    have m0 : ((m : Int) == 0) = false := by simp; omega
    by_cases g5 : n0 = m
    case neg =>
      have g5' : ((n0 : Int) != (m : Int)) = true := by simp; omega
      go_wp2
      go_ret
      exact ⟨rfl, Below.refl _ _⟩
    by_cases g6 : n2 = m
    case neg =>
      have g5' : ((n0 : Int) != (m : Int)) = false := by simp; omega
      have g6' : ((n2 : Int) != (m : Int)) = true := by simp; omega
      go_wp2
      go_ret
      exact ⟨rfl, Below.refl _ _⟩
    subst g5
    subst g6
    have g5' : ((n2 : Int) != (n2 : Int)) = false := by simp
    by_cases g7 : k < 0
    · go_wp2
      go_ret
      exact ⟨rfl, Below.refl _ _⟩
    by_cases g8 : k < (n2 : Int)
    case neg =>
      have g8' : (n2 : Int) ≤ k := by omega
      go_wp2
      go_ret
      exact ⟨rfl, Below.refl _ _⟩
    obtain ⟨k', rfl⟩ : ∃ k' : Nat, k = (k' : Int) := ⟨k.toNat, by omega⟩
    have g8' : ¬ (n2 : Int) ≤ (k' : Int) := by omega
    have hk : k' < n2 := by omega
    have hm : n2 ≤ 65536 := by omega
    clear g7
    go_wp2_with fail
    refine (clone_ints _ (ints .i64 bs) (by rw [ints_len, HLB.out]; omega) (ints_one _ _) W H0.out).mono ?_
    rintro r w1 ⟨v0, rfl, ho0, hb1⟩
    dsimp only
    obtain ⟨b0, hz0, rfl, hB0⟩ : ∃ b0, W.heap.size ≤ b0 ∧ v0 = .slice (some ⟨b0, 0, none⟩) n2 n2 ∧ Blk w1 b0 2 (ints .i64 bs) := by
      rcases ho0 with ⟨_, h0⟩ | ⟨b, h1, h2, h3⟩
      · have : (ints .i64 bs).length = 0 := by rw [h0]; rfl
        rw [ints_len, HLB.out] at this
        omega
      · refine ⟨b, h1, ?_, h3⟩
        rw [h2, ints_len, HLB.out]
    have HB0 := hide hB0
    have BB1 := hide hb1
    clear ho0 hB0 hb1
    go_wp2_with fail
    have hl1 := HL.out.below BB1.out
    refine (clone_lists b off n2 cap h1 hm vs LL w1 hl1.lt hl1.cell hl1.row (HALL.out (by omega))).mono ?_
    rintro r w2 ⟨rfl, vs', hvl, hB1, hli, hb2⟩
    dsimp only
    have HB1 := hide hB1
    have HLI := hide hli
    have HVL := hide hvl
    have BB2 := hide hb2
    clear hl1 hvl hB1 hli hb2
    go_wp2_with fail
    refine (clone_u _ (ints .u64 es) (by rw [ints_len, HLE.out]; omega) (ints_one _ _) w2 ((H2.out.below BB1.out).below BB2.out)).mono ?_
    rintro r w3 ⟨v2, rfl, ho2, hb3⟩
    dsimp only
    obtain ⟨b2, hz2, rfl, hB2⟩ : ∃ b2, w2.heap.size ≤ b2 ∧ v2 = .slice (some ⟨b2, 0, none⟩) n2 n2 ∧ Blk w3 b2 33 (ints .u64 es) := by
      rcases ho2 with ⟨_, h0⟩ | ⟨b, h1, h2, h3⟩
      · have : (ints .u64 es).length = 0 := by rw [h0]; rfl
        rw [ints_len, HLE.out] at this
        omega
      · refine ⟨b, h1, ?_, h3⟩
        rw [h2, ints_len, HLE.out]
    have x1 := BB1.out.size
    have x2 := BB2.out.size
    have x3 := hb3.size
    have y0 := (HB0.out.belowS BB2.out).lt
    have y1 := HB1.out.lt
    have y2 := hB2.lt
    have HP : Hid (Pre w3 w3.heap.size b0 w1.heap.size b2 n2 bs es vs' LL) := by
      refine ⟨by omega, by omega, by omega, (HB0.out.belowS BB2.out).belowS hb3, HB1.out.belowS hb3, hB2, HLB.out, HVL.out, HLE.out, HALL.out (by omega), fun i hi => ?_⟩
      rcases HLI.out i hi with h | ⟨b, q1, q2, q3⟩
      · exact .inl h
      · have := q3.lt
        exact .inr ⟨b, by omega, q2, q3.belowS hb3⟩
    have HBN : Hid (Below W.heap.size W w3) := (BB1.out.trans (BB2.out.mono x1)).trans (hb3.mono (by omega))
    have HM := hide (law_make W.heap.size b0 w1.heap.size b2 k' n2 e bs es vs' LL W w3 hk hm HP.out HBN.out (by omega))
    clear ho2 hb3 hB2 y0 y1 y2 HP HBN HB0 HB1 HLI HVL BB1 BB2 HALL
    go_upto_region 13 with fail
    exact HM.out _ ‹∀ (a : Act) (w : World), Code.wp Try.prog _ _ a w → _› _ _ _ _ _ _ _ _ _ _ _ _ _ _ _ _ _ _ _ _ _ _ _ _ _ _ _ _ _ _ _ _ _ _ _ _ _ _ _ _ _ _ _ _ _ _ _ _ _ _ _ _ _ _ _ _ _ _ _ _ _ _ _ _ _ _ _ _ _ _ _ _ _ _ _ _ _ _ _ _ _ _ _ _ _ _ _ _ _ _ _ _ _ _ _ _ _ _ _ _ _ _ _ _ _ _ _ _ _ _ _ _ _ _ _ _ _ _ _ _ _ _ _ _ _ _ _ _ _ _ _ _ _ _ _ _ _ _ _ _ _ _ _ _ _ _ _ _ _ _ _ _ _ _ _ _ _ _ _ _ _ _ _ _ _ _ _ _ _ _ _ _ _ _ _ _ _ _ _ _ _ _ _ _ _ _ _ _ _ _ _ _ _ _ _ _ _ _ _ _ _ _ _ _ _ _ _ _ _ _ _ _ _ _ _ _ _ _ _ _ _ _ _ _ _ _ _ _ _ _ _ _ _ _ _ _ _ _ _ _ _ _ _ _ _ _ _ _ _ _ _ _ _ _ _ _ _ _ _ _ _ _ _ _ _ _ _ _ _ _ _ _ _ _ _ _ _ _ _ _ _ _ _ _ _ _ _ _ _ _ _ _ _ _ _ _ _ _ _ _ _ _ _ _ _ _ _ _ _ _ _ _ _ _ _ _ _ _ _ _ _ _ _ _ _ _ _ _ _ _ _ _ _ _ _ _ _ _ _ _ _ _ _ _ _ _ _ _ _ _ _ _ _ _ _ _ _ _ _ _ _ _ _ _ _ _ _ _ _ _ _ _ _ _

/-- The lists as an argument: none, or n slices that each read as a list. -/
def LRow (W : World) (v : Value) : Prop := (∃ a c, v = .slice a 0 c) ∨ ∃ b off n cap vs LL, 1 ≤ n ∧ n ≤ maxLen ∧ v = .slice (some ⟨b, off, none⟩) n cap ∧ LCells W b off n vs LL

theorem law8 (v0 v1 v2 : Value) (e k : Int) (bs es : List Int) (W : World) (h0 : Row W v0 (ints .i64 bs)) (h1 : LRow W v1) (h2 : Row W v2 (ints .u64 es)) :
    Calls Try.prog 8 #[v0, v1, v2, .int .u64 e, .int .i64 k] W fun r w' => r = .returned (.bool true) ∧ Below W.heap.size W w' := by
  obtain ⟨a0, c0, rfl, m0⟩ := h0.slice
  obtain ⟨a2, c2, rfl, m2⟩ := h2.slice
  rw [ints_len] at h0 m0 h2 m2
  rw [ints_len, ints_len]
  unfold maxLen at m0 m2
  rcases h1 with ⟨a, c, rfl⟩ | ⟨b, off, n, cap, vs, LL, p1, p2, rfl, p3⟩
  · exact law8_zero a0 a a2 _ c0 c _ c2 e k m0 m2 W
  · unfold maxLen at p2
    exact law8_some a0 a2 b off _ c0 n cap _ c2 e k bs es vs LL m0 p2 m2 p1 rfl rfl W h0 p3 h2
end Go.Proofs.Qxb6602784a.grf
