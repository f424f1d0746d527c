import Derived.Test.Qxb6602784aGrfQ
namespace Go.Proofs.Qxb6602784a.grf
open Go.ChangeShapes Go.WideShapes Go.ChangeAt Go.RowKit
set_option linter.unusedSimpArgs false
set_option linter.unusedVariables false

theorem info2 : (Try.prog.info? 2).map (fun i => (i.zero, i.size, i.bytes)) = some (some (.int .i64 0), 1, 8) := by kernel_rfl
theorem info33 : (Try.prog.info? 33).map (fun i => (i.zero, i.size, i.bytes)) = some (some (.int .u64 0), 1, 8) := by kernel_rfl
theorem info30 : (Try.prog.info? 30).map (fun i => (i.zero, i.size, i.bytes)) = some (some (.slice none 0 0), 1, 24) := by kernel_rfl
theorem info40 : (Try.prog.info? 40).map (fun i => (i.zero, i.size, i.bytes)) = some (some (.pointer none), 1, 8) := by kernel_rfl

/-- The slice reads as these cells. -/
def Row (w : World) (v : Value) (xs : List Value) : Prop :=
  (v = .slice none 0 0 ∧ xs = []) ∨ ∃ x cap, v = .slice (some x) xs.length cap ∧ xs.length ≤ cap ∧ cap ≤ maxLen ∧ ∀ i y, xs[i]? = some y → w.cell? (x.add i) = some y

/-- The slice has a block of its own, from lo on, that holds just these cells. -/
def Own (w : World) (lo : Nat) (t : TypeId) (v : Value) (xs : List Value) : Prop :=
  (v = .slice none 0 0 ∧ xs = []) ∨ ∃ b, lo ≤ b ∧ v = .slice (some ⟨b, 0, none⟩) xs.length xs.length ∧ Blk w b t xs

theorem made_vals (z : Value) (n : Nat) : (madeCells #[z] n).toList = List.replicate n z := by
  apply List.ext_getElem?
  intro i
  by_cases h : i < n
  · simp [madeCells, h, Nat.mod_one]
  · simp [madeCells, h]

/-- 'copy' of a whole row into a new one. -/
theorem copy_vals (S T : TypeId) (hS : Try.prog.underlying S = some (.slice T)) (hT : (Try.prog.info? T).map (·.size) = some 1) (w : World) (g cap : Nat) (x : Addr) (n scap : Nat) (z : Value) (xs : List Value) (hn : xs.length = n) (h1 : ∀ v ∈ xs, v.oneCell' = true) (hg : Blk w g T (List.replicate n z)) (hc : ∀ i y, xs[i]? = some y → w.cell? (x.add i) = some y) :
    (Builtin.copy_ #[S, S] 3 #[.slice (some ⟨g, 0, none⟩) n cap, .slice (some x) n scap]).run Try.prog w = .ok (goInt n) (w.setRow g xs.toArray) := by
  have := run_copy_row (P := Try.prog) w S S 3 T g 0 n cap x n scap (List.replicate n z).toArray T xs hS hT hg (by rw [hn]; simp) hc (by simp [hn]) h1
  rw [this, hn]
  simp [hn]

theorem nil30 (a : Option Addr) (n c : Nat) : ∀ w : World, Sem.run Try.prog (binOp .eql 30 (.slice a n c) (.slice none 0 0)) w = .ok (.bool a.isNone) w :=
  fun w => Lib.run_eql_slice_nil w 30 2 a n c 0 0 Try.underlying30
theorem nil31 (a : Option Addr) (n c : Nat) : ∀ w : World, Sem.run Try.prog (binOp .eql 31 (.slice a n c) (.slice none 0 0)) w = .ok (.bool a.isNone) w :=
  fun w => Lib.run_eql_slice_nil w 31 30 a n c 0 0 Try.underlying31
theorem nil32 (a : Option Addr) (n c : Nat) : ∀ w : World, Sem.run Try.prog (binOp .eql 32 (.slice a n c) (.slice none 0 0)) w = .ok (.bool a.isNone) w :=
  fun w => Lib.run_eql_slice_nil w 32 33 a n c 0 0 Try.underlying32
theorem nil39 (a : Option Addr) (n c : Nat) : ∀ w : World, Sem.run Try.prog (binOp .eql 39 (.slice a n c) (.slice none 0 0)) w = .ok (.bool a.isNone) w :=
  fun w => Lib.run_eql_slice_nil w 39 40 a n c 0 0 Try.underlying39

theorem add_block (x : Addr) (i : Nat) : (x.add i).block = x.block := by
  unfold Addr.add
  split <;> rfl

/-- What a clone answers. -/
def Cloned (t : TypeId) (xs : List Value) (w : World) (e : Ending) (w' : World) : Prop := ∃ v, e = .returned v ∧ Own w' w.heap.size t v xs ∧ Below w.heap.size w w'

theorem Row.lt {w : World} {x : Addr} {xs : List Value} (h : ∀ i y, xs[i]? = some y → w.cell? (x.add i) = some y) (i : Nat) (y : Value) (hi : xs[i]? = some y) : x.block < w.heap.size := by
  have := World.block_lt_of_cell? w _ (h i y hi)
  rw [add_block] at this
  exact this

/-! ### cloneInts -/
theorem clone_ints (v : Value) (xs : List Value) (hn : xs.length ≤ 1048576) (h1 : ∀ v ∈ xs, v.oneCell' = true) (w : World) (h : Row w v xs) : Calls Try.prog 24 #[v] w (Cloned 2 xs w) := by
  rcases h with ⟨rfl, rfl⟩ | ⟨x, cap, rfl, hcap, hcap2, hc⟩
  · have hnn := nil30 none 0 0
    go_enter Try.func24, Try.ntmps24
    go_wp2
    go_ret
    exact ⟨_, rfl, .inl ⟨rfl, rfl⟩, Below.refl _ _⟩
  · obtain ⟨n, hxn⟩ : ∃ n, n = xs.length := ⟨_, rfl⟩
    rw [← hxn] at hcap hn
    have hnn := nil30 (some x) n cap
    have hmk := fun w => run_make_row' (P := Try.prog) 30 2 (.int .i64 0) 8 Try.underlying30 info2 rfl .i64 .i64 n (by omega) (by omega) w
    have hg : Blk (w.alloc (.cells (madeCells #[.int .i64 0] n) 2)) w.heap.size 2 (List.replicate n (.int .i64 0)) := by
      have := Blk.new w (madeCells #[.int .i64 0] n) 2
      rw [made_vals] at this
      exact this
    have hcp := copy_vals 30 2 Try.underlying30 (by kernel_rfl) (w.alloc (.cells (madeCells #[.int .i64 0] n) 2)) w.heap.size n x n cap (.int .i64 0) xs hxn.symm h1 hg (fun i y hi => by
      rw [World.cell?_alloc_lt _ _ _ (by rw [add_block]; exact Row.lt hc i y hi)]
      exact hc i y hi)
    have HB : Hid (Blk ((w.alloc (.cells (madeCells #[.int .i64 0] n) 2)).setRow w.heap.size xs.toArray) w.heap.size 2 xs) := hg.setRow xs.toArray
    have HBE : Hid (Below w.heap.size w ((w.alloc (.cells (madeCells #[.int .i64 0] n) 2)).setRow w.heap.size xs.toArray)) := below_setRow ((Below.refl _ _).alloc (Nat.le_refl _) _) (Nat.le_refl _) _
    have HN := hide hxn
    clear hg hc hxn
    rw [← HN.out]
    go_enter Try.func24, Try.ntmps24
    go_wp2
    go_ret
    exact ⟨_, rfl, .inr ⟨_, Nat.le_refl _, by rw [← HN.out]; rfl, HB.out⟩, HBE.out⟩
/-! ### cloneU -/
theorem clone_u (v : Value) (xs : List Value) (hn : xs.length ≤ 1048576) (h1 : ∀ v ∈ xs, v.oneCell' = true) (w : World) (h : Row w v xs) : Calls Try.prog 26 #[v] w (Cloned 33 xs w) := by
  rcases h with ⟨rfl, rfl⟩ | ⟨x, cap, rfl, hcap, hcap2, hc⟩
  · have hnn := nil32 none 0 0
    go_enter Try.func26, Try.ntmps26
    go_wp2
    go_ret
    exact ⟨_, rfl, .inl ⟨rfl, rfl⟩, Below.refl _ _⟩
  · obtain ⟨n, hxn⟩ : ∃ n, n = xs.length := ⟨_, rfl⟩
    rw [← hxn] at hcap hn
    have hnn := nil32 (some x) n cap
    have hmk := fun w => run_make_row' (P := Try.prog) 32 33 (.int .u64 0) 8 Try.underlying32 info33 rfl .i64 .i64 n (by omega) (by omega) w
    have hg : Blk (w.alloc (.cells (madeCells #[.int .u64 0] n) 33)) w.heap.size 33 (List.replicate n (.int .u64 0)) := by
      have := Blk.new w (madeCells #[.int .u64 0] n) 33
      rw [made_vals] at this
      exact this
    have hcp := copy_vals 32 33 Try.underlying32 (by kernel_rfl) (w.alloc (.cells (madeCells #[.int .u64 0] n) 33)) w.heap.size n x n cap (.int .u64 0) xs hxn.symm h1 hg (fun i y hi => by
      rw [World.cell?_alloc_lt _ _ _ (by rw [add_block]; exact Row.lt hc i y hi)]
      exact hc i y hi)
    have HB : Hid (Blk ((w.alloc (.cells (madeCells #[.int .u64 0] n) 33)).setRow w.heap.size xs.toArray) w.heap.size 33 xs) := hg.setRow xs.toArray
    have HBE : Hid (Below w.heap.size w ((w.alloc (.cells (madeCells #[.int .u64 0] n) 33)).setRow w.heap.size xs.toArray)) := below_setRow ((Below.refl _ _).alloc (Nat.le_refl _) _) (Nat.le_refl _) _
    have HN := hide hxn
    clear hg hc hxn
    rw [← HN.out]
    go_enter Try.func26, Try.ntmps26
    go_wp2
    go_ret
    exact ⟨_, rfl, .inr ⟨_, Nat.le_refl _, by rw [← HN.out]; rfl, HB.out⟩, HBE.out⟩

/-! ### clonePtrs -/
theorem clone_ptrs (b n cap : Nat) (xs : List Value) (hx : xs.length = n) (hn : n ≤ 1048576) (h1 : ∀ v ∈ xs, v.oneCell' = true) (w : World) (h : Blk w b 40 xs) :
    Calls Try.prog 28 #[.slice (some ⟨b, 0, none⟩) n cap] w fun e w' => e = .returned (.slice (some ⟨w.heap.size, 0, none⟩) n n) ∧ Blk w' w.heap.size 40 xs ∧ Below w.heap.size w w' := by
  have hmk := fun w => run_make_row' (P := Try.prog) 39 40 (.pointer none) 8 Try.underlying39 info40 rfl .i64 .i64 n (by omega) (by omega) w
  have hg : Blk (w.alloc (.cells (madeCells #[.pointer none] n) 40)) w.heap.size 40 (List.replicate n (.pointer none)) := by
    have := Blk.new w (madeCells #[.pointer none] n) 40
    rw [made_vals] at this
    exact this
  have hcp := copy_vals 39 40 Try.underlying39 (by kernel_rfl) (w.alloc (.cells (madeCells #[.pointer none] n) 40)) w.heap.size n ⟨b, 0, none⟩ n cap (.pointer none) xs hx h1 hg (fun i y hi => by
    rw [add_plain, Nat.zero_add, World.cell?_alloc_lt _ _ _ (by exact h.lt), h.cell]
    exact hi)
  have HB : Hid (Blk ((w.alloc (.cells (madeCells #[.pointer none] n) 40)).setRow w.heap.size xs.toArray) w.heap.size 40 xs) := hg.setRow xs.toArray
  have HBE : Hid (Below w.heap.size w ((w.alloc (.cells (madeCells #[.pointer none] n) 40)).setRow w.heap.size xs.toArray)) := below_setRow ((Below.refl _ _).alloc (Nat.le_refl _) _) (Nat.le_refl _) _
  clear hg hx
  go_enter Try.func28, Try.ntmps28
  go_wp2
  go_ret
  exact ⟨rfl, HB.out, HBE.out⟩

theorem Own.below {B : Nat} {w w' : World} {lo : Nat} {t : TypeId} {v : Value} {xs : List Value} (h : Own w lo t v xs) (hb : Below B w w') (hB : B = w.heap.size) : Own w' lo t v xs := by
  rcases h with h | ⟨b, h1, h2, h3⟩
  · exact .inl h
  · exact .inr ⟨b, h1, h2, h3.below hb (by rw [hB]; exact h3.lt)⟩
theorem Own.set_lt {w : World} {lo : Nat} {t : TypeId} {v : Value} {xs : List Value} (h : Own w lo t v xs) (a : Addr) (ha : a.block < lo) (y : Value) : Own (w.setCell a y) lo t v xs := by
  rcases h with h | ⟨b, h1, h2, h3⟩
  · exact .inl h
  · exact .inr ⟨b, h1, h2, h3.set_ne a (by omega) y⟩
theorem Own.le {w : World} {lo lo' : Nat} {t : TypeId} {v : Value} {xs : List Value} (h : Own w lo t v xs) (hl : lo' ≤ lo) : Own w lo' t v xs := by
  rcases h with h | ⟨b, h1, h2, h3⟩
  · exact .inl h
  · exact .inr ⟨b, by omega, h2, h3⟩
theorem Own.slice {w : World} {lo : Nat} {t : TypeId} {v : Value} {xs : List Value} (h : Own w lo t v xs) : ∃ a n c, v = .slice a n c := by
  rcases h with h | ⟨b, h1, h2, h3⟩
  · exact ⟨_, _, _, h.1⟩
  · exact ⟨_, _, _, h2⟩
theorem Own.row {w : World} {lo : Nat} {t : TypeId} {v : Value} {xs : List Value} (h : Own w lo t v xs) (hl : xs.length ≤ maxLen) : Row w v xs := by
  rcases h with h | ⟨b, h1, h2, h3⟩
  · exact .inl h
  · exact .inr ⟨⟨b, 0, none⟩, xs.length, h2, Nat.le_refl _, hl, fun i y hi => by rw [add_plain, Nat.zero_add, h3.cell]; exact hi⟩
theorem Row.below {w w' : World} {v : Value} {xs : List Value} (h : Row w v xs) (hb : Below w.heap.size w w') : Row w' v xs := by
  rcases h with h | ⟨x, cap, h1, h2, h3, h4⟩
  · exact .inl h
  · refine .inr ⟨x, cap, h1, h2, h3, fun i y hi => ?_⟩
    rw [hb.cell (by rw [add_block]; exact Row.lt h4 i y hi)]
    exact h4 i y hi

/-! ### cloneLists -/
/-- Each of the first k slices has a row of its own that holds its list. -/
def Lists (w : World) (lo : Nat) (vs : List Value) (LL : List (List Int)) (k : Nat) : Prop :=
  ∀ i, i < k → Own w lo 2 (vs.getD i (.slice none 0 0)) (ints .i64 (LL.getD i []))

theorem ints_one (k : IntKind) (xs : List Int) : ∀ v ∈ ints k xs, v.oneCell' = true := by
  intro v hv
  simp only [ints, List.mem_map] at hv
  obtain ⟨s, _, rfl⟩ := hv
  rfl

set_option maxHeartbeats 400000 in
theorem clone_lists (b off n cap : Nat) (h1 : 1 ≤ n) (hn : n ≤ 65536) (vs : List Value) (LL : List (List Int)) (w : World) (hb : b < w.heap.size)
    (hc : ∀ i, i < n → w.cell? ⟨b, off + i, none⟩ = some (vs.getD i (.slice none 0 0))) (hv : ∀ i, i < n → Row w (vs.getD i (.slice none 0 0)) (ints .i64 (LL.getD i []))) (hl : ∀ i, i < n → (LL.getD i []).length ≤ 1048576) :
    Calls Try.prog 25 #[.slice (some ⟨b, off, none⟩) n cap] w fun e w' => e = .returned (.slice (some ⟨w.heap.size, 0, none⟩) n n) ∧ ∃ vs', vs'.length = n ∧ Blk w' w.heap.size 30 vs' ∧ Lists w' (w.heap.size + 1) vs' LL n ∧ Below w.heap.size w w' := by
  have hmk := fun w => run_make_row' (P := Try.prog) 31 30 (.slice none 0 0) 24 Try.underlying31 info30 rfl .i64 .i64 n (by omega) (by omega) w
  have hnn := nil31 (some ⟨b, off, none⟩) n cap
  have HG : Hid (Blk (w.alloc (.cells (madeCells #[.slice none 0 0] n) 30)) w.heap.size 30 (List.replicate n (.slice none 0 0))) := by
    have := Blk.new w (madeCells #[.slice none 0 0] n) 30
    rw [made_vals] at this
    exact this
  have HC := hide hc
  have HV := hide hv
  have HL := hide hl
  clear hc hv hl
  go_enter Try.func25, Try.ntmps25
  go_wp2
  go_loopw [4] (fun i wr => ∃ (k : Nat) (vs' : List Value), k ≤ n ∧ i = .int .i64 k ∧ vs'.length = n ∧ Blk wr w.heap.size 30 vs' ∧ Lists wr (w.heap.size + 1) vs' LL k ∧ Below w.heap.size w wr ∧ w.heap.size + 1 ≤ wr.heap.size) (fun i _ => n - (intOf i).toNat)
  case atStart => exact ⟨0, _, Nat.zero_le _, rfl, by simp, HG.out, fun i hi => by omega, (Below.refl _ _).alloc (Nat.le_refl _) _, by simp⟩
  case round =>
    obtain ⟨k, vs', hk, rfl, hvl, hblk, hli, hbel, hsz⟩ := hrel
    have HVL := hide hvl
    have HBlk := hide hblk
    have HLi := hide hli
    have HBel := hide hbel
    clear hvl hblk hli hbel
    by_cases hkn : k < n
    · obtain ⟨u, hu⟩ : ∃ u, u = vs.getD k (.slice none 0 0) := ⟨_, rfl⟩
      have q1 : wr.cell? ⟨b, off + k, none⟩ = some u := by rw [HBel.out.cell hb, HC.out k hkn, hu]
      have HU : Hid (Row wr u (ints .i64 (LL.getD k []))) := by
        have h := HV.out k hkn
        rw [← hu] at h
        exact h.below HBel.out
      have i1 : (k : Int) < (n : Int) := by omega
      clear hu
      go_wp2_with fail
      refine (clone_ints u (ints .i64 (LL.getD k [])) (by rw [ints_len]; exact HL.out k hkn) (ints_one _ _) wr HU.out).mono ?_
      rintro e w2 ⟨v2, rfl, hown, hbel2⟩
      obtain ⟨a2, n2, m2, rfl⟩ := hown.slice
      have HBlk2 := hide (HBlk.out.below hbel2 HBlk.out.lt)
      have q2 : ∃ c, w2.cell? ⟨w.heap.size, k, none⟩ = some c := ⟨_, by rw [HBlk2.out.cell]; exact List.getElem?_eq_getElem (by rw [HVL.out]; exact hkn)⟩
      obtain ⟨c2, q2⟩ := q2
      have q3 := HBlk2.out.frozen k
      have HBlk3 := hide (HBlk2.out.set k (.slice a2 n2 m2))
      have HLi3 : Hid (Lists (w2.setCell ⟨w.heap.size, k, none⟩ (.slice a2 n2 m2)) (w.heap.size + 1) (vs'.set k (.slice a2 n2 m2)) LL (k + 1)) := by
        intro i hi
        by_cases c : i = k
        · subst c
          rw [List.getD_eq_getElem?_getD, List.getElem?_set_self (by rw [HVL.out]; exact hkn)]
          exact (hown.le hsz).set_lt _ (by simp) _
        · rw [List.getD_eq_getElem?_getD, List.getElem?_set_ne (by omega), ← List.getD_eq_getElem?_getD]
          exact ((HLi.out i (by omega)).below hbel2 rfl).set_lt _ (by simp) _
      have HBel3 : Hid (Below w.heap.size w (w2.setCell ⟨w.heap.size, k, none⟩ (.slice a2 n2 m2))) := (HBel.out.trans (hbel2.mono (by omega))).setCell (Nat.le_refl _) _
      have z2 : w.heap.size + 1 ≤ (w2.setCell ⟨w.heap.size, k, none⟩ (.slice a2 n2 m2)).heap.size := by have := hbel2.size; simp; omega
      clear hown hbel2
      go_wp2
      go_roundw
      case rel => exact ⟨k + 1, _, by omega, by go_num, by rw [List.length_set]; exact HVL.out, HBlk3.out, HLi3.out, HBel3.out, z2⟩
      case measure => simp [intOf]; omega
    · have e4 : k = n := by omega
      have HE := hide e4
      go_wp2
      go_ret
      exact ⟨rfl, vs', HVL.out, HBlk.out, by rw [← e4]; exact HLi.out, HBel.out⟩
end Go.Proofs.Qxb6602784a.grf
