import Derived.Test.Qxb6602784aGrfR
import Derived.Test.Qxb6602784aSortW
namespace Go.Proofs.Qxb6602784a.grf
open Go.ChangeShapes Go.WideShapes Go.ChangeAt Go.RowKit
set_option linter.unusedSimpArgs false
set_option linter.unusedVariables false

/-! ### The plain law: neighbours in order are equal just where a label repeats -/
def Adj (ls : List ByteArray) (A : List Nat) (t : Nat) : Prop := ∃ u, 1 ≤ u ∧ u < t ∧ lab ls (A.getD u 0) = lab ls (A.getD (u - 1) 0)

theorem seg_all (A : List Nat) : seg A 0 A.length = A := by unfold seg; simp

theorem run_lt {ls : List ByteArray} {A : List Nat} (h : Run ls A 0 A.length) (p : Nat) (hp : p < A.length) : A.getD p 0 < A.length := by
  have := h.mem (getD_seg (Nat.zero_le p) hp (Nat.le_refl _))
  exact this.2

theorem run_inj {ls : List ByteArray} {A : List Nat} (h : Run ls A 0 A.length) (p q : Nat) (hp : p < q) (hq : q < A.length) : A.getD p 0 ≠ A.getD q 0 := by
  have h2 := h.2
  rw [seg_all] at h2
  have hnd : A.Nodup := h2.nodup_iff.2 (List.nodup_range' 1)
  have := List.pairwise_iff_getElem.1 hnd p q (by omega) hq hp
  simpa [show p < A.length by omega, hq] using this

theorem run_le {ls : List ByteArray} {A : List Nat} (h : Run ls A 0 A.length) (p q : Nat) (hp : p < q) (hq : q < A.length) : le ls (A.getD p 0) (A.getD q 0) = true := by
  have h1 := h.1
  rw [seg_all] at h1
  have := List.pairwise_iff_getElem.1 h1 p q (by omega) hq hp
  simpa [show p < A.length by omega, hq] using this

theorem run_all {ls : List ByteArray} {A : List Nat} (h : Run ls A 0 A.length) (v : Nat) (hv : v < A.length) : ∃ p, p < A.length ∧ A.getD p 0 = v := by
  have h2 := h.2
  rw [seg_all] at h2
  have : v ∈ A := h2.mem_iff.2 (by rw [List.mem_range'_1]; omega)
  obtain ⟨p, hp, he⟩ := List.getElem_of_mem this
  exact ⟨p, hp, by simpa [hp] using he⟩

theorem le_mid {ls : List ByteArray} {a b c : Nat} (h1 : le ls a b = true) (h2 : le ls b c = true) (h : lab ls a = lab ls c) : lab ls b = lab ls a := by
  unfold le at h1 h2
  rw [← h] at h2
  simp at h1 h2
  rcases h1 with h1 | ⟨h1, _⟩
  · rcases h2 with h2 | ⟨h2, _⟩
    · exact absurd h2 (List.lt_asymm h1)
    · rw [h2] at h1; exact absurd h1 (List.lt_irrefl _)
  · exact (bytes_eq h1).symm

theorem adj_iff {ls : List ByteArray} {A : List Nat} (h : Run ls A 0 A.length) (hl : A.length = ls.length) : Adj ls A A.length ↔ Dup ls := by
  constructor
  · rintro ⟨u, h1, h2, h3⟩
    have hn := run_inj h (u - 1) u (by omega) h2
    have a1 := run_lt h u h2
    have a2 := run_lt h (u - 1) (by omega)
    by_cases c : A.getD u 0 < A.getD (u - 1) 0
    · exact ⟨_, _, c, by omega, h3⟩
    · exact ⟨_, _, by omega, by omega, h3.symm⟩
  · rintro ⟨i, j, h1, h2, h3⟩
    obtain ⟨p, hp, ep⟩ := run_all h i (by omega)
    obtain ⟨q, hq, eq⟩ := run_all h j (by omega)
    have key : ∀ p q, p < q → q < A.length → lab ls (A.getD p 0) = lab ls (A.getD q 0) → Adj ls A A.length := by
      intro p q hpq hq he
      refine ⟨p + 1, by omega, by omega, ?_⟩
      rw [Nat.add_sub_cancel]
      by_cases c : p + 1 = q
      · rw [c]; exact he.symm
      · exact le_mid (run_le h p (p + 1) (by omega) (by omega)) (run_le h (p + 1) q (by omega) hq) he
    have hne : p ≠ q := by intro e; rw [e, eq] at ep; omega
    by_cases c : p < q
    · exact key p q c hq (by rw [ep, eq]; exact h3)
    · exact key q p (by omega) hp (by rw [ep, eq]; exact h3.symm)

/-- No label: an empty row of places. -/
theorem sorted_zero (a : Option Addr) (cap : Nat) (w : World) : Calls Try.prog 20 #[.slice a 0 cap] w fun e w' => ∃ b, e = .returned (.slice (some ⟨b, 0, none⟩) 0 0) ∧ Below w.heap.size w w' := by
  have hmk : ∀ w : World, Sem.run Try.prog (Instr.makeSlice 27 (.int .i64 0) (.int .i64 0)) w = .ok (.slice (some ⟨w.heap.size, 0, none⟩) 0 0) (w.alloc (.cells (madeCells #[.int .i64 0] 0) 3)) :=
    fun w => run_make_row' (P := Try.prog) 27 3 (.int .i64 0) 8 Try.underlying27 info3 rfl .i64 .i64 0 (by omega) (by omega) w
  go_enter Try.func20, Try.ntmps20
  go_wp2
  refine wp_loop_rounds 1 ?_
  rw [rounds_succ]
  go_wp2
  refine wp_loop_rounds 1 ?_
  rw [rounds_succ]
  go_wp2
  go_ret
  exact ⟨_, rfl, ((Below.refl _ _).alloc (Nat.le_refl _) _).alloc (by simp) _⟩

theorem Blk.setRow {w : World} {b : Nat} {t : TypeId} {xs : List Value} (h : Blk w b t xs) (cs : Array Value) : Blk (w.setRow b cs) b t cs.toList := by
  unfold Blk at *
  have := setRow_heap w b _ cs t (0, 0) h
  simpa using this

theorem made_strs (n : Nat) : (madeCells #[.string ByteArray.empty] n).toList = strs (List.replicate n ByteArray.empty) := by
  apply List.ext_getElem?
  intro i
  by_cases h : i < n
  · simp [madeCells, strs, h, Nat.mod_one]
  · simp [madeCells, strs, h]

/-- 'copy' of all labels into a new row. -/
theorem copy_all (w : World) (g cap : Nat) (x : Addr) (n scap : Nat) (ls : List ByteArray) (hn : ls.length = n) (hg : Blk w g 9 (strs (List.replicate n ByteArray.empty))) (hc : ∀ i, i < n → w.cell? (x.add i) = some (.string (ls.getD i ByteArray.empty))) :
    (Builtin.copy_ #[22, 22] 3 #[.slice (some ⟨g, 0, none⟩) n cap, .slice (some x) n scap]).run Try.prog w = .ok (goInt n) (w.setRow g (strs ls).toArray) := by
  have hs : (strs ls).length = n := by rw [strs_len, hn]
  have := run_copy_row (P := Try.prog) w 22 22 3 9 g 0 n cap x n scap (strs (List.replicate n ByteArray.empty)).toArray 9 (strs ls) Try.underlying22 (by kernel_rfl) hg (by rw [hs]; simp) ?_ ?_ ?_
  · rw [this, hs]
    simp [strs, hn]
  · intro j v hv
    have hj : j < n := by
      have := (List.getElem?_eq_some_iff.1 hv).1
      omega
    rw [strs_at ls j (by omega)] at hv
    cases hv
    exact hc j hj
  · rw [hs]; simp [strs]
  · intro v hv
    simp only [strs, List.mem_map] at hv
    obtain ⟨s, _, rfl⟩ := hv
    rfl

/-- What the walk is told of a slice of strings that came in. -/
def SRow (w : World) (a : Option Addr) (len cap : Nat) (ls : List ByteArray) : Prop :=
  (a = none ∧ len = 0 ∧ cap = 0 ∧ ls = []) ∨
  ∃ x, a = some x ∧ len ≤ cap ∧ cap ≤ maxLen ∧ ls.length = len ∧ (∀ i, i < len → w.cell? (x.add i) = some (.string (ls.getD i ByteArray.empty))) ∧ ∀ s ∈ ls, s.size ≤ maxLen

theorem getD_size {ls : List ByteArray} (h : ∀ s ∈ ls, s.size ≤ maxLen) (i : Nat) : (ls.getD i ByteArray.empty).size ≤ maxLen := by
  by_cases c : i < ls.length
  · exact h _ (by simp [c])
  · have e : ls.getD i ByteArray.empty = ByteArray.empty := by simp [List.getD_eq_getElem?_getD, List.getElem?_eq_none (show ls.length ≤ i by omega)]
    rw [e]; exact Nat.zero_le _

theorem isn22 (a : Option Addr) (n c : Nat) : ∀ w : World, Sem.run Try.prog (binOp .neq 22 (.slice a n c) (.slice none 0 0)) w = .ok (.bool (!a.isNone)) w :=
  fun w => run_neq_slice_nil_any w 22 9 a n c 0 0 Try.underlying22

/-- It fell out ahead of the work: the label list is too long. -/
theorem law6_long (b off len cap : Nat) (ls : List ByteArray) (hl : len ≤ 9223372036854775807) (h2 : 65536 < len) (w : World) (hc : ∀ i, i < len → w.cell? ⟨b, off + i, none⟩ = some (.string (ls.getD i ByteArray.empty))) (hs : ∀ i, (ls.getD i ByteArray.empty).size ≤ 9223372036854775807) :
    Calls Try.prog 6 #[.slice (some ⟨b, off, none⟩) len cap] w fun e w' => e = .returned (.bool true) ∧ Below w.heap.size w w' := by
  have HC := hide (zz19_some b off len cap ls hl w hc hs)
  clear hc hs
  go_enter Try.func6, Try.ntmps6
  go_wp2_with fail
  refine HC.out.mono ?_
  rintro e w' ⟨⟨r, rfl⟩, rfl⟩
  cases r with
  | false =>
    go_wp2
    go_ret
    exact ⟨rfl, Below.refl _ _⟩
  | true =>
    go_wp2
    go_ret
    exact ⟨rfl, Below.refl _ _⟩

set_option maxHeartbeats 1000000 in
theorem law6_some (b off len cap : Nat) (ls : List ByteArray) (h1 : 1 ≤ len) (h2 : len ≤ 65536) (hn : ls.length = len) (w : World) (hb : b < w.heap.size) (hc : ∀ i, i < len → w.cell? ⟨b, off + i, none⟩ = some (.string (ls.getD i ByteArray.empty))) (hs : ∀ i, (ls.getD i ByteArray.empty).size ≤ maxLen) :
    Calls Try.prog 6 #[.slice (some ⟨b, off, none⟩) len cap] w fun e w' => e = .returned (.bool true) ∧ Below w.heap.size w w' := by
  have HZ := hide (zz19_some b off len cap ls (by omega) w hc (fun i => by have := hs i; unfold maxLen at this; exact this))
  have HSB := hide (sb_some b off len cap ls (by omega) w hc (fun i => by have := hs i; unfold maxLen at this; exact this))
  have hmk := fun w => run_make_row' (P := Try.prog) 22 9 (.string ByteArray.empty) 16 Try.underlying22 info9 rfl .i64 .i64 len (by omega) (by omega) w
  have hnn := isn22 (some ⟨b, off, none⟩) len cap
  have hg : Blk (w.alloc (.cells (madeCells #[.string ByteArray.empty] len) 9)) w.heap.size 9 (strs (List.replicate len ByteArray.empty)) := by
    have := Blk.new w (madeCells #[.string ByteArray.empty] len) 9
    rw [made_strs] at this
    exact this
  have hcp := copy_all (w.alloc (.cells (madeCells #[.string ByteArray.empty] len) 9)) w.heap.size len ⟨b, off, none⟩ len cap ls hn hg (fun i hi => by
    rw [add_plain, World.cell?_alloc_lt _ _ _ (by exact hb)]
    exact hc i hi)
  have HG := hide hg
  have HN := hide hn
  have HS := hide hs
  clear hc hs hg hn
  go_enter Try.func6, Try.ntmps6
  go_wp2_with fail
  refine HZ.out.mono ?_
  rintro e w' ⟨⟨r, rfl⟩, rfl⟩
  cases r with
  | false =>
    go_wp2
    go_ret
    exact ⟨rfl, Below.refl _ _⟩
  | true =>
    go_wp2_with fail
    refine HSB.out.mono ?_
    rintro e w' ⟨⟨r, rfl⟩, rfl⟩
    by_cases hr : 1048576 < r
    · go_wp2
      go_ret
      exact ⟨rfl, Below.refl _ _⟩
    · have HBL := hide (HG.out.setRow (strs ls).toArray)
      have HBE : Hid (Below w.heap.size w ((w.alloc (.cells (madeCells #[.string ByteArray.empty] len) 9)).setRow w.heap.size (strs ls).toArray)) := below_setRow ((Below.refl _ _).alloc (Nat.le_refl _) _) (Nat.le_refl _) _
      clear HZ HSB
      go_wp2_with fail
      refine (sorted_some w.heap.size len len ls HN.out h1 h2 _ HBL.out).mono ?_
      rintro e w3 ⟨bA, A, rfl, hbA, hA, hAl, hRun, hbel⟩
      have z1 : w.heap.size < w3.heap.size := by have := hbel.size; simp at this; omega
      have HB3 := hide (HBL.out.below hbel (by simp))
      have HBE3 := hide (HBE.out.trans (hbel.mono (by simp)))
      have HA := hide hA
      have HAL := hide hAl
      have HRun := hide hRun
      clear hbA hA hAl hRun hbel HBL HBE hcp hmk
      go_wp2
      go_loopw [5, 6] (fun want t wr => ∃ (k : Nat) (r : Bool), 1 ≤ k ∧ k ≤ len ∧ t = .int .i64 k ∧ want = .bool r ∧ (r = true ↔ Adj ls A k) ∧ ∃ n, wr = w3.drewN n) (fun _ t _ => len - (intOf t).toNat)
      case atStart =>
        refine ⟨1, false, by omega, h1, rfl, rfl, ⟨fun h => (by cases h), ?_⟩, 0, rfl⟩
        rintro ⟨u, h1, h2, _⟩
        omega
      case round =>
        obtain ⟨k, r2, hk1, hk, rfl, rfl, hr2, m, rfl⟩ := hrel
        have HR2 := hide hr2
        clear hr2
        by_cases hkl : k < len
        · obtain ⟨x, hx⟩ : ∃ x, x = A.getD k 0 := ⟨_, rfl⟩
          obtain ⟨y, hy⟩ : ∃ y, y = A.getD (k - 1) 0 := ⟨_, rfl⟩
          have hrun' : Run ls A 0 A.length := by rw [HAL.out]; exact HRun.out
          have bx : x < len := by have := run_lt hrun' k (by have := HAL.out; omega); have := HAL.out; omega
          have by' : y < len := by have := run_lt hrun' (k - 1) (by have := HAL.out; omega); have := HAL.out; omega
          obtain ⟨s, hs⟩ : ∃ s, s = lab ls x := ⟨_, rfl⟩
          obtain ⟨t, ht⟩ : ∃ s, s = lab ls y := ⟨_, rfl⟩
          have q1 : w3.cell? ⟨bA, k, none⟩ = some (.int .i64 (x : Int)) := by rw [HA.out.nat k (by have := HAL.out; omega), hx]
          have q2 : w3.cell? ⟨bA, k - 1, none⟩ = some (.int .i64 (y : Int)) := by rw [HA.out.nat (k - 1) (by have := HAL.out; omega), hy]
          have q3 : w3.cell? ⟨w.heap.size, x, none⟩ = some (.string s) := by rw [HB3.out.str x (by have := HN.out; omega), hs]; rfl
          have q4 : w3.cell? ⟨w.heap.size, y, none⟩ = some (.string t) := by rw [HB3.out.str y (by have := HN.out; omega), ht]; rfl
          have i1 : (k : Int) < (len : Int) := by omega
          have i2 : (k : Int) - 1 < (len : Int) := by omega
          have i3 : (x : Int) < (len : Int) := by omega
          have i4 : (y : Int) < (len : Int) := by omega
          by_cases he : s.toList = t.toList
          · have heb : (s.toList == t.toList) = true := by simp [he]
            have HE : Hid (true = true ↔ Adj ls A (k + 1)) := ⟨fun _ => ⟨k, hk1, by omega, by rw [← hx, ← hy, ← hs, ← ht]; exact bytes_eq he⟩, fun _ => rfl⟩
            clear hx hy hs ht he hrun'
            go_wp2
            go_quiet (fail)
            go_wp2
            go_roundw
            case rel => exact ⟨k + 1, true, by omega, by omega, by go_num, rfl, by simpa using HE.out, m + nq, rfl⟩
            case measure => simp [intOf]; omega
          · have heb : (s.toList == t.toList) = false := by simp [he]
            have HE : Hid (r2 = true ↔ Adj ls A (k + 1)) := by
              unfold Hid
              rw [HR2.out]
              constructor
              · rintro ⟨u, a1, a2, a3⟩
                exact ⟨u, a1, by omega, a3⟩
              · rintro ⟨u, a1, a2, a3⟩
                refine ⟨u, a1, ?_, a3⟩
                apply Decidable.byContradiction
                intro hc
                have hu : u = k := by omega
                subst hu
                rw [← hx, ← hy, ← hs, ← ht] at a3
                exact he (by rw [a3])
            clear hx hy hs ht he hrun'
            go_wp2
            go_quiet (fail)
            go_wp2
            go_roundw
            case rel => exact ⟨k + 1, r2, by omega, by omega, by go_num, rfl, by simpa using HE.out, m + nq, rfl⟩
            case measure => simp [intOf]; omega
        · have HE : Hid (r2 = true ↔ Dup ls) := by
            unfold Hid
            have e : k = A.length := by have := HAL.out; omega
            rw [HR2.out, e]
            exact adj_iff (by rw [HAL.out]; exact HRun.out) (by rw [HAL.out, HN.out])
          go_wp2_with fail
          refine (zz_rep _ ls _ (rep_some w.heap.size len len ls HN.out h2 (Nat.le_refl _) h2 HS.out (w3.drewN m) (HB3.out.drewN m))).mono ?_
          rintro e w4 ⟨⟨r4, rfl, hr4⟩, hbel⟩
          have heq : r4 = r2 := by
            have h5 := HE.out
            cases r4 <;> cases r2 <;> simp_all
          subst heq
          have HB4 := hide hbel
          clear hbel hr4
          have hq : (r4 == r4) = true := by simp
          go_wp2
          go_ret
          exact ⟨rfl, (HBE3.out.trans (⟨rfl, rfl, rfl, Nat.le_refl _, fun _ _ => rfl⟩ : Below w.heap.size w3 (w3.drewN m))).trans (HB4.out.mono (show w.heap.size ≤ w3.heap.size from Nat.le_of_lt z1))⟩

/-- No label at all, the slice nil. -/
theorem law6_nil (w : World) : Calls Try.prog 6 #[.slice none 0 0] w fun e w' => e = .returned (.bool true) ∧ Below w.heap.size w w' := by
  have hnn := isn22 none 0 0
  go_enter Try.func6, Try.ntmps6
  go_wp2_with fail
  refine (zz19_zero none 0 w).mono ?_
  rintro e w' ⟨⟨r, rfl⟩, rfl⟩
  cases r with
  | false =>
    go_wp2
    go_ret
    exact ⟨rfl, Below.refl _ _⟩
  | true =>
    go_wp2_with fail
    refine (sb_zero none 0 w).mono ?_
    rintro e w' ⟨⟨r, rfl⟩, rfl⟩
    by_cases hr : 1048576 < r
    · go_wp2
      go_ret
      exact ⟨rfl, Below.refl _ _⟩
    · go_wp2_with fail
      refine (sorted_zero none 0 w).mono ?_
      rintro e w3 ⟨bA, rfl, hbel⟩
      have HB := hide hbel
      clear hbel
      go_wp2
      refine wp_loop_rounds 1 ?_
      rw [rounds_succ]
      go_wp2_with fail
      refine (zz_rep _ [] _ (none_at_all none 0 _)).mono ?_
      rintro e w4 ⟨⟨r4, rfl, hr4⟩, hbel⟩
      have h4 : r4 = false := by
        cases r4
        · rfl
        · obtain ⟨a, b, h1, h2, h3⟩ := hr4.1 rfl
          simp at h2
      subst h4
      have HB4 := hide hbel
      clear hbel hr4
      go_wp2
      go_ret
      exact ⟨rfl, HB.out.trans (HB4.out.mono HB.out.size)⟩

/-- No label at all, the slice not nil. -/
theorem law6_empty (x : Addr) (cap : Nat) (w : World) : Calls Try.prog 6 #[.slice (some x) 0 cap] w fun e w' => e = .returned (.bool true) ∧ Below w.heap.size w w' := by
  have hnn := isn22 (some x) 0 cap
  have hmk : ∀ w : World, Sem.run Try.prog (Instr.makeSlice 22 (.int .i64 0) (.int .i64 0)) w = .ok (.slice (some ⟨w.heap.size, 0, none⟩) 0 0) (w.alloc (.cells (madeCells #[.string ByteArray.empty] 0) 9)) :=
    fun w => run_make_row' (P := Try.prog) 22 9 (.string ByteArray.empty) 16 Try.underlying22 info9 rfl .i64 .i64 0 (by omega) (by omega) w
  have hg : Blk (w.alloc (.cells (madeCells #[.string ByteArray.empty] 0) 9)) w.heap.size 9 (strs (List.replicate 0 ByteArray.empty)) := by
    have := Blk.new w (madeCells #[.string ByteArray.empty] 0) 9
    rw [made_strs] at this
    exact this
  have hcp := copy_all (w.alloc (.cells (madeCells #[.string ByteArray.empty] 0) 9)) w.heap.size 0 x 0 cap [] rfl hg (fun i hi => by omega)
  have HBE : Hid (Below w.heap.size w ((w.alloc (.cells (madeCells #[.string ByteArray.empty] 0) 9)).setRow w.heap.size (strs []).toArray)) := below_setRow ((Below.refl _ _).alloc (Nat.le_refl _) _) (Nat.le_refl _) _
  clear hg
  go_enter Try.func6, Try.ntmps6
  go_wp2_with fail
  refine (zz19_zero (some x) cap w).mono ?_
  rintro e w' ⟨⟨r, rfl⟩, rfl⟩
  cases r with
  | false =>
    go_wp2
    go_ret
    exact ⟨rfl, Below.refl _ _⟩
  | true =>
    go_wp2_with fail
    refine (sb_zero (some x) cap w).mono ?_
    rintro e w' ⟨⟨r, rfl⟩, rfl⟩
    by_cases hr : 1048576 < r
    · go_wp2
      go_ret
      exact ⟨rfl, Below.refl _ _⟩
    · go_wp2_with fail
      refine (sorted_zero _ 0 _).mono ?_
      rintro e w3 ⟨bA, rfl, hbel⟩
      have HB := hide (HBE.out.trans (hbel.mono (by simp)))
      clear hbel
      go_wp2
      refine wp_loop_rounds 1 ?_
      rw [rounds_succ]
      go_wp2_with fail
      refine (zz_rep _ [] _ (none_at_all _ 0 _)).mono ?_
      rintro e w4 ⟨⟨r4, rfl, hr4⟩, hbel⟩
      have h4 : r4 = false := by
        cases r4
        · rfl
        · obtain ⟨a, b, h1, h2, h3⟩ := hr4.1 rfl
          simp at h2
      subst h4
      have HB4 := hide hbel
      clear hbel hr4
      go_wp2
      go_ret
      exact ⟨rfl, HB.out.trans (HB4.out.mono HB.out.size)⟩

theorem law6 (a : Option Addr) (len cap : Nat) (ls : List ByteArray) (w : World) (h : SRow w a len cap ls) :
    Calls Try.prog 6 #[.slice a len cap] w fun e w' => e = .returned (.bool true) ∧ Below w.heap.size w w' := by
  rcases h with ⟨rfl, rfl, rfl, rfl⟩ | ⟨x, rfl, h1, h2, h3, h4, h5⟩
  · exact law6_nil w
  · by_cases h0 : len = 0
    · subst h0
      exact law6_empty x cap w
    · obtain ⟨b, off, spot⟩ := x
      have hsp : spot = none := by simpa [Addr.add] using World.cell?_spot (h4 0 (by omega))
      subst hsp
      have hlt : b < w.heap.size := by simpa [Addr.add] using World.block_lt_of_cell? w _ (h4 0 (by omega))
      have hc : ∀ i, i < len → w.cell? ⟨b, off + i, none⟩ = some (.string (ls.getD i ByteArray.empty)) := fun i hi => by
        have := h4 i hi
        rw [add_plain] at this
        exact this
      have hs := getD_size h5
      unfold maxLen at h2
      by_cases hl : 65536 < len
      · exact law6_long b off len cap ls (by omega) hl w hc (fun i => by have := hs i; unfold maxLen at this; exact this)
      · exact law6_some b off len cap ls (by omega) (by omega) h3 w hlt hc hs
end Go.Proofs.Qxb6602784a.grf
