import Derived.WalkKit
import Derived.ProofKit
namespace Go.Proofs.Qxb6602784a.grf
set_option linter.unusedSimpArgs false
set_option linter.unusedVariables false

/-! ### The order on places: by label, then by place -/
/-- The model's '<' on strings is the lexical order of the bytes' lists. -/
theorem bytesLess_lt : ∀ (x y : List UInt8), Op.bytesLess x y = decide (x < y)
  | [], [] => by simp [Op.bytesLess]
  | _ :: _, [] => by simp [Op.bytesLess]
  | [], _ :: _ => by simp [Op.bytesLess]
  | a :: x, b :: y => by
    rw [Op.bytesLess, bytesLess_lt x y]
    simp only [List.cons_lt_cons_iff]
    by_cases h1 : a < b <;> by_cases h2 : a = b <;> by_cases h3 : x < y <;> simp [h1, h2, h3]

/-- The label at a place. -/
def lab (ls : List ByteArray) (i : Nat) : ByteArray := ls.getD i ByteArray.empty

/-- x comes no later than y: by label, then by place. -/
def le (ls : List ByteArray) (x y : Nat) : Bool :=
  decide ((lab ls x).toList < (lab ls y).toList) || ((lab ls x).toList == (lab ls y).toList && decide (x ≤ y))

theorem le_trans (ls : List ByteArray) (a b c : Nat) (h1 : le ls a b = true) (h2 : le ls b c = true) : le ls a c = true := by
  unfold le at *
  simp at *
  rcases h1 with h1 | ⟨h1, h1'⟩ <;> rcases h2 with h2 | ⟨h2, h2'⟩
  · exact .inl (List.lt_trans h1 h2)
  · rw [← h2]; exact .inl h1
  · rw [h1]; exact .inl h2
  · exact .inr ⟨h1.trans h2, by omega⟩

theorem tri (x y : List UInt8) : x < y ∨ x = y ∨ y < x := by
  by_cases h : x < y
  · exact .inl h
  · have h' := List.not_lt.1 h
    rcases List.le_iff_lt_or_eq.1 h' with h2 | h2
    · exact .inr (.inr h2)
    · exact .inr (.inl h2.symm)

theorem le_total (ls : List ByteArray) (a b : Nat) : (le ls a b || le ls b a) = true := by
  unfold le
  rcases tri (lab ls a).toList (lab ls b).toList with h | h | h
  · simp [h]
  · rw [h]; simp; omega
  · simp [h]

/-- Go's test between a place on the left and a greater one on the right. -/
theorem le_test (ls : List ByteArray) (x y : Nat) (h : x < y) : le ls x y = !(Op.bytesLess (lab ls y).toList (lab ls x).toList) := by
  rw [bytesLess_lt]
  unfold le
  rcases tri (lab ls x).toList (lab ls y).toList with h1 | h1 | h1
  · have h2 : ¬ (lab ls y).toList < (lab ls x).toList := fun h3 => List.lt_asymm h1 h3
    simp [h1, h2]
  · rw [h1]
    have h2 : ¬ (lab ls y).toList < (lab ls y).toList := List.lt_irrefl _
    simp [h2]; omega
  · have h2 : ¬ (lab ls x).toList < (lab ls y).toList := fun h3 => List.lt_asymm h1 h3
    have h4 : ¬ (lab ls x).toList = (lab ls y).toList := fun e => List.lt_irrefl _ (e ▸ h1)
    simp [h1, h2, h4]

/-! ### Pieces of a list -/
def seg (A : List Nat) (x y : Nat) : List Nat := (A.drop x).take (y - x)

theorem seg_nil (A : List Nat) (x y : Nat) (h : y ≤ x) : seg A x y = [] := by
  unfold seg; rw [show y - x = 0 by omega]; simp
theorem seg_cons (A : List Nat) (x y : Nat) (h : x < y) (hy : y ≤ A.length) : seg A x y = A.getD x 0 :: seg A (x + 1) y := by
  unfold seg
  rw [List.drop_eq_getElem_cons (by omega), show y - x = (y - (x + 1)) + 1 by omega, List.take_succ_cons]
  simp [show x < A.length by omega]
theorem seg_len (A : List Nat) (x y : Nat) (hy : y ≤ A.length) : (seg A x y).length = y - x := by
  unfold seg; simp; omega
theorem seg_take (A : List Nat) (x y t : Nat) (h : y ≤ t) : seg (A.take t) x y = seg A x y := by
  unfold seg
  rw [List.drop_take, List.take_take]
  congr 1
  omega
theorem take_seg (A : List Nat) (x y : Nat) (h : x ≤ y) : A.take x ++ seg A x y = A.take y := by
  unfold seg
  have := List.take_append_drop x (A.take y)
  rw [List.take_take, List.drop_take, show min x y = x by omega] at this
  exact this
theorem mem_seg {A : List Nat} {x y v : Nat} (h : v ∈ seg A x y) (hy : y ≤ A.length) : ∃ p, x ≤ p ∧ p < y ∧ A.getD p 0 = v := by
  obtain ⟨i, hi, he⟩ := List.getElem_of_mem h
  rw [seg_len A x y hy] at hi
  refine ⟨x + i, by omega, by omega, ?_⟩
  have : (seg A x y)[i]? = some v := by rw [List.getElem?_eq_some_iff]; exact ⟨by rw [seg_len A x y hy]; exact hi, he⟩
  unfold seg at this
  rw [List.getElem?_take, if_pos (by omega), List.getElem?_drop] at this
  rw [List.getD_eq_getElem?_getD, this]; rfl

/-- A run: the places x .. y-1, in order. -/
def Run (ls : List ByteArray) (A : List Nat) (x y : Nat) : Prop :=
  (seg A x y).Pairwise (fun a b => le ls a b = true) ∧ (seg A x y).Perm (List.range' x (y - x))

theorem Run.mem {ls : List ByteArray} {A : List Nat} {x y v : Nat} (h : Run ls A x y) (hv : v ∈ seg A x y) : x ≤ v ∧ v < y := by
  have := (h.2.mem_iff).1 hv
  rw [List.mem_range'_1] at this
  omega

/-- Two runs side by side, merged. -/
theorem Run.merge {ls : List ByteArray} {A : List Nat} {x m y : Nat} (h1 : Run ls A x m) (h2 : Run ls A m y) (hx : x ≤ m) (hy : m ≤ y) {B : List Nat} (hB : seg B x y = List.merge (seg A x m) (seg A m y) (le ls)) : Run ls B x y := by
  constructor
  · rw [hB]
    exact List.pairwise_merge (fun a b c => le_trans ls a b c) (fun a b => le_total ls a b) _ _ h1.1 h2.1
  · rw [hB]
    refine (List.merge_perm_append (le ls)).trans ((h1.2.append h2.2).trans ?_)
    have : List.range' x (y - x) = List.range' x (m - x) ++ List.range' m (y - m) := by
      have h3 := List.range'_append_1 (s := x) (m := m - x) (n := y - m)
      rw [show x + (m - x) = m by omega, show (m - x) + (y - m) = y - x by omega] at h3
      exact h3.symm
    rw [this]

/-- All runs of width W. -/
def Runs (ls : List ByteArray) (A : List Nat) (W n : Nat) : Prop := ∀ m, m * W < n → Run ls A (m * W) (min (m * W + W) n)

theorem runs_one (ls : List ByteArray) (n : Nat) : Runs ls (List.range n) 1 n := by
  intro m hm
  rw [Nat.mul_one] at hm ⊢
  have e : min (m + 1) n = m + 1 := by omega
  rw [e]
  have hs : seg (List.range n) m (m + 1) = [m] := by
    rw [seg_cons _ _ _ (by omega) (by simp; omega), seg_nil _ _ _ (by omega)]
    simp [hm]
  unfold Run
  rw [hs]
  simp [List.range']

theorem getD_seg {A : List Nat} {x y i : Nat} (h1 : x ≤ i) (h2 : i < y) (hy : y ≤ A.length) : A.getD i 0 ∈ seg A x y := by
  have e : (seg A x y)[i - x]? = some (A.getD i 0) := by
    unfold seg
    rw [List.getElem?_take, if_pos (by omega), List.getElem?_drop, show x + (i - x) = i by omega]
    simp [show i < A.length by omega]
  exact List.mem_of_getElem? e

theorem run_empty (ls : List ByteArray) (A : List Nat) (x : Nat) : Run ls A x x := by
  unfold Run; rw [seg_nil A x x (Nat.le_refl _), Nat.sub_self]; simp [List.range']

theorem merge_left {ls : List ByteArray} {A : List Nat} {i mid j hi : Nat} (h1 : i < mid) (h2 : j < hi) (hm : mid ≤ A.length) (hh : hi ≤ A.length) (h : le ls (A.getD i 0) (A.getD j 0) = true) :
    List.merge (seg A i mid) (seg A j hi) (le ls) = A.getD i 0 :: List.merge (seg A (i + 1) mid) (seg A j hi) (le ls) := by
  rw [seg_cons A i mid h1 hm, seg_cons A j hi h2 hh, List.cons_merge_cons_pos _ _ _ h]
theorem merge_right {ls : List ByteArray} {A : List Nat} {i mid j hi : Nat} (h1 : i < mid) (h2 : j < hi) (hm : mid ≤ A.length) (hh : hi ≤ A.length) (h : ¬ le ls (A.getD i 0) (A.getD j 0) = true) :
    List.merge (seg A i mid) (seg A j hi) (le ls) = A.getD j 0 :: List.merge (seg A i mid) (seg A (j + 1) hi) (le ls) := by
  rw [seg_cons A i mid h1 hm, seg_cons A j hi h2 hh, List.cons_merge_cons_neg _ _ _ h]
theorem merge_out {ls : List ByteArray} {A : List Nat} {i mid j hi : Nat} (h : mid ≤ i ∨ hi ≤ j) : List.merge (seg A i mid) (seg A j hi) (le ls) = seg A i mid ++ seg A j hi := by
  rcases h with h | h
  · rw [seg_nil A i mid h]; simp [List.merge]
  · rw [seg_nil A j hi h]; simp [List.merge]

theorem take_put {B : List Nat} {t v : Nat} (h : t < B.length) : (B.set t v).take (t + 1) = B.take t ++ [v] := by
  rw [List.take_succ_eq_append_getElem (by simpa using h), List.take_set, List.set_eq_of_length_le (by simp; omega)]
  simp

/-- What a block's merge leaves. -/
theorem fin_block {B0 B : List Nat} {l hi : Nat} {mg : List Nat} (h : B.take hi = B0.take l ++ mg) (hl : l ≤ B0.length) (hlh : l ≤ hi) : seg B l hi = mg ∧ ∀ x y, y ≤ l → seg B x y = seg B0 x y := by
  constructor
  · have e : seg B l hi = (B.take hi).drop l := by unfold seg; rw [List.drop_take]
    rw [e, h, List.drop_append_of_le_length (by simp; omega)]
    simp
  · intro x y hy
    have e : B.take l = B0.take l := by
      have := congrArg (List.take l) h
      rw [List.take_take, show min l hi = l by omega, List.take_append_of_le_length (by simp; omega), List.take_take, Nat.min_self] at this
      exact this
    rw [← seg_take B x y l hy, e, seg_take B0 x y l hy]

/-- The next block is a run, and the earlier ones stay. -/
theorem next_runs {ls : List ByteArray} {B0 B A : List Nat} {W n m l mid hi : Nat} (hl : l = m * (2 * W)) (hln : l < n) (hmid : mid = min (l + W) n) (hhi : hi = min (mid + W) n) (hB0 : B0.length = n)
    (h : B.take hi = B0.take l ++ List.merge (seg A l mid) (seg A mid hi) (le ls)) (r1 : Run ls A l mid) (r2 : Run ls A mid hi) (hR : ∀ m', m' < m → m' * (2 * W) < n → Run ls B0 (m' * (2 * W)) (min (m' * (2 * W) + 2 * W) n)) :
    ∀ m', m' < m + 1 → m' * (2 * W) < n → Run ls B (m' * (2 * W)) (min (m' * (2 * W) + 2 * W) n) := by
  obtain ⟨f1, f2⟩ := fin_block h (by omega) (by omega)
  intro m' h1 h2
  by_cases e : m' = m
  · subst e
    rw [← hl, show min (l + 2 * W) n = hi by omega]
    exact Run.merge r1 r2 (by omega) (by omega) f1
  · have h3 : (m' + 1) * (2 * W) ≤ m * (2 * W) := Nat.mul_le_mul_right _ (by omega)
    rw [Nat.add_mul, Nat.one_mul] at h3
    have h4 := hR m' (by omega) h2
    unfold Run at h4 ⊢
    rw [f2 _ _ (by omega)]
    exact h4

/-- The two runs of a block of width 2W. -/
theorem two_runs {ls : List ByteArray} {A : List Nat} {W n m l mid hi : Nat} (h : Runs ls A W n) (hl : l = m * (2 * W)) (hln : l < n) (hmid : mid = min (l + W) n) (hhi : hi = min (mid + W) n) : Run ls A l mid ∧ Run ls A mid hi := by
  have e : l = (2 * m) * W := by rw [hl, Nat.mul_comm 2 m, Nat.mul_assoc]
  constructor
  · have := h (2 * m) (by omega)
    rw [← e, ← hmid] at this
    exact this
  · by_cases c : mid < n
    · have e2 : mid = (2 * m + 1) * W := by rw [Nat.add_mul, Nat.one_mul, ← e]; omega
      have := h (2 * m + 1) (by omega)
      rw [← e2, ← hhi] at this
      exact this
    · rw [show hi = mid by omega]
      exact run_empty ls A mid
end Go.Proofs.Qxb6602784a.grf
