import Derived.Test.Qxb6602784aGrfD
import Derived.Outline
namespace Go.Proofs.Qxb6602784a.grf
open Go.ChangeShapes Go.WideShapes Go.ChangeAt Go.RowKit Go.Maps
set_option linter.unusedSimpArgs false
set_option linter.unusedVariables false

theorem info4 : (Try.prog.info? 4).map (fun i => (i.zero, i.size, i.bytes)) = some (some (.bool false), 1, 1) := by kernel_rfl

/-- A list of bools as cells. -/
def bools (xs : List Bool) : List Value := xs.map Value.bool
theorem Blk.boolAt {w : World} {b : Nat} {t : TypeId} {xs : List Bool} (h : Blk w b t (bools xs)) (i : Nat) (hi : i < xs.length) : w.cell? ⟨b, i, none⟩ = some (.bool (xs.getD i false)) := by
  rw [h.cell]; simp [bools, hi]
theorem Blk.setBool {w : World} {b : Nat} {t : TypeId} {xs : List Bool} (h : Blk w b t (bools xs)) (i : Nat) (v : Bool) : Blk (w.setCell ⟨b, i, none⟩ (.bool v)) b t (bools (xs.set i v)) := by
  have := h.set i (.bool v)
  rw [show (bools xs).set i (.bool v) = bools (xs.set i v) from by simp [bools, List.map_set]] at this
  exact this
theorem made_bools (n : Nat) : (madeCells #[.bool false] n).toList = bools (List.replicate n false) := by
  apply List.ext_getElem?
  intro i
  by_cases h : i < n
  · simp [madeCells, bools, h, Nat.mod_one]
  · simp [madeCells, bools, h]

/-- The first of its label stands where the label begins, in order. -/
theorem head_iff {ls : List ByteArray} {A : List Nat} (h : Run ls A 0 A.length) (hl : A.length = ls.length) (t : Nat) (ht : t < A.length) :
    isFirst ls (A.getD t 0) = true ↔ (t = 0 ∨ lab ls (A.getD t 0) ≠ lab ls (A.getD (t - 1) 0)) := by
  rw [isFirst_iff]
  constructor
  · intro hf
    by_cases c : t = 0
    · exact .inl c
    · right
      intro e
      have hle := run_le h (t - 1) t (by omega) ht
      have hne := run_inj h (t - 1) t (by omega) ht
      unfold le at hle
      rw [e] at hle
      simp at hle
      have hlt : A.getD (t - 1) 0 < A.getD t 0 := by
        rcases hle with hle | hle
        · exact absurd hle (List.lt_irrefl _)
        · simp only [List.getD_eq_getElem?_getD] at hle hne ⊢
          omega
      exact hf _ hlt e.symm
  · intro hc j hj e
    have hjl : j < A.length := Nat.lt_trans hj (run_lt h t ht)
    obtain ⟨q, hq, eq⟩ := run_all h j hjl
    have hqt : q ≠ t := by intro e2; rw [e2] at eq; omega
    by_cases c : q < t
    · rcases hc with hc | hc
      · omega
      · apply hc
        by_cases c2 : q = t - 1
        · rw [← c2, eq]; exact e.symm
        · have := le_mid (run_le h q (t - 1) (by omega) (by omega)) (run_le h (t - 1) t (by omega) ht) (by rw [eq]; exact e)
          rw [this, eq]; exact e.symm
    · have hle := run_le h t q (by omega) hq
      rw [eq] at hle
      unfold le at hle
      rw [e] at hle
      simp at hle
      rcases hle with hle | hle
      · exact absurd hle (List.lt_irrefl _)
      · simp only [List.getD_eq_getElem?_getD] at hle hj
        omega

/-- What keep holds behind k rounds. -/
def KeepIs (ls : List ByteArray) (A : List Nat) (K : List Bool) (k n : Nat) : Prop :=
  K.length = n ∧ ∀ i, i < n → (K.getD i false = true ↔ ∃ u, u < k ∧ A.getD u 0 = i ∧ isFirst ls i = true)

theorem keepIs_start (ls : List ByteArray) (A : List Nat) (n : Nat) : KeepIs ls A (List.replicate n false) 0 n := by
  refine ⟨by simp, fun i hi => ?_⟩
  constructor
  · intro h; simp [hi] at h
  · rintro ⟨u, h, _⟩; omega

theorem keepIs_yes {ls : List ByteArray} {A : List Nat} {K : List Bool} {k n x : Nat} (h : KeepIs ls A K k n) (hx : A.getD k 0 = x) (hxn : x < n) (hf : isFirst ls x = true) : KeepIs ls A (K.set x true) (k + 1) n := by
  refine ⟨by simp [h.1], fun i hi => ?_⟩
  by_cases c : i = x
  · subst c
    constructor
    · intro _; exact ⟨k, by omega, hx, hf⟩
    · intro _; simp [h.1, hi]
  · rw [List.getD_eq_getElem?_getD, List.getElem?_set_ne (by omega), ← List.getD_eq_getElem?_getD, h.2 i hi]
    constructor
    · rintro ⟨u, a, b, d⟩; exact ⟨u, by omega, b, d⟩
    · rintro ⟨u, a, b, d⟩
      refine ⟨u, ?_, b, d⟩
      apply Decidable.byContradiction
      intro hc
      have : u = k := by omega
      subst this
      omega

theorem keepIs_no {ls : List ByteArray} {A : List Nat} {K : List Bool} {k n x : Nat} (h : KeepIs ls A K k n) (hx : A.getD k 0 = x) (hf : ¬ isFirst ls x = true) : KeepIs ls A K (k + 1) n := by
  refine ⟨h.1, fun i hi => ?_⟩
  rw [h.2 i hi]
  constructor
  · rintro ⟨u, a, b, d⟩; exact ⟨u, by omega, b, d⟩
  · rintro ⟨u, a, b, d⟩
    refine ⟨u, ?_, b, d⟩
    apply Decidable.byContradiction
    intro hc
    have : u = k := by omega
    subst this
    rw [hx] at b
    rw [b] at hf
    exact hf d

theorem keepIs_end {ls : List ByteArray} {A : List Nat} {K : List Bool} {n : Nat} (h : KeepIs ls A K n n) (hr : Run ls A 0 A.length) (hA : A.length = n) (i : Nat) (hi : i < n) : K.getD i false = isFirst ls i := by
  have := h.2 i hi
  have h2 : (∃ u, u < n ∧ A.getD u 0 = i ∧ isFirst ls i = true) ↔ isFirst ls i = true := by
    constructor
    · rintro ⟨u, _, _, d⟩; exact d
    · intro d
      obtain ⟨p, hp, e⟩ := run_all hr i (by omega)
      exact ⟨p, by omega, e, d⟩
  rw [h2] at this
  cases hk : K.getD i false <;> cases hf : isFirst ls i <;> simp_all

structure FM (w wr : World) (bl : Nat) (ls : List ByteArray) (bA bK : Nat) (A : List Nat) (K : List Bool) : Prop where
  hl : Blk wr bl 9 (strs ls)
  ha : Blk wr bA 3 (nats A)
  hk : Blk wr bK 4 (bools K)
  la : w.heap.size ≤ bA
  lk : w.heap.size ≤ bK
  ne : bA ≠ bK
  bel : Below w.heap.size w wr

section
variable {w wr : World} {bl : Nat} {ls : List ByteArray} {bA bK : Nat} {A : List Nat} {K : List Bool}
theorem FM.setK (h : FM w wr bl ls bA bK A K) (hbl : bl < w.heap.size) (i : Nat) (v : Bool) : FM w (wr.setCell ⟨bK, i, none⟩ (.bool v)) bl ls bA bK A (K.set i v) :=
  ⟨h.hl.set_ne _ (by have := h.lk; simp; omega) _, h.ha.set_ne _ (by have := h.ne; simpa using this) _, h.hk.setBool i v, h.la, h.lk, h.ne, h.bel.setCell h.lk _⟩
theorem FM.drewN (h : FM w wr bl ls bA bK A K) (n : Nat) : FM w (wr.drewN n) bl ls bA bK A K :=
  ⟨h.hl, h.ha, h.hk, h.la, h.lk, h.ne, h.bel.trans ⟨rfl, rfl, rfl, Nat.le_refl _, fun _ _ => rfl⟩⟩
end
end Go.Proofs.Qxb6602784a.grf
