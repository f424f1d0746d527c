import Derived.WalkKit
import Derived.ProofKit
namespace Go.Proofs.Qxb6602704a.box
open Go.RowKit
set_option linter.unusedSimpArgs false
set_option linter.unusedVariables false

/-! ### Sums along a line, its ends repeated -/
def pre (p : Nat → Int) : Nat → Int
  | 0 => 0
  | k + 1 => pre p k + p k

/-- The sum of the line's pixels ahead of place x, the ends repeated (below place 0: taken away). -/
def C (p : Nat → Int) (len : Nat) (x : Int) : Int :=
  if x < 0 then x * p 0 else if x ≤ len then pre p x.toNat else pre p len + (x - len) * p (len - 1)

/-- The pixel at place x, the ends repeated. -/
def clampTo (len : Nat) (x : Int) : Nat := (min (max x 0) ((len : Int) - 1)).toNat

theorem clamp_lt (len : Nat) (x : Int) (h : 1 ≤ len) : clampTo len x < len := by unfold clampTo; omega

theorem C_step (p : Nat → Int) (len : Nat) (h : 1 ≤ len) (x : Int) : C p len (x + 1) = C p len x + p (clampTo len x) := by
  unfold C
  by_cases a : x < 0
  · have e : clampTo len x = 0 := by unfold clampTo; omega
    rw [if_pos a, e]
    by_cases b : x + 1 < 0
    · rw [if_pos b, Int.add_mul]; omega
    · have hx : x = -1 := by omega
      subst hx
      rw [if_neg (by omega), if_pos (by omega)]
      simp [pre]
      omega
  · rw [if_neg a, if_neg (show ¬ x + 1 < 0 by omega)]
    by_cases b : x + 1 ≤ len
    · have e : clampTo len x = x.toNat := by unfold clampTo; omega
      rw [if_pos b, if_pos (by omega), e, show (x + 1).toNat = x.toNat + 1 by omega]
      rfl
    · have e : clampTo len x = len - 1 := by unfold clampTo; omega
      rw [if_neg b, e]
      by_cases c : x ≤ len
      · have hx : x = len := by omega
        subst hx
        rw [if_pos (by omega), show ((len : Int)).toNat = len by omega, show (len : Int) + 1 - len = 1 by omega]
        omega
      · rw [if_neg c, show x + 1 - (len : Int) = (x - len) + 1 by omega, Int.add_mul]
        omega

theorem C_up (p : Nat → Int) (len : Nat) (h : 1 ≤ len) (h0 : ∀ k, 0 ≤ p k) (h1 : ∀ k, p k ≤ 255) (x : Int) (m : Nat) : 0 ≤ C p len (x + m) - C p len x ∧ C p len (x + m) - C p len x ≤ 255 * m := by
  induction m with
  | zero => simp
  | succ k ih =>
    have e : x + ((k + 1 : Nat) : Int) = (x + k) + 1 := by omega
    rw [e, C_step p len h]
    have a := h0 (clampTo len (x + k))
    have b := h1 (clampTo len (x + k))
    omega

/-- The window's sum at place j. -/
def S (p : Nat → Int) (len reach j : Nat) : Int := C p len ((j : Int) + reach + 1) - C p len ((j : Int) - reach)

theorem S_bd (p : Nat → Int) (len reach j : Nat) (h : 1 ≤ len) (h0 : ∀ k, 0 ≤ p k) (h1 : ∀ k, p k ≤ 255) : 0 ≤ S p len reach j ∧ S p len reach j ≤ 255 * (2 * reach + 1) := by
  have := C_up p len h h0 h1 ((j : Int) - reach) (2 * reach + 1)
  unfold S
  rw [show (j : Int) - reach + ((2 * reach + 1 : Nat) : Int) = (j : Int) + reach + 1 by omega] at this
  omega

/-- The running sum's step. -/
theorem S_step (p : Nat → Int) (len reach j : Nat) (h : 1 ≤ len) : S p len reach (j + 1) = S p len reach j + (p (clampTo len ((j : Int) + reach + 1)) - p (clampTo len ((j : Int) - reach))) := by
  unfold S
  rw [show ((j + 1 : Nat) : Int) + reach + 1 = ((j : Int) + reach + 1) + 1 by omega, show ((j + 1 : Nat) : Int) - reach = ((j : Int) - reach) + 1 by omega, C_step p len h ((j : Int) + reach + 1), C_step p len h ((j : Int) - reach)]
  omega

/-- The mean, rounded. -/
def mean (s : Int) (reach : Nat) : Int := (2 * s + (2 * reach + 1)) / (2 * (2 * reach + 1))

theorem mean_bd (s : Int) (reach : Nat) (h0 : 0 ≤ s) (h1 : s ≤ 255 * (2 * reach + 1)) : 0 ≤ mean s reach ∧ mean s reach ≤ 255 := by
  unfold mean
  have hp : (0 : Int) < 2 * (2 * reach + 1) := by omega
  constructor
  · exact Int.ediv_nonneg (by omega) (by omega)
  · have : (2 * s + (2 * reach + 1)) / (2 * (2 * reach + 1)) < 256 := Int.ediv_lt_of_lt_mul hp (by omega)
    omega

theorem mean_eq (s : Int) (reach : Nat) (h0 : 0 ≤ s) : (s + (2 * (reach : Int) + 1) / 2) / (2 * reach + 1) = mean s reach := by
  unfold mean
  have e : (2 * (reach : Int) + 1) / 2 = reach := by omega
  rw [e]
  have h2 : (2 * s + (2 * (reach : Int) + 1)) / (2 * (2 * reach + 1)) = ((2 * s + (2 * (reach : Int) + 1)) / 2) / (2 * reach + 1) := by
    rw [Int.ediv_ediv_of_nonneg (by omega)]
  rw [h2]
  congr 1
  omega

/-! ### The model's sum, in its four ways -/
theorem model_sum (p : Nat → Int) (len reach j : Nat) (h : j < len) :
    pre p ((if (len : Int) - 1 < (j : Int) + reach then (len : Int) - 1 else (j : Int) + reach) + 1).toNat - pre p (if (j : Int) - reach < 0 then 0 else (j : Int) - reach).toNat
      + (if (j : Int) - reach < 0 then -((j : Int) - reach) * p 0 else 0) + (if (len : Int) - 1 < (j : Int) + reach then ((j : Int) + reach - ((len : Int) - 1)) * p (len - 1) else 0) = S p len reach j := by
  unfold S C
  rw [if_neg (show ¬ (j : Int) + reach + 1 < 0 by omega)]
  by_cases a : (j : Int) - reach < 0
  · rw [if_pos a, if_pos a, if_pos a]
    by_cases b : (len : Int) - 1 < (j : Int) + reach
    · rw [if_pos b, if_pos b]
      by_cases c : (j : Int) + reach + 1 ≤ len
      · have e : (j : Int) + reach + 1 = len := by omega
        omega
      · rw [if_neg c, show ((len : Int) - 1 + 1).toNat = len by omega, show (j : Int) + reach - ((len : Int) - 1) = (j : Int) + reach + 1 - len by omega, Int.neg_mul]
        simp [pre]
        omega
    · rw [if_neg b, if_neg b, if_pos (by omega), Int.neg_mul]
      simp [pre]
      omega
  · rw [if_neg a, if_neg a, if_neg a, if_pos (show (j : Int) - reach ≤ len by omega)]
    by_cases b : (len : Int) - 1 < (j : Int) + reach
    · rw [if_pos b, if_pos b]
      by_cases c : (j : Int) + reach + 1 ≤ len
      · have e : (j : Int) + reach + 1 = len := by omega
        omega
      · rw [if_neg c, show ((len : Int) - 1 + 1).toNat = len by omega, show (j : Int) + reach - ((len : Int) - 1) = (j : Int) + reach + 1 - len by omega]
        omega
    · rw [if_neg b, if_neg b, if_pos (by omega)]
      omega

/-! ### Writing the pixels: line by line, pixel by pixel, channel by channel -/
def putC (d : List Int) (o : Nat) (f : Nat → Int) : Nat → List Int
  | 0 => d
  | c + 1 => (putC d o f c).set (o + c) (f c)
def putJ (d : List Int) (o : Nat → Nat) (f : Nat → Nat → Int) : Nat → List Int
  | 0 => d
  | j + 1 => putC (putJ d o f j) (o j) (f j) 4
def putI (d : List Int) (len : Nat) (o : Nat → Nat → Nat) (f : Nat → Nat → Nat → Int) : Nat → List Int
  | 0 => d
  | i + 1 => putJ (putI d len o f i) (o i) (f i) len

theorem putC_len (d : List Int) (o : Nat) (f : Nat → Int) (c : Nat) : (putC d o f c).length = d.length := by
  induction c with
  | zero => rfl
  | succ k ih => simp [putC, ih]
theorem putJ_len (d : List Int) (o : Nat → Nat) (f : Nat → Nat → Int) (j : Nat) : (putJ d o f j).length = d.length := by
  induction j with
  | zero => rfl
  | succ k ih => simp [putJ, putC_len, ih]
theorem putI_len (d : List Int) (len : Nat) (o : Nat → Nat → Nat) (f : Nat → Nat → Nat → Int) (i : Nat) : (putI d len o f i).length = d.length := by
  induction i with
  | zero => rfl
  | succ k ih => simp [putI, putJ_len, ih]

/-- The line through byte 'base', step T. -/
def lineOf (src : List Int) (base T : Nat) : Nat → Int := fun k => src.getD (base + k * T) 0

/-- The value of channel c of pixel j of line i. -/
def val (src : List Int) (L T len reach i j c : Nat) : Int := mean (S (lineOf src (i * L + c) T) len reach j) reach

/-- What stands in dst at the end. -/
def result (src d : List Int) (L T DL DT n len reach : Nat) : List Int :=
  putI d len (fun i j => i * DL + j * DT) (fun i j c => val src L T len reach i j c) n

/-- The geometry of a buffer: line and step are multiplied without a wrap. -/
structure Geo (size : Nat) (line step : Int) (n len L T : Nat) : Prop where
  hl : ∀ i : Nat, i < n → wrap64 ((i : Int) * line) = ((i * L : Nat) : Int)
  hs : ∀ j : Nat, j < len → wrap64 ((j : Int) * step) = ((j * T : Nat) : Int)
  fit : ∀ i j : Nat, i < n → j < len → i * L + j * T + 4 ≤ size

theorem src_bd {src : List Int} (h : ∀ x ∈ src, 0 ≤ x ∧ x ≤ 255) (i : Nat) : 0 ≤ src.getD i 0 ∧ src.getD i 0 ≤ 255 := by
  by_cases c : i < src.length
  · have := h (src.getD i 0) (by simp [c])
    exact this
  · have e : src.getD i 0 = 0 := by simp [List.getD_eq_getElem?_getD, List.getElem?_eq_none (show src.length ≤ i by omega)]
    rw [e]; omega
end Go.Proofs.Qxb6602704a.box
