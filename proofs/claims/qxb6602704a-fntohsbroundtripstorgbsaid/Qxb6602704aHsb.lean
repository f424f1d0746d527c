import Derived.Test.Qxb6602704aRows
import Derived.WalkKit
import Derived.ProofKit
import Derived.WalkLawsBesides
import Derived.Test.Qxb6602704aFlo
namespace Go.Proofs.Qxb6602704a.flo
open Go.ChangeShapes Go.WideShapes Go.ChangeAt Go.RowKit
open Ieee
set_option linter.unusedSimpArgs false
set_option linter.unusedVariables false

theorem c0 : Fine 0 ∧ V 0 = 0 := ⟨⟨_, _, _, rfl⟩, by decide +kernel⟩
theorem c255 : Fine 4643176031446892544 ∧ V 4643176031446892544 = 255 := ⟨⟨_, _, _, rfl⟩, by decide +kernel⟩
theorem c6 : Fine 4618441417868443648 ∧ V 4618441417868443648 = 6 := ⟨⟨_, _, _, rfl⟩, by decide +kernel⟩
theorem c1 : Fine 4607182418800017408 ∧ V 4607182418800017408 = 1 := ⟨⟨_, _, _, rfl⟩, by decide +kernel⟩
theorem c2 : Fine 4611686018427387904 ∧ V 4611686018427387904 = 2 := ⟨⟨_, _, _, rfl⟩, by decide +kernel⟩
theorem c4 : Fine 4616189618054758400 ∧ V 4616189618054758400 = 4 := ⟨⟨_, _, _, rfl⟩, by decide +kernel⟩
theorem chalf : Fine 4602678819172646912 ∧ V 4602678819172646912 = 1 / 2 := ⟨⟨_, _, _, rfl⟩, by decide +kernel⟩
theorem cmhalf : Fine 13826050856027422720 ∧ V 13826050856027422720 = -1 / 2 := ⟨⟨_, _, _, rfl⟩, by decide +kernel⟩
theorem cthird : Fine 4599676419421066581 ∧ V 4599676419421066581 - 1 / 3 ≤ E ∧ 1 / 3 - V 4599676419421066581 ≤ E := ⟨⟨_, _, _, rfl⟩, by decide +kernel, by decide +kernel⟩
theorem cnano : Fine 4472406533629990549 ∧ 1 / 1073741824 ≤ V 4472406533629990549 := ⟨⟨_, _, _, rfl⟩, by decide +kernel⟩
theorem cmnano : Fine 13695778570484766357 ∧ V 13695778570484766357 ≤ -1 / 1073741824 := ⟨⟨_, _, _, rfl⟩, by decide +kernel⟩
theorem E_pos : (0 : Rat) ≤ E := by unfold E; decide +kernel
theorem E_small : 17592186044416 * E = 1 := by unfold E; decide +kernel

abbrev FI (n : Int) : Nat := floatOfInt .f64 n

theorem div_le_of {a b c : Rat} (hb : 0 < b) (h : a ≤ c * b) : a / b ≤ c := by
  apply Rat.le_of_mul_le_mul_right _ hb
  rw [Rat.div_mul_cancel (Rat.ne_of_gt hb)]
  exact h
theorem le_div_of {a b c : Rat} (hb : 0 < b) (h : c * b ≤ a) : c ≤ a / b := by
  apply Rat.le_of_mul_le_mul_right _ hb
  rw [Rat.div_mul_cancel (Rat.ne_of_gt hb)]
  exact h

theorem cast_le {a b : Int} (h : a ≤ b) : (a : Rat) ≤ (b : Rat) := Rat.intCast_le_intCast.2 h
theorem cast_pos {a : Int} (h : 0 < a) : (0 : Rat) < (a : Rat) := Rat.intCast_pos.2 h

/-- A proper fraction lies between -1 and 1. -/
theorem frac_le {n d : Int} (hd : 0 < d) (h1 : -d ≤ n) (h2 : n ≤ d) : (n : Rat) / (d : Rat) ≤ 1 ∧ -1 ≤ (n : Rat) / (d : Rat) := by
  have hp := cast_pos hd
  have a1 := cast_le h1
  have a2 := cast_le h2
  rw [Rat.intCast_neg] at a1
  exact ⟨div_le_of hp (by grind), le_div_of hp (by grind)⟩

/-- The quotient of two small whole numbers. -/
theorem ex_q (n d : Int) (hd : 0 < d) (hd2 : d ≤ 255) (h1 : -d ≤ n) (h2 : n ≤ d) :
    ∃ q, double.div (FI n) (FI d) = some q ∧ Fine q ∧ V q - (n : Rat) / (d : Rat) ≤ 2 * E ∧ (n : Rat) / (d : Rat) - V q ≤ 2 * E := by
  obtain ⟨f1, v1⟩ := ofInt_exact n (by omega) (by omega)
  obtain ⟨f2, v2⟩ := ofInt_exact d (by omega) (by omega)
  obtain ⟨b1, b2⟩ := frac_le hd h1 h2
  have := div_near f1 f2 (by rw [v2]; exact Rat.ne_of_gt (cast_pos hd)) (by rw [v1, v2]; grind) (by rw [v1, v2]; grind)
  rw [v1, v2] at this
  exact this

/-- Brightness and saturation, as words. -/
def vW (hi : Int) : Nat := (double.div (FI hi) 4643176031446892544).getD 0
def sW (hi lo : Int) : Nat := (double.div (FI (hi - lo)) (FI hi)).getD 0

theorem ex_v (hi : Int) (h0 : 0 ≤ hi) (h1 : hi ≤ 255) : double.div (FI hi) 4643176031446892544 = some (vW hi) ∧ Fine (vW hi) ∧ V (vW hi) - (hi : Rat) / 255 ≤ 2 * E ∧ (hi : Rat) / 255 - V (vW hi) ≤ 2 * E := by
  obtain ⟨f1, v1⟩ := ofInt_exact hi (by omega) (by omega)
  obtain ⟨f2, v2⟩ := c255
  have a0 := cast_le h0
  have a1 := cast_le h1
  have e0 : ((0 : Int) : Rat) = 0 := rfl
  have e1 : ((255 : Int) : Rat) = 255 := rfl
  rw [e0] at a0
  rw [e1] at a1
  have p : (0 : Rat) < 255 := by decide
  obtain ⟨q, hq, hf, d1, d2⟩ := div_near f1 f2 (by rw [v2]; decide) (by rw [v1, v2]; exact div_le_of p (by grind)) (by rw [v1, v2]; exact le_div_of p (by grind))
  rw [v1, v2] at d1 d2
  have hw : vW hi = q := by unfold vW; rw [hq]; rfl
  rw [hw]
  exact ⟨hq, hf, d1, d2⟩

theorem ex_s (hi lo : Int) (h0 : 0 ≤ lo) (h1 : lo < hi) (h2 : hi ≤ 255) : double.div (FI (hi - lo)) (FI hi) = some (sW hi lo) ∧ Fine (sW hi lo) ∧ V (sW hi lo) - ((hi - lo : Int) : Rat) / (hi : Rat) ≤ 2 * E ∧ ((hi - lo : Int) : Rat) / (hi : Rat) - V (sW hi lo) ≤ 2 * E := by
  obtain ⟨q, hq, hf, d1, d2⟩ := ex_q (hi - lo) hi (by omega) h2 (by omega) (by omega)
  have hw : sW hi lo = q := by unfold sW; rw [hq]; rfl
  rw [hw]
  exact ⟨hq, hf, d1, d2⟩

theorem zero_over : ∀ k : Fin 256, k.val ≠ 0 → double.div (FI 0) (FI (k.val : Int)) = some 0 := by decide +kernel
theorem zero_sixth : double.div 0 4618441417868443648 = some 0 := by decide +kernel
theorem self_over : ∀ k : Fin 256, k.val ≠ 0 → double.div (FI (k.val : Int)) (FI (k.val : Int)) = some 4607182418800017408 := by decide +kernel

/-- A sixth of a small number. -/
theorem ex_sixth (q : Nat) (a : Rat) (e : Rat) (hf : Fine q) (h1 : V q - a ≤ e) (h2 : a - V q ≤ e) (he : e ≤ 1) (he0 : 0 ≤ e) (ha : a ≤ 8) (ha' : -8 ≤ a) :
    ∃ h, double.div q 4618441417868443648 = some h ∧ Fine h ∧ V h - a / 6 ≤ e + 2 * E ∧ a / 6 - V h ≤ e + 2 * E := by
  obtain ⟨f2, v2⟩ := c6
  have p : (0 : Rat) < 6 := by decide
  obtain ⟨h, hq, hf', d1, d2⟩ := div_near hf f2 (by rw [v2]; decide) (by rw [v2]; exact div_le_of p (by grind)) (by rw [v2]; exact le_div_of p (by grind))
  rw [v2] at d1 d2
  exact ⟨h, hq, hf', by grind, by grind⟩

/-- The hue where red is greatest, before a whole turn may be added. -/
theorem ex_h0 (n d : Int) (hd : 0 < d) (hd2 : d ≤ 255) (h1 : -d ≤ n) (h2 : n ≤ d) :
    ∃ q h, double.div (FI n) (FI d) = some q ∧ double.div q 4618441417868443648 = some h ∧ Fine h ∧ V h - (n : Rat) / (d : Rat) / 6 ≤ 4 * E ∧ (n : Rat) / (d : Rat) / 6 - V h ≤ 4 * E ∧ (0 ≤ n → 0 ≤ V h) ∧ (n < 0 → V h < 0) := by
  obtain ⟨q, hq, hf, d1, d2⟩ := ex_q n d hd hd2 h1 h2
  obtain ⟨b1, b2⟩ := frac_le hd h1 h2
  have eE := E_small
  have ep := E_pos
  obtain ⟨h, hh, hf', d3, d4⟩ := ex_sixth q _ (2 * E) hf d1 d2 (by grind) (by grind) (by grind) (by grind)
  refine ⟨q, h, hq, hh, hf', by grind, by grind, ?_, ?_⟩
  · intro hn
    by_cases h0 : n = 0
    · subst h0
      have z := zero_over ⟨d.toNat, by omega⟩ (by simp; omega)
      have e : ((⟨d.toNat, by omega⟩ : Fin 256).val : Int) = d := by simp; omega
      rw [e, hq] at z
      cases z
      rw [zero_sixth] at hh
      cases hh
      rw [c0.2]
      decide
    · have hp := cast_pos hd
      have hn1 := cast_le (show (1 : Int) ≤ n by omega)
      have hd3 := cast_le hd2
      have e1 : ((1 : Int) : Rat) = 1 := rfl
      have e2 : ((255 : Int) : Rat) = 255 := rfl
      rw [e1] at hn1
      rw [e2] at hd3
      have : (1 : Rat) / 255 ≤ (n : Rat) / (d : Rat) := le_div_of hp (by grind)
      grind
  · intro hn
    have hp := cast_pos hd
    have hn1 := cast_le (show n ≤ -1 by omega)
    have hd3 := cast_le hd2
    have e1 : ((-1 : Int) : Rat) = -1 := rfl
    have e2 : ((255 : Int) : Rat) = 255 := rfl
    rw [e1] at hn1
    rw [e2] at hd3
    have : (n : Rat) / (d : Rat) ≤ -1 / 255 := div_le_of hp (by grind)
    grind

/-- A whole turn added. -/
theorem ex_turn (h : Nat) (hf : Fine h) (a : Rat) (d1 : V h - a ≤ 4 * E) (d2 : a - V h ≤ 4 * E) (ha : a ≤ 1) (hb : -1 ≤ a) :
    ∃ h2, double.add h 4607182418800017408 = some h2 ∧ Fine h2 ∧ V h2 - (a + 1) ≤ 5 * E ∧ (a + 1) - V h2 ≤ 5 * E := by
  obtain ⟨f2, v2⟩ := c1
  have eE := E_small
  have ep := E_pos
  obtain ⟨r, hr, hf', e1, e2⟩ := add_near hf f2 (by rw [v2]; grind) (by rw [v2]; grind)
  rw [v2] at e1 e2
  exact ⟨r, hr, hf', by grind, by grind⟩

/-- The hue where green (k = 2) or blue (k = 4) is greatest. -/
theorem ex_hk (kw : Nat) (k : Rat) (hk : Fine kw ∧ V kw = k) (hk2 : 2 ≤ k) (hk4 : k ≤ 4) (n d : Int) (hd : 0 < d) (hd2 : d ≤ 255) (h1 : -d ≤ n) (h2 : n ≤ d) :
    ∃ q s h, double.div (FI n) (FI d) = some q ∧ double.add kw q = some s ∧ double.div s 4618441417868443648 = some h ∧ Fine h ∧ V h - (k + (n : Rat) / (d : Rat)) / 6 ≤ 5 * E ∧ (k + (n : Rat) / (d : Rat)) / 6 - V h ≤ 5 * E := by
  obtain ⟨q, hq, hf, d1, d2⟩ := ex_q n d hd hd2 h1 h2
  obtain ⟨b1, b2⟩ := frac_le hd h1 h2
  obtain ⟨f2, v2⟩ := hk
  have eE := E_small
  have ep := E_pos
  obtain ⟨s, hs, hfs, e1, e2⟩ := add_near f2 hf (by rw [v2]; grind) (by rw [v2]; grind)
  rw [v2] at e1 e2
  obtain ⟨h, hh, hf', d3, d4⟩ := ex_sixth s (k + (n : Rat) / (d : Rat)) (3 * E) hfs (by grind) (by grind) (by grind) (by grind) (by grind) (by grind)
  exact ⟨q, s, h, hq, hs, hh, hf', by grind, by grind⟩

/-- The walk's law for one operation. -/
theorem rq {x y r : Nat} (h : double.div x y = some r) : ∀ w : World, Sem.run Try.prog (binOp BinOp.quo 33 (Value.float FloatKind.f64 x) (Value.float FloatKind.f64 y)) w = .ok (.float .f64 r) w :=
  fun w => run_float_arith w .quo 33 .f64 x y r h
theorem ra {x y r : Nat} (h : double.add x y = some r) : ∀ w : World, Sem.run Try.prog (binOp BinOp.add 33 (Value.float FloatKind.f64 x) (Value.float FloatKind.f64 y)) w = .ok (.float .f64 r) w :=
  fun w => run_float_arith w .add 33 .f64 x y r h
theorem rs {x y r : Nat} (h : double.sub x y = some r) : ∀ w : World, Sem.run Try.prog (binOp BinOp.sub 33 (Value.float FloatKind.f64 x) (Value.float FloatKind.f64 y)) w = .ok (.float .f64 r) w :=
  fun w => run_float_arith w .sub 33 .f64 x y r h
theorem rm {x y r : Nat} (h : double.mul x y = some r) : ∀ w : World, Sem.run Try.prog (binOp BinOp.mul 33 (Value.float FloatKind.f64 x) (Value.float FloatKind.f64 y)) w = .ok (.float .f64 r) w :=
  fun w => run_float_arith w .mul 33 .f64 x y r h

/-- The hue, exactly. -/
def hue (r g b hi lo : Int) : Rat :=
  if hi = r then (if g < b then ((g - b : Int) : Rat) / ((hi - lo : Int) : Rat) / 6 + 1 else ((g - b : Int) : Rat) / ((hi - lo : Int) : Rat) / 6)
  else if hi = g then (2 + ((b - r : Int) : Rat) / ((hi - lo : Int) : Rat)) / 6
  else (4 + ((r - g : Int) : Rat) / ((hi - lo : Int) : Rat)) / 6

/-- What toHSB gives for a colour that is no grey. -/
def Hsb (r g b hi lo : Int) (e : Ending) : Prop :=
  ∃ h, e = .returned (.tuple #[.float .f64 h, .float .f64 (sW hi lo), .float .f64 (vW hi)]) ∧ Fine h ∧ 0 ≤ V h ∧ V h - hue r g b hi lo ≤ 5 * E ∧ hue r g b hi lo - V h ≤ 5 * E

theorem not_lt_word {h : Nat} (hf : Fine h) (h0 : 0 ≤ V h) : (FloatKind.f64.format.order h 0 == some Ordering.lt) = false := by
  have := lt_word hf c0.1
  rw [c0.2] at this
  show (double.order h 0 == some Ordering.lt) = false
  rw [this]
  simp
  exact Rat.not_lt.2 h0
theorem is_lt_word {h : Nat} (hf : Fine h) (h0 : V h < 0) : (FloatKind.f64.format.order h 0 == some Ordering.lt) = true := by
  have := lt_word hf c0.1
  rw [c0.2] at this
  show (double.order h 0 == some Ordering.lt) = true
  rw [this]
  simp
  exact h0

theorem walk_grey (r : Int) (h1 : 0 ≤ r) (h2 : r ≤ 255) (w : World) :
    Calls Try.prog 28 #[.int .u8 r, .int .u8 r, .int .u8 r] w fun e w' => e = .returned (.tuple #[.float .f64 0, .float .f64 0, .float .f64 (vW r)]) ∧ w' = w := by
  have q1 := rq (ex_v r h1 h2).1
  go_enter Try.func28, Try.ntmps28
  go_wp2
  go_ret3
  exact ⟨rfl, rfl⟩

theorem walk_A1 (r g b : Int) (h1 : 0 ≤ r) (h2 : r ≤ 255) (h3 : 0 ≤ g) (h4 : g ≤ 255) (h5 : 0 ≤ b) (h6 : b ≤ 255) (a1 : g < r) (a2 : g < b) (a3 : b ≤ r) (w : World) :
    Calls Try.prog 28 #[.int .u8 r, .int .u8 g, .int .u8 b] w fun e w' => Hsb r g b r g e ∧ w' = w := by
  have q1 := rq (ex_v r (by omega) (by omega)).1
  have q2 := rq (ex_s r g (by omega) (by omega) (by omega)).1
  have hne : (r == g) = false := by simp; omega
  obtain ⟨q, h, e3, e4, hf, d1, d2, p1, p2⟩ := ex_h0 (g - b) (r - g) (by omega) (by omega) (by omega) (by omega)
  have q3 := rq e3
  have q4 := rq e4
  clear e3 e4
  have hlt := is_lt_word hf (p2 (by omega))
  obtain ⟨b1, b2⟩ := frac_le (show 0 < r - g by omega) (show -(r - g) ≤ g - b by omega) (by omega)
  obtain ⟨h', e5, hf', d3, d4⟩ := ex_turn h hf _ d1 d2 (by grind) (by grind)
  have q5 := ra e5
  clear e5
  have hx : Hid (hue r g b r g = (((g - b : Int) : Rat) / ((r - g : Int) : Rat) / 6 + 1)) := by
    unfold Hid hue; rw [if_pos rfl, if_pos (by omega)]
  have D : Hid (Fine h' ∧ 0 ≤ V h' ∧ V h' - hue r g b r g ≤ 5 * E ∧ hue r g b r g - V h' ≤ 5 * E) := by
    have eE := E_small
    unfold Hid
    rw [hx.out]
    exact ⟨hf', by grind, d3, d4⟩
  clear hx d1 d2 d3 d4 p1 p2 hf hf' b1 b2
  go_enter Try.func28, Try.ntmps28
  go_wp2
  go_ret3
  exact ⟨⟨_, rfl, D.out⟩, rfl⟩

theorem walk_A0 (r g b : Int) (h1 : 0 ≤ r) (h2 : r ≤ 255) (h3 : 0 ≤ g) (h4 : g ≤ 255) (h5 : 0 ≤ b) (h6 : b ≤ 255) (a1 : g < r) (a2 : b = g) (w : World) :
    Calls Try.prog 28 #[.int .u8 r, .int .u8 g, .int .u8 b] w fun e w' => Hsb r g b r g e ∧ w' = w := by
  subst a2
  have q1 := rq (ex_v r (by omega) (by omega)).1
  have q2 := rq (ex_s r b (by omega) (by omega) (by omega)).1
  have hne : (r == b) = false := by simp; omega
  obtain ⟨q, h, e3, e4, hf, d1, d2, p1, p2⟩ := ex_h0 (b - b) (r - b) (by omega) (by omega) (by omega) (by omega)
  rw [show (b - b : Int) = 0 from Int.sub_self b] at e3
  have q3 := rq e3
  have q4 := rq e4
  clear e3 e4
  have hlt := not_lt_word hf (p1 (by omega))
  have hx : Hid (hue r b b r b = ((b - b : Int) : Rat) / ((r - b : Int) : Rat) / 6) := by
    unfold Hid hue; rw [if_pos rfl, if_neg (by omega)]
  have D : Hid (Fine h ∧ 0 ≤ V h ∧ V h - hue r b b r b ≤ 5 * E ∧ hue r b b r b - V h ≤ 5 * E) := by
    have ep := E_pos
    unfold Hid
    rw [hx.out]
    exact ⟨hf, p1 (by omega), by grind, by grind⟩
  clear hx d1 d2 p1 p2 hf
  go_enter Try.func28, Try.ntmps28
  go_wp2
  go_ret3
  exact ⟨⟨_, rfl, D.out⟩, rfl⟩

theorem walk_A2 (r g b : Int) (h1 : 0 ≤ r) (h2 : r ≤ 255) (h3 : 0 ≤ g) (h4 : g ≤ 255) (h5 : 0 ≤ b) (h6 : b ≤ 255) (a1 : g < r) (a2 : b < g) (w : World) :
    Calls Try.prog 28 #[.int .u8 r, .int .u8 g, .int .u8 b] w fun e w' => Hsb r g b r b e ∧ w' = w := by
  have q1 := rq (ex_v r (by omega) (by omega)).1
  have q2 := rq (ex_s r b (by omega) (by omega) (by omega)).1
  have hne : (r == b) = false := by simp; omega
  obtain ⟨q, h, e3, e4, hf, d1, d2, p1, p2⟩ := ex_h0 (g - b) (r - b) (by omega) (by omega) (by omega) (by omega)
  have q3 := rq e3
  have q4 := rq e4
  clear e3 e4
  have hlt := not_lt_word hf (p1 (by omega))
  have hx : Hid (hue r g b r b = ((g - b : Int) : Rat) / ((r - b : Int) : Rat) / 6) := by
    unfold Hid hue; rw [if_pos rfl, if_neg (by omega)]
  have D : Hid (Fine h ∧ 0 ≤ V h ∧ V h - hue r g b r b ≤ 5 * E ∧ hue r g b r b - V h ≤ 5 * E) := by
    have ep := E_pos
    unfold Hid
    rw [hx.out]
    exact ⟨hf, p1 (by omega), by grind, by grind⟩
  clear hx d1 d2 p1 p2 hf
  go_enter Try.func28, Try.ntmps28
  go_wp2
  go_ret3
  exact ⟨⟨_, rfl, D.out⟩, rfl⟩

theorem walk_A3 (r g b : Int) (h1 : 0 ≤ r) (h2 : r ≤ 255) (h3 : 0 ≤ g) (h4 : g ≤ 255) (h5 : 0 ≤ b) (h6 : b ≤ 255) (a1 : g = r) (a2 : b < r) (w : World) :
    Calls Try.prog 28 #[.int .u8 r, .int .u8 g, .int .u8 b] w fun e w' => Hsb r g b r b e ∧ w' = w := by
  subst a1
  have q1 := rq (ex_v g (by omega) (by omega)).1
  have q2 := rq (ex_s g b (by omega) (by omega) (by omega)).1
  have hne : (g == b) = false := by simp; omega
  obtain ⟨q, h, e3, e4, hf, d1, d2, p1, p2⟩ := ex_h0 (g - b) (g - b) (by omega) (by omega) (by omega) (by omega)
  have q3 := rq e3
  have q4 := rq e4
  clear e3 e4
  have hlt := not_lt_word hf (p1 (by omega))
  have hx : Hid (hue g g b g b = ((g - b : Int) : Rat) / ((g - b : Int) : Rat) / 6) := by
    unfold Hid hue; rw [if_pos rfl, if_neg (by omega)]
  have D : Hid (Fine h ∧ 0 ≤ V h ∧ V h - hue g g b g b ≤ 5 * E ∧ hue g g b g b - V h ≤ 5 * E) := by
    have ep := E_pos
    unfold Hid
    rw [hx.out]
    exact ⟨hf, p1 (by omega), by grind, by grind⟩
  clear hx d1 d2 p1 p2 hf
  go_enter Try.func28, Try.ntmps28
  go_wp2
  go_ret3
  exact ⟨⟨_, rfl, D.out⟩, rfl⟩

theorem walk_B1 (r g b : Int) (h1 : 0 ≤ r) (h2 : r ≤ 255) (h3 : 0 ≤ g) (h4 : g ≤ 255) (h5 : 0 ≤ b) (h6 : b ≤ 255) (a1 : r < g) (a2 : b < r) (w : World) :
    Calls Try.prog 28 #[.int .u8 r, .int .u8 g, .int .u8 b] w fun e w' => Hsb r g b g b e ∧ w' = w := by
  have q1 := rq (ex_v g (by omega) (by omega)).1
  have q2 := rq (ex_s g b (by omega) (by omega) (by omega)).1
  have hne : (g == b) = false := by simp; omega
  have hn1 : (g == r) = false := by simp; omega
  obtain ⟨b1, b2⟩ := frac_le (show 0 < g - b by omega) (show -(g - b) ≤ (b - r) by omega) (by omega)
  obtain ⟨q, t, h, e3, e4, e5, hf, d1, d2⟩ := ex_hk _ 2 c2 (by decide) (by decide) (b - r) (g - b) (by omega) (by omega) (by omega) (by omega)
  have q3 := rq e3
  have q4 := ra e4
  have q5 := rq e5
  clear e3 e4 e5
  have D : Hid (Fine h ∧ 0 ≤ V h ∧ V h - hue r g b g b ≤ 5 * E ∧ hue r g b g b - V h ≤ 5 * E) := by
    have ep := E_small
    have hx : hue r g b g b = (2 + (((b - r) : Int) : Rat) / ((g - b : Int) : Rat)) / 6 := by
      unfold hue; rw [if_neg (show ¬ g = r by omega), if_pos rfl]
    unfold Hid
    rw [hx]
    exact ⟨hf, by grind, d1, d2⟩
  have hlt := not_lt_word hf D.out.2.1
  clear d1 d2 hf b1 b2
  go_enter Try.func28, Try.ntmps28
  go_wp2
  go_ret3
  exact ⟨⟨_, rfl, D.out⟩, rfl⟩

theorem walk_B2 (r g b : Int) (h1 : 0 ≤ r) (h2 : r ≤ 255) (h3 : 0 ≤ g) (h4 : g ≤ 255) (h5 : 0 ≤ b) (h6 : b ≤ 255) (a1 : r < g) (a2 : r ≤ b) (a3 : b ≤ g) (w : World) :
    Calls Try.prog 28 #[.int .u8 r, .int .u8 g, .int .u8 b] w fun e w' => Hsb r g b g r e ∧ w' = w := by
  have q1 := rq (ex_v g (by omega) (by omega)).1
  have q2 := rq (ex_s g r (by omega) (by omega) (by omega)).1
  have hne : (g == r) = false := by simp; omega
  have hn1 : (g == r) = false := by simp; omega
  obtain ⟨b1, b2⟩ := frac_le (show 0 < g - r by omega) (show -(g - r) ≤ (b - r) by omega) (by omega)
  obtain ⟨q, t, h, e3, e4, e5, hf, d1, d2⟩ := ex_hk _ 2 c2 (by decide) (by decide) (b - r) (g - r) (by omega) (by omega) (by omega) (by omega)
  have q3 := rq e3
  have q4 := ra e4
  have q5 := rq e5
  clear e3 e4 e5
  have D : Hid (Fine h ∧ 0 ≤ V h ∧ V h - hue r g b g r ≤ 5 * E ∧ hue r g b g r - V h ≤ 5 * E) := by
    have ep := E_small
    have hx : hue r g b g r = (2 + (((b - r) : Int) : Rat) / ((g - r : Int) : Rat)) / 6 := by
      unfold hue; rw [if_neg (show ¬ g = r by omega), if_pos rfl]
    unfold Hid
    rw [hx]
    exact ⟨hf, by grind, d1, d2⟩
  have hlt := not_lt_word hf D.out.2.1
  clear d1 d2 hf b1 b2
  go_enter Try.func28, Try.ntmps28
  go_wp2
  go_ret3
  exact ⟨⟨_, rfl, D.out⟩, rfl⟩

theorem walk_C1 (r g b : Int) (h1 : 0 ≤ r) (h2 : r ≤ 255) (h3 : 0 ≤ g) (h4 : g ≤ 255) (h5 : 0 ≤ b) (h6 : b ≤ 255) (a1 : r < b) (a2 : g < b) (a3 : g < r) (w : World) :
    Calls Try.prog 28 #[.int .u8 r, .int .u8 g, .int .u8 b] w fun e w' => Hsb r g b b g e ∧ w' = w := by
  have q1 := rq (ex_v b (by omega) (by omega)).1
  have q2 := rq (ex_s b g (by omega) (by omega) (by omega)).1
  have hne : (b == g) = false := by simp; omega
  have hn1 : (b == r) = false := by simp; omega
  have hn2 : (b == g) = false := by simp; omega
  obtain ⟨b1, b2⟩ := frac_le (show 0 < b - g by omega) (show -(b - g) ≤ (r - g) by omega) (by omega)
  obtain ⟨q, t, h, e3, e4, e5, hf, d1, d2⟩ := ex_hk _ 4 c4 (by decide) (by decide) (r - g) (b - g) (by omega) (by omega) (by omega) (by omega)
  have q3 := rq e3
  have q4 := ra e4
  have q5 := rq e5
  clear e3 e4 e5
  have D : Hid (Fine h ∧ 0 ≤ V h ∧ V h - hue r g b b g ≤ 5 * E ∧ hue r g b b g - V h ≤ 5 * E) := by
    have ep := E_small
    have hx : hue r g b b g = (4 + (((r - g) : Int) : Rat) / ((b - g : Int) : Rat)) / 6 := by
      unfold hue; rw [if_neg (show ¬ b = r by omega), if_neg (show ¬ b = g by omega)]
    unfold Hid
    rw [hx]
    exact ⟨hf, by grind, d1, d2⟩
  have hlt := not_lt_word hf D.out.2.1
  clear d1 d2 hf b1 b2
  go_enter Try.func28, Try.ntmps28
  go_wp2
  go_ret3
  exact ⟨⟨_, rfl, D.out⟩, rfl⟩

theorem walk_C2 (r g b : Int) (h1 : 0 ≤ r) (h2 : r ≤ 255) (h3 : 0 ≤ g) (h4 : g ≤ 255) (h5 : 0 ≤ b) (h6 : b ≤ 255) (a1 : r < b) (a2 : g < b) (a3 : r ≤ g) (w : World) :
    Calls Try.prog 28 #[.int .u8 r, .int .u8 g, .int .u8 b] w fun e w' => Hsb r g b b r e ∧ w' = w := by
  have q1 := rq (ex_v b (by omega) (by omega)).1
  have q2 := rq (ex_s b r (by omega) (by omega) (by omega)).1
  have hne : (b == r) = false := by simp; omega
  have hn1 : (b == r) = false := by simp; omega
  have hn2 : (b == g) = false := by simp; omega
  obtain ⟨b1, b2⟩ := frac_le (show 0 < b - r by omega) (show -(b - r) ≤ (r - g) by omega) (by omega)
  obtain ⟨q, t, h, e3, e4, e5, hf, d1, d2⟩ := ex_hk _ 4 c4 (by decide) (by decide) (r - g) (b - r) (by omega) (by omega) (by omega) (by omega)
  have q3 := rq e3
  have q4 := ra e4
  have q5 := rq e5
  clear e3 e4 e5
  have D : Hid (Fine h ∧ 0 ≤ V h ∧ V h - hue r g b b r ≤ 5 * E ∧ hue r g b b r - V h ≤ 5 * E) := by
    have ep := E_small
    have hx : hue r g b b r = (4 + (((r - g) : Int) : Rat) / ((b - r : Int) : Rat)) / 6 := by
      unfold hue; rw [if_neg (show ¬ b = r by omega), if_neg (show ¬ b = g by omega)]
    unfold Hid
    rw [hx]
    exact ⟨hf, by grind, d1, d2⟩
  have hlt := not_lt_word hf D.out.2.1
  clear d1 d2 hf b1 b2
  go_enter Try.func28, Try.ntmps28
  go_wp2
  go_ret3
  exact ⟨⟨_, rfl, D.out⟩, rfl⟩
end Go.Proofs.Qxb6602704a.flo
