import Derived.Test.Qxb6602704aHsb
namespace Go.Proofs.Qxb6602704a.flo
open Go.ChangeShapes Go.WideShapes Go.ChangeAt Go.RowKit
open Ieee
set_option linter.unusedSimpArgs false
set_option linter.unusedVariables false

/-- hi is the greatest, lo the least of three. -/
def Top (r g b hi : Int) : Prop := r ≤ hi ∧ g ≤ hi ∧ b ≤ hi ∧ (hi = r ∨ hi = g ∨ hi = b)
def Low (r g b lo : Int) : Prop := lo ≤ r ∧ lo ≤ g ∧ lo ≤ b ∧ (lo = r ∨ lo = g ∨ lo = b)

theorem tops (r g b : Int) : ∃ hi lo, Top r g b hi ∧ Low r g b lo := by
  refine ⟨max r (max g b), min r (min g b), ?_, ?_⟩
  · unfold Top; omega
  · unfold Low; omega

theorem col (r g b hi lo : Int) (h1 : 0 ≤ r) (h2 : r ≤ 255) (h3 : 0 ≤ g) (h4 : g ≤ 255) (h5 : 0 ≤ b) (h6 : b ≤ 255) (ht : Top r g b hi) (hl : Low r g b lo) (hne : lo < hi) (w : World) :
    Calls Try.prog 28 #[.int .u8 r, .int .u8 g, .int .u8 b] w fun e w' => Hsb r g b hi lo e ∧ w' = w := by
  unfold Top at ht
  unfold Low at hl
  by_cases a : hi = r
  · subst a
    by_cases c : g = hi
    · have e : lo = b := by omega
      subst e
      exact walk_A3 hi g lo h1 h2 h3 h4 h5 h6 c (by omega) w
    · by_cases c2 : b < g
      · have e : lo = b := by omega
        subst e
        exact walk_A2 hi g lo h1 h2 h3 h4 h5 h6 (by omega) c2 w
      · have e : lo = g := by omega
        subst e
        by_cases c3 : b = lo
        · exact walk_A0 hi lo b h1 h2 h3 h4 h5 h6 (by omega) c3 w
        · exact walk_A1 hi lo b h1 h2 h3 h4 h5 h6 (by omega) (by omega) (by omega) w
  · by_cases c : hi = g
    · subst c
      by_cases c2 : b < r
      · have e : lo = b := by omega
        subst e
        exact walk_B1 r hi lo h1 h2 h3 h4 h5 h6 (by omega) c2 w
      · have e : lo = r := by omega
        subst e
        exact walk_B2 lo hi b h1 h2 h3 h4 h5 h6 (by omega) (by omega) (by omega) w
    · have e : hi = b := by omega
      subst e
      by_cases c2 : g < r
      · have e : lo = g := by omega
        subst e
        exact walk_C1 r lo hi h1 h2 h3 h4 h5 h6 (by omega) (by omega) c2 w
      · have e : lo = r := by omega
        subst e
        exact walk_C2 lo g hi h1 h2 h3 h4 h5 h6 (by omega) (by omega) (by omega) w

/-! ### ZZtoHSB -/
theorem zz_col (r g b hi lo : Int) (h1 : 0 ≤ r) (h2 : r ≤ 255) (h3 : 0 ≤ g) (h4 : g ≤ 255) (h5 : 0 ≤ b) (h6 : b ≤ 255) (ht : Top r g b hi) (hl : Low r g b lo) (hne : lo < hi) (w : World) :
    Calls Try.prog 18 #[.int .u8 r, .int .u8 g, .int .u8 b] w fun e w' => Hsb r g b hi lo e ∧ w' = w := by
  have C : Hid (∀ w : World, Calls Try.prog 28 #[.int .u8 r, .int .u8 g, .int .u8 b] w fun e w' => Hsb r g b hi lo e ∧ w' = w) := col r g b hi lo h1 h2 h3 h4 h5 h6 ht hl hne
  clear ht hl
  go_enter Try.func18, Try.ntmps18
  go_wp2_with fail
  refine (C.out _).mono ?_
  rintro e w' ⟨⟨h, rfl, D⟩, rfl⟩
  have D' : Hid _ := D
  clear D
  go_wp2
  go_ret3
  exact ⟨⟨_, rfl, D'.out⟩, rfl⟩

theorem zz_grey (r : Int) (h1 : 0 ≤ r) (h2 : r ≤ 255) (w : World) :
    Calls Try.prog 18 #[.int .u8 r, .int .u8 r, .int .u8 r] w fun e w' => e = .returned (.tuple #[.float .f64 0, .float .f64 0, .float .f64 (vW r)]) ∧ w' = w := by
  go_enter Try.func18, Try.ntmps18
  go_wp2_with fail
  refine (walk_grey r h1 h2 _).mono ?_
  rintro e w' ⟨rfl, rfl⟩
  go_wp2
  go_ret3
  exact ⟨rfl, rfl⟩

/-! ### hi3 and lo3 -/
theorem hi3 (a b c hi : Int) (ht : Top a b c hi) (w : World) :
    Calls Try.prog 19 #[.int .u8 a, .int .u8 b, .int .u8 c] w fun e w' => e = .returned (.int .u8 hi) ∧ w' = w := by
  unfold Top at ht
  by_cases h1 : a < b
  · by_cases h2 : b < c
    · have e : hi = c := by omega
      subst e; clear ht
      go_enter Try.func19, Try.ntmps19; go_wp2; go_ret; exact ⟨rfl, rfl⟩
    · have e : hi = b := by omega
      subst e; clear ht
      go_enter Try.func19, Try.ntmps19; go_wp2; go_ret; exact ⟨rfl, rfl⟩
  · by_cases h2 : a < c
    · have e : hi = c := by omega
      subst e; clear ht
      go_enter Try.func19, Try.ntmps19; go_wp2; go_ret; exact ⟨rfl, rfl⟩
    · have e : hi = a := by omega
      subst e; clear ht
      go_enter Try.func19, Try.ntmps19; go_wp2; go_ret; exact ⟨rfl, rfl⟩

theorem lo3 (a b c lo : Int) (ht : Low a b c lo) (w : World) :
    Calls Try.prog 20 #[.int .u8 a, .int .u8 b, .int .u8 c] w fun e w' => e = .returned (.int .u8 lo) ∧ w' = w := by
  unfold Low at ht
  by_cases h1 : b < a
  · by_cases h2 : c < b
    · have e : lo = c := by omega
      subst e; clear ht
      go_enter Try.func20, Try.ntmps20; go_wp2; go_ret; exact ⟨rfl, rfl⟩
    · have e : lo = b := by omega
      subst e; clear ht
      go_enter Try.func20, Try.ntmps20; go_wp2; go_ret; exact ⟨rfl, rfl⟩
  · by_cases h2 : c < a
    · have e : lo = c := by omega
      subst e; clear ht
      go_enter Try.func20, Try.ntmps20; go_wp2; go_ret; exact ⟨rfl, rfl⟩
    · have e : lo = a := by omega
      subst e; clear ht
      go_enter Try.func20, Try.ntmps20; go_wp2; go_ret; exact ⟨rfl, rfl⟩

/-! ### tests between words, in the walk's spelling -/
theorem gt_no {x y : Nat} (hx : Fine x) (hy : Fine y) (h : V x ≤ V y) : (FloatKind.f64.format.order x y == some Ordering.gt) = false := by
  show (double.order x y == some Ordering.gt) = false
  rw [gt_word hx hy]; simp; exact Rat.not_lt.2 h
theorem gt_yes {x y : Nat} (hx : Fine x) (hy : Fine y) (h : V y < V x) : (FloatKind.f64.format.order x y == some Ordering.gt) = true := by
  show (double.order x y == some Ordering.gt) = true
  rw [gt_word hx hy]; simp; exact h
theorem lt_no {x y : Nat} (hx : Fine x) (hy : Fine y) (h : V y ≤ V x) : (FloatKind.f64.format.order x y == some Ordering.lt) = false := by
  show (double.order x y == some Ordering.lt) = false
  rw [lt_word hx hy]; simp; exact Rat.not_lt.2 h
theorem lt_yes {x y : Nat} (hx : Fine x) (hy : Fine y) (h : V x < V y) : (FloatKind.f64.format.order x y == some Ordering.lt) = true := by
  show (double.order x y == some Ordering.lt) = true
  rw [lt_word hx hy]; simp; exact h
theorem eq_no {x y : Nat} (hx : Fine x) (hy : Fine y) (h : V x ≠ V y) : (FloatKind.f64.format.order x y == some Ordering.eq) = false := by
  show (double.order x y == some Ordering.eq) = false
  rw [eq_word hx hy]; simp; exact h
theorem eq_yes {x y : Nat} (hx : Fine x) (hy : Fine y) (h : V x = V y) : (FloatKind.f64.format.order x y == some Ordering.eq) = true := by
  show (double.order x y == some Ordering.eq) = true
  rw [eq_word hx hy]; simp; exact h

/-! ### nearWhole -/
theorem whole0 (d : Nat) (hf : Fine d) (d1 : V d ≤ 40 * E) (d2 : -(40 * E) ≤ V d) (w : World) :
    Calls Try.prog 22 #[.float .f64 d] w fun e w' => e = .returned (.bool true) ∧ w' = w := by
  have eE := E_small
  have t1 := gt_no hf chalf.1 (by rw [chalf.2]; grind)
  have t2 := lt_no hf cmhalf.1 (by rw [cmhalf.2]; grind)
  have t3 := lt_yes hf cnano.1 (by have := cnano.2; grind)
  have t4 := gt_yes hf cmnano.1 (by have := cmnano.2; grind)
  clear d1 d2 eE hf
  go_enter Try.func22, Try.ntmps22
  go_wp2
  go_ret
  exact ⟨rfl, rfl⟩

theorem whole1 (d : Nat) (hf : Fine d) (d1 : V d - 1 ≤ 20 * E) (d2 : -(20 * E) ≤ V d - 1) (w : World) :
    Calls Try.prog 22 #[.float .f64 d] w fun e w' => e = .returned (.bool true) ∧ w' = w := by
  have eE := E_small
  have t1 := gt_yes hf chalf.1 (by rw [chalf.2]; grind)
  obtain ⟨d', e1, hf', a1, a2⟩ := sub_near hf c1.1 (by rw [c1.2]; grind) (by rw [c1.2]; grind)
  rw [c1.2] at a1 a2
  have q1 := rs e1
  have t1' := gt_no hf' chalf.1 (by rw [chalf.2]; grind)
  have t2 := lt_no hf' cmhalf.1 (by rw [cmhalf.2]; grind)
  have t3 := lt_yes hf' cnano.1 (by have := cnano.2; grind)
  have t4 := gt_yes hf' cmnano.1 (by have := cmnano.2; grind)
  clear d1 d2 eE hf a1 a2 e1 hf'
  go_enter Try.func22, Try.ntmps22
  go_wp2
  go_ret
  exact ⟨rfl, rfl⟩

theorem wholem1 (d : Nat) (hf : Fine d) (d1 : V d + 1 ≤ 20 * E) (d2 : -(20 * E) ≤ V d + 1) (w : World) :
    Calls Try.prog 22 #[.float .f64 d] w fun e w' => e = .returned (.bool true) ∧ w' = w := by
  have eE := E_small
  have t1 := gt_no hf chalf.1 (by rw [chalf.2]; grind)
  have t0 := lt_yes hf cmhalf.1 (by rw [cmhalf.2]; grind)
  obtain ⟨d', e1, hf', a1, a2⟩ := add_near hf c1.1 (by rw [c1.2]; grind) (by rw [c1.2]; grind)
  rw [c1.2] at a1 a2
  have q1 := ra e1
  have t2 := lt_no hf' cmhalf.1 (by rw [cmhalf.2]; grind)
  have t3 := lt_yes hf' cnano.1 (by have := cnano.2; grind)
  have t4 := gt_yes hf' cmnano.1 (by have := cmnano.2; grind)
  clear d1 d2 eE hf a1 a2 e1 hf'
  go_enter Try.func22, Try.ntmps22
  go_wp2
  go_ret
  exact ⟨rfl, rfl⟩

theorem whole (d : Nat) (hf : Fine d) (k : Rat) (hk : k = 0 ∨ k = 1 ∨ k = -1) (d1 : V d - k ≤ 20 * E) (d2 : k - V d ≤ 20 * E) (w : World) :
    Calls Try.prog 22 #[.float .f64 d] w fun e w' => e = .returned (.bool true) ∧ w' = w := by
  have ep := E_pos
  rcases hk with rfl | rfl | rfl
  · exact whole0 d hf (by grind) (by grind) w
  · exact whole1 d hf (by grind) (by grind) w
  · exact wholem1 d hf (by grind) (by grind) w

/-! ### The plain law: the exact hue turns and mirrors -/
theorem hue_turn (r g b hi lo : Int) (ht : Top r g b hi) (hl : Low r g b lo) (hne : lo < hi) :
    hue b r g hi lo - hue r g b hi lo - 1 / 3 = 0 ∨ hue b r g hi lo - hue r g b hi lo - 1 / 3 = -1 := by
  unfold Top at ht
  unfold Low at hl
  have hp := cast_pos (show 0 < hi - lo by omega)
  unfold hue
  by_cases a : hi = r
  · by_cases c : hi = b
    · have e : lo = g := by omega
      subst a
      subst c
      subst e
      rw [if_pos rfl, if_pos rfl, if_neg (by omega), if_pos (by omega)]
      rw [Rat.intCast_sub, Rat.intCast_sub] at *
      grind
    · rw [if_pos a, if_neg c, if_pos a]
      by_cases c2 : g < b
      · rw [if_pos c2]; grind
      · rw [if_neg c2]; grind
  · by_cases c : hi = g
    · rw [if_neg a, if_pos c]
      by_cases c2 : hi = b
      · have e : lo = r := by omega
        subst c
        subst c2
        subst e
        rw [if_pos rfl, if_pos (by omega)]
        rw [Rat.intCast_sub, Rat.intCast_sub] at *
        grind
      · rw [if_neg c2, if_neg a]; grind
    · have e : hi = b := by omega
      rw [if_neg a, if_neg c, if_pos e]
      by_cases c2 : r < g
      · rw [if_pos c2]; grind
      · rw [if_neg c2]; grind

theorem hue_mirror (r g b hi lo : Int) (ht : Top r g b hi) (hl : Low r g b lo) (hne : lo < hi) :
    hue r b g hi lo + hue r g b hi lo = 0 ∨ hue r b g hi lo + hue r g b hi lo = 1 := by
  unfold Top at ht
  unfold Low at hl
  have hp := cast_pos (show 0 < hi - lo by omega)
  unfold hue
  have hn1 : ((b - g : Int) : Rat) = -((g - b : Int) : Rat) := by rw [Rat.intCast_sub, Rat.intCast_sub]; grind
  have hn2 : ((r - b : Int) : Rat) = -((b - r : Int) : Rat) := by rw [Rat.intCast_sub, Rat.intCast_sub]; grind
  have hn3 : ((g - r : Int) : Rat) = -((r - g : Int) : Rat) := by rw [Rat.intCast_sub, Rat.intCast_sub]; grind
  rw [hn1, hn2, hn3]
  by_cases a : hi = r
  · rw [if_pos a, if_pos a]
    by_cases c2 : g < b
    · rw [if_pos c2, if_neg (by omega)]; grind
    · by_cases c3 : b < g
      · rw [if_neg c2, if_pos c3]; grind
      · rw [if_neg c2, if_neg c3]; grind
  · rw [if_neg a, if_neg a]
    by_cases c : hi = g
    · rw [if_pos c]
      by_cases c2 : hi = b
      · rw [if_pos c2]
        have e : lo = r := by omega
        have e1 : ((b - r : Int) : Rat) = ((hi - lo : Int) : Rat) := by rw [show b - r = hi - lo by omega]
        have e2 : ((r - g : Int) : Rat) = -((hi - lo : Int) : Rat) := by rw [← Rat.intCast_neg, show r - g = -(hi - lo) by omega]
        rw [e1, e2]
        grind
      · rw [if_neg c2]; grind
    · have e : hi = b := by omega
      rw [if_neg c, if_pos e]; grind
end Go.Proofs.Qxb6602704a.flo
