import Derived.Test.Qxb6602704aHue
namespace Go.Proofs.Qxb6602704a.flo
open Go.ChangeShapes Go.WideShapes Go.ChangeAt Go.RowKit
open Ieee
set_option linter.unusedSimpArgs false
set_option linter.unusedVariables false

/-- The word x is within e of a. -/
def Ap (x : Nat) (a e : Rat) : Prop := Fine x ∧ V x - a ≤ e ∧ a - V x ≤ e

theorem mul_bd {a x e B : Rat} (hB : 0 ≤ B) (a1 : a ≤ B) (a2 : -B ≤ a) (x1 : x ≤ e) (x2 : -e ≤ x) : a * x ≤ B * e ∧ -(B * e) ≤ a * x := by
  have he : 0 ≤ e := by grind
  have hx : 0 ≤ x ∨ x ≤ 0 := by grind
  rcases hx with h | h
  · have b1 := Rat.mul_le_mul_of_nonneg_right a1 h
    have b2 := Rat.mul_le_mul_of_nonneg_right a2 h
    have b3 := Rat.mul_le_mul_of_nonneg_left x1 hB
    grind
  · have h' : 0 ≤ -x := by grind
    have b1 := Rat.mul_le_mul_of_nonneg_right a1 h'
    have b2 := Rat.mul_le_mul_of_nonneg_right a2 h'
    have b3 := Rat.mul_le_mul_of_nonneg_left x2 hB
    grind

theorem ap_mul {x y : Nat} {a b e1 e2 : Rat} (hx : Ap x a e1) (hy : Ap y b e2) (a0 : 0 ≤ a) (a1 : a ≤ 1) (b0 : 0 ≤ b) (b1 : b ≤ 1) (h1 : e1 ≤ 1 / 2) (h2 : e2 ≤ 1 / 2) :
    ∃ r, double.mul x y = some r ∧ Ap r (a * b) (2 * e1 + e2 + E) := by
  obtain ⟨fx, x1, x2⟩ := hx
  obtain ⟨fy, y1, y2⟩ := hy
  -- x*y - a*b = y*(x-a) + a*(y-b)
  have m1 := mul_bd (a := V y) (x := V x - a) (e := e1) (B := 2) (by decide) (by grind) (by grind) x1 (by grind)
  have m2 := mul_bd (a := a) (x := V y - b) (e := e2) (B := 1) (by decide) a1 (by grind) y1 (by grind)
  have hab : V x * V y - a * b ≤ 2 * e1 + e2 ∧ a * b - V x * V y ≤ 2 * e1 + e2 := by constructor <;> grind
  have ab := mul_bd (a := a) (x := b) (e := 1) (B := 1) (by decide) a1 (by grind) b1 (by grind)
  obtain ⟨r, hr, fr, r1, r2⟩ := mul_near fx fy (by grind) (by grind)
  exact ⟨r, hr, fr, by grind, by grind⟩

theorem ap_one_sub {y : Nat} {b e : Rat} (hy : Ap y b e) (b0 : 0 ≤ b) (b1 : b ≤ 1) (h : e ≤ 1 / 2) :
    ∃ r, double.sub 4607182418800017408 y = some r ∧ Ap r (1 - b) (e + E) := by
  obtain ⟨fy, y1, y2⟩ := hy
  obtain ⟨f1, v1⟩ := c1
  obtain ⟨r, hr, fr, r1, r2⟩ := sub_near f1 fy (by rw [v1]; grind) (by rw [v1]; grind)
  rw [v1] at r1 r2
  exact ⟨r, hr, fr, by grind, by grind⟩

theorem prod01 {a b : Rat} (a0 : 0 ≤ a) (a1 : a ≤ 1) (b0 : 0 ≤ b) (b1 : b ≤ 1) : 0 ≤ a * b ∧ a * b ≤ 1 := by
  have h1 := Rat.mul_nonneg a0 b0
  have h2 := Rat.mul_le_mul_of_nonneg_right a1 b0
  constructor <;> grind

/-- What is not below zero is not written below zero. -/
theorem write_nonneg (s : Bool) (m : Nat) (p : Int) (h0 : 0 ≤ dv (.number s m p)) (h1 : dv (.number s m p) ≤ 512) : 0 ≤ V (double.write (.number s m p)) := by
  rw [dv_number] at h0 h1
  have hp := two_pow_pos p
  have hm : (0 : Rat) ≤ (m : Rat) := Rat.natCast_nonneg
  have hmp := Rat.mul_nonneg hm (Rat.le_of_lt hp)
  cases s
  · have hb : (m : Rat) * (2 : Rat) ^ p ≤ 512 := by unfold sg at h1; simp at h1; exact h1
    obtain ⟨m', p', hr, _, _, _⟩ := near false m p hb
    show 0 ≤ dv (double.read (double.nearest false m p))
    rw [hr, dv_number]
    unfold sg
    have := Rat.mul_nonneg (Rat.natCast_nonneg (a := m')) (Rat.le_of_lt (two_pow_pos p'))
    simp
    exact this
  · have hz : m = 0 := by
      unfold sg at h0
      simp at h0
      have hz : (m : Rat) * (2 : Rat) ^ p = 0 := by grind
      rcases Rat.mul_eq_zero.1 hz with h | h
      · exact Rat.natCast_inj.1 h
      · exact absurd h (Rat.ne_of_gt hp)
    subst hz
    have e : double.write (.number true 0 p) = double.write (.number true 0 0) := by
      show double.nearest true 0 p = double.nearest true 0 0
      unfold Format.nearest
      rw [if_pos rfl, if_pos rfl]
    rw [e]
    decide +kernel

theorem mul_nonneg {x y r : Nat} (hx : Fine x) (hy : Fine y) (h : double.mul x y = some r) (h0 : 0 ≤ V x * V y) (h1 : V x * V y ≤ 512) : 0 ≤ V r := by
  obtain ⟨s, m, i, hx⟩ := hx
  obtain ⟨t, n, j, hy⟩ := hy
  obtain ⟨q, a, b, hs, hd⟩ := product_dv s t m n i j
  unfold V at h0 h1
  unfold Format.mul at h
  rw [hx, hy] at h0 h1 h
  rw [hs] at h
  rw [← hd] at h0 h1
  cases h
  exact write_nonneg q a b h0 h1

/-- The three mixed channels. -/
theorem ex_pqt {v s f : Nat} {v0 s0 f0 : Rat} (hv : Ap v v0 (2 * E)) (hs : Ap s s0 (2 * E)) (hf : Ap f f0 (33 * E)) (v1 : 0 ≤ v0) (v2 : v0 ≤ 1) (s1 : 0 ≤ s0) (s2 : s0 ≤ 1) (f1 : 0 ≤ f0) (f2 : f0 ≤ 1) :
    ∃ a p m b q g n c t, double.sub 4607182418800017408 s = some a ∧ double.mul v a = some p ∧ double.mul s f = some m ∧ double.sub 4607182418800017408 m = some b ∧ double.mul v b = some q ∧
      double.sub 4607182418800017408 f = some g ∧ double.mul s g = some n ∧ double.sub 4607182418800017408 n = some c ∧ double.mul v c = some t ∧
      Ap p (v0 * (1 - s0)) (50 * E) ∧ Ap q (v0 * (1 - s0 * f0)) (50 * E) ∧ Ap t (v0 * (1 - s0 * (1 - f0))) (50 * E) := by
  have eE := E_small
  have ep := E_pos
  obtain ⟨m1, m2⟩ := prod01 s1 s2 f1 f2
  obtain ⟨n1, n2⟩ := prod01 s1 s2 (show 0 ≤ 1 - f0 by grind) (show 1 - f0 ≤ 1 by grind)
  obtain ⟨a, ea, ha⟩ := ap_one_sub hs s1 s2 (by grind)
  obtain ⟨p, ep', hp⟩ := ap_mul hv ha v1 v2 (by grind) (by grind) (by grind) (by grind)
  obtain ⟨m, em, hm⟩ := ap_mul hs hf s1 s2 f1 f2 (by grind) (by grind)
  obtain ⟨b, eb, hb⟩ := ap_one_sub hm m1 m2 (by grind)
  obtain ⟨q, eq, hq⟩ := ap_mul hv hb v1 v2 (by grind) (by grind) (by grind) (by grind)
  obtain ⟨g, eg, hg⟩ := ap_one_sub hf f1 f2 (by grind)
  obtain ⟨n, en, hn⟩ := ap_mul hs hg s1 s2 (by grind) (by grind) (by grind) (by grind)
  obtain ⟨c, ec, hc⟩ := ap_one_sub hn n1 n2 (by grind)
  obtain ⟨t, et, ht⟩ := ap_mul hv hc v1 v2 (by grind) (by grind) (by grind) (by grind)
  refine ⟨a, p, m, b, q, g, n, c, t, ea, ep', em, eb, eq, eg, en, ec, et, ?_, ?_, ?_⟩
  · exact ⟨hp.1, by have := hp.2.1; grind, by have := hp.2.2; grind⟩
  · exact ⟨hq.1, by have := hq.2.1; grind, by have := hq.2.2; grind⟩
  · exact ⟨ht.1, by have := ht.2.1; grind, by have := ht.2.2; grind⟩

/-- The sector. -/
theorem ex_sector {h : Nat} {X : Rat} (hf : Fine h) (h0 : 0 ≤ V h) (d1 : V h - X / 6 ≤ 5 * E) (d2 : X / 6 - V h ≤ 5 * E) (x0 : 0 ≤ X) (x1 : X ≤ 6 - 1 / 255) :
    ∃ h6 k f, double.mul h 4618441417868443648 = some h6 ∧ floatToIntVal .f64 h6 .i64 = some k ∧ 0 ≤ k ∧ k ≤ 5 ∧ double.sub h6 (FI k) = some f ∧ Ap f (X - (k : Rat)) (33 * E) ∧ (k : Rat) ≤ X + 32 * E ∧ X ≤ (k : Rat) + 1 + 32 * E := by
  have eE := E_small
  have ep := E_pos
  obtain ⟨f6, v6⟩ := c6
  obtain ⟨h6, e6, ff, r1, r2⟩ := mul_near hf f6 (by rw [v6]; grind) (by rw [v6]; grind)
  rw [v6] at r1 r2
  -- not below zero
  have hz : 0 ≤ V h6 := mul_nonneg hf f6 e6 (by rw [v6]; grind) (by rw [v6]; grind)
  obtain ⟨n, hn, n1, n2⟩ := toInt_floor ff hz (by grind)
  have hn5 : n ≤ 5 := by
    apply Decidable.byContradiction
    intro hc
    have : ((6 : Nat) : Rat) ≤ (n : Rat) := Rat.natCast_le_natCast.2 (by omega)
    rw [show ((6 : Nat) : Rat) = 6 from rfl] at this
    grind
  have hc : (((n : Nat) : Int) : Rat) = (n : Rat) := rfl
  obtain ⟨fk, vk⟩ := ofInt_exact (n : Int) (by omega) (by omega)
  rw [hc] at vk
  obtain ⟨f, ef, hff, g1, g2⟩ := sub_near ff fk (by rw [vk]; grind) (by rw [vk]; grind)
  rw [vk] at g1 g2
  refine ⟨h6, n, f, e6, hn, by omega, by omega, ef, ⟨hff, ?_, ?_⟩, ?_, ?_⟩
  all_goals rw [hc]
  all_goals grind

/-! ### to255 -/
theorem conv_int {x : Nat} {n : Int} (h : floatToIntVal .f64 x .i64 = some n) : ∀ w : World, Sem.run Try.prog (convert 33 3 (.float .f64 x)) w = .ok (.int .i64 n) w :=
  fun w => run_convert_float_int w 33 3 .f64 .i64 x n (by rw [Try.underlying33]; rfl) Try.underlying3 h

theorem to255 (x : Nat) (M : Int) (m0 : 0 ≤ M) (m1 : M ≤ 255) (hx : Ap x ((M : Rat) / 255) (50 * E)) (w : World) :
    Calls Try.prog 29 #[.float .f64 x] w fun e w' => e = .returned (.int .u8 M) ∧ w' = w := by
  obtain ⟨fx, x1, x2⟩ := hx
  have eE := E_small
  have ep := E_pos
  have M0 := cast_le m0
  have M1 := cast_le m1
  rw [show ((0 : Int) : Rat) = 0 from rfl] at M0
  rw [show ((255 : Int) : Rat) = 255 from rfl] at M1
  obtain ⟨f5, v5⟩ := c255
  obtain ⟨fh, vh⟩ := chalf
  obtain ⟨y0, e0, fy0, a1, a2⟩ := mul_near fx f5 (by rw [v5]; grind) (by rw [v5]; grind)
  rw [v5] at a1 a2
  obtain ⟨y, e1, fy, b1, b2⟩ := add_near fy0 fh (by rw [vh]; grind) (by rw [vh]; grind)
  rw [vh] at b1 b2
  have q0 := rm e0
  have q1 := ra e1
  have l1 : (M : Rat) + 1 / 8 ≤ V y := by grind
  have l2 : V y ≤ (M : Rat) + 7 / 8 := by grind
  have t0 := not_lt_word fy (by grind)
  by_cases hM : M = 255
  · subst hM
    rw [show ((255 : Int) : Rat) = 255 from rfl] at l1
    have t1 := gt_yes fy f5 (by rw [v5]; grind)
    clear a1 a2 b1 b2 e0 e1 x1 x2 l1 l2 eE ep M0 M1 v5 vh fx fy fy0 f5 fh
    go_enter Try.func29, Try.ntmps29
    go_wp2
    go_ret
    exact ⟨rfl, rfl⟩
  · have M2 := cast_le (show M ≤ 254 by omega)
    rw [show ((254 : Int) : Rat) = 254 from rfl] at M2
    have t1 := gt_no fy f5 (by rw [v5]; grind)
    have t2 := eq_no fy f5 (by rw [v5]; grind)
    obtain ⟨n, hn, n1, n2⟩ := toInt_floor fy (by grind) (by grind)
    have hnM : (n : Int) = M := by
      have c1 : ((n : Int) : Rat) < ((M + 1 : Int) : Rat) := by
        rw [Rat.intCast_add, show ((1 : Int) : Rat) = 1 from rfl, show ((n : Int) : Rat) = (n : Rat) from rfl]; grind
      have c2 : ((M : Int) : Rat) < ((n + 1 : Int) : Rat) := by
        rw [Rat.intCast_add, show ((1 : Int) : Rat) = 1 from rfl, show ((n : Int) : Rat) = (n : Rat) from rfl]; grind
      have := Rat.intCast_lt_intCast.1 c1
      have := Rat.intCast_lt_intCast.1 c2
      omega
    rw [hnM] at hn
    have q2 := conv_int hn
    clear a1 a2 b1 b2 e0 e1 x1 x2 l1 l2 eE ep M0 M1 v5 vh fx fy fy0 f5 fh n1 n2 hn hnM M2
    go_enter Try.func29, Try.ntmps29
    go_wp2
    go_ret
    exact ⟨rfl, rfl⟩

/-! ### hsbToRGB, sector by sector -/
theorem rgb0 (h s v h6 f a p m b q g n c t : Nat) (e6 : double.mul h 4618441417868443648 = some h6) (ek : floatToIntVal .f64 h6 .i64 = some 0) (ef : double.sub h6 (FI 0) = some f)
    (ea : double.sub 4607182418800017408 s = some a) (ep : double.mul v a = some p) (em : double.mul s f = some m) (eb : double.sub 4607182418800017408 m = some b) (eq : double.mul v b = some q)
    (eg : double.sub 4607182418800017408 f = some g) (en : double.mul s g = some n) (ec : double.sub 4607182418800017408 n = some c) (et : double.mul v c = some t)
    (Mv Mp Mx : Int) (v0 : 0 ≤ Mv) (v1 : Mv ≤ 255) (p0 : 0 ≤ Mp) (p1 : Mp ≤ 255) (x0 : 0 ≤ Mx) (x1 : Mx ≤ 255)
    (hv : Ap v ((Mv : Rat) / 255) (50 * E)) (hp : Ap p ((Mp : Rat) / 255) (50 * E)) (hx : Ap t ((Mx : Rat) / 255) (50 * E)) (w : World) :
    Calls Try.prog 21 #[.float .f64 h, .float .f64 s, .float .f64 v] w fun e w' => e = .returned (.tuple #[.int .u8 Mv, .int .u8 Mx, .int .u8 Mp]) ∧ w' = w := by
  have hv' : Hid _ := hv
  have hp' : Hid _ := hp
  have hx' : Hid _ := hx
  have q1 := rm e6
  have q2 := conv_int ek
  have q3 := rs ef
  have q4 := rs ea
  have q5 := rm ep
  have q6 := rm em
  have q7 := rs eb
  have q8 := rm eq
  have q9 := rs eg
  have q10 := rm en
  have q11 := rs ec
  have q12 := rm et
  clear hv hp hx e6 ek ef ea ep em eb eq eg en ec et
  go_enter Try.func21, Try.ntmps21
  go_wp2_with fail
  refine (to255 v Mv v0 v1 hv'.out _).mono ?_
  rintro e w' ⟨rfl, rfl⟩
  go_wp2_with fail
  refine (to255 t Mx x0 x1 hx'.out _).mono ?_
  rintro e w' ⟨rfl, rfl⟩
  go_wp2_with fail
  refine (to255 p Mp p0 p1 hp'.out _).mono ?_
  rintro e w' ⟨rfl, rfl⟩
  go_wp2
  go_ret3
  exact ⟨rfl, rfl⟩

theorem rgb1 (h s v h6 f a p m b q g n c t : Nat) (e6 : double.mul h 4618441417868443648 = some h6) (ek : floatToIntVal .f64 h6 .i64 = some 1) (ef : double.sub h6 (FI 1) = some f)
    (ea : double.sub 4607182418800017408 s = some a) (ep : double.mul v a = some p) (em : double.mul s f = some m) (eb : double.sub 4607182418800017408 m = some b) (eq : double.mul v b = some q)
    (eg : double.sub 4607182418800017408 f = some g) (en : double.mul s g = some n) (ec : double.sub 4607182418800017408 n = some c) (et : double.mul v c = some t)
    (Mv Mp Mx : Int) (v0 : 0 ≤ Mv) (v1 : Mv ≤ 255) (p0 : 0 ≤ Mp) (p1 : Mp ≤ 255) (x0 : 0 ≤ Mx) (x1 : Mx ≤ 255)
    (hv : Ap v ((Mv : Rat) / 255) (50 * E)) (hp : Ap p ((Mp : Rat) / 255) (50 * E)) (hx : Ap q ((Mx : Rat) / 255) (50 * E)) (w : World) :
    Calls Try.prog 21 #[.float .f64 h, .float .f64 s, .float .f64 v] w fun e w' => e = .returned (.tuple #[.int .u8 Mx, .int .u8 Mv, .int .u8 Mp]) ∧ w' = w := by
  have hv' : Hid _ := hv
  have hp' : Hid _ := hp
  have hx' : Hid _ := hx
  have q1 := rm e6
  have q2 := conv_int ek
  have q3 := rs ef
  have q4 := rs ea
  have q5 := rm ep
  have q6 := rm em
  have q7 := rs eb
  have q8 := rm eq
  have q9 := rs eg
  have q10 := rm en
  have q11 := rs ec
  have q12 := rm et
  clear hv hp hx e6 ek ef ea ep em eb eq eg en ec et
  go_enter Try.func21, Try.ntmps21
  go_wp2_with fail
  refine (to255 q Mx x0 x1 hx'.out _).mono ?_
  rintro e w' ⟨rfl, rfl⟩
  go_wp2_with fail
  refine (to255 v Mv v0 v1 hv'.out _).mono ?_
  rintro e w' ⟨rfl, rfl⟩
  go_wp2_with fail
  refine (to255 p Mp p0 p1 hp'.out _).mono ?_
  rintro e w' ⟨rfl, rfl⟩
  go_wp2
  go_ret3
  exact ⟨rfl, rfl⟩

theorem rgb2 (h s v h6 f a p m b q g n c t : Nat) (e6 : double.mul h 4618441417868443648 = some h6) (ek : floatToIntVal .f64 h6 .i64 = some 2) (ef : double.sub h6 (FI 2) = some f)
    (ea : double.sub 4607182418800017408 s = some a) (ep : double.mul v a = some p) (em : double.mul s f = some m) (eb : double.sub 4607182418800017408 m = some b) (eq : double.mul v b = some q)
    (eg : double.sub 4607182418800017408 f = some g) (en : double.mul s g = some n) (ec : double.sub 4607182418800017408 n = some c) (et : double.mul v c = some t)
    (Mv Mp Mx : Int) (v0 : 0 ≤ Mv) (v1 : Mv ≤ 255) (p0 : 0 ≤ Mp) (p1 : Mp ≤ 255) (x0 : 0 ≤ Mx) (x1 : Mx ≤ 255)
    (hv : Ap v ((Mv : Rat) / 255) (50 * E)) (hp : Ap p ((Mp : Rat) / 255) (50 * E)) (hx : Ap t ((Mx : Rat) / 255) (50 * E)) (w : World) :
    Calls Try.prog 21 #[.float .f64 h, .float .f64 s, .float .f64 v] w fun e w' => e = .returned (.tuple #[.int .u8 Mp, .int .u8 Mv, .int .u8 Mx]) ∧ w' = w := by
  have hv' : Hid _ := hv
  have hp' : Hid _ := hp
  have hx' : Hid _ := hx
  have q1 := rm e6
  have q2 := conv_int ek
  have q3 := rs ef
  have q4 := rs ea
  have q5 := rm ep
  have q6 := rm em
  have q7 := rs eb
  have q8 := rm eq
  have q9 := rs eg
  have q10 := rm en
  have q11 := rs ec
  have q12 := rm et
  clear hv hp hx e6 ek ef ea ep em eb eq eg en ec et
  go_enter Try.func21, Try.ntmps21
  go_wp2_with fail
  refine (to255 p Mp p0 p1 hp'.out _).mono ?_
  rintro e w' ⟨rfl, rfl⟩
  go_wp2_with fail
  refine (to255 v Mv v0 v1 hv'.out _).mono ?_
  rintro e w' ⟨rfl, rfl⟩
  go_wp2_with fail
  refine (to255 t Mx x0 x1 hx'.out _).mono ?_
  rintro e w' ⟨rfl, rfl⟩
  go_wp2
  go_ret3
  exact ⟨rfl, rfl⟩

theorem rgb3 (h s v h6 f a p m b q g n c t : Nat) (e6 : double.mul h 4618441417868443648 = some h6) (ek : floatToIntVal .f64 h6 .i64 = some 3) (ef : double.sub h6 (FI 3) = some f)
    (ea : double.sub 4607182418800017408 s = some a) (ep : double.mul v a = some p) (em : double.mul s f = some m) (eb : double.sub 4607182418800017408 m = some b) (eq : double.mul v b = some q)
    (eg : double.sub 4607182418800017408 f = some g) (en : double.mul s g = some n) (ec : double.sub 4607182418800017408 n = some c) (et : double.mul v c = some t)
    (Mv Mp Mx : Int) (v0 : 0 ≤ Mv) (v1 : Mv ≤ 255) (p0 : 0 ≤ Mp) (p1 : Mp ≤ 255) (x0 : 0 ≤ Mx) (x1 : Mx ≤ 255)
    (hv : Ap v ((Mv : Rat) / 255) (50 * E)) (hp : Ap p ((Mp : Rat) / 255) (50 * E)) (hx : Ap q ((Mx : Rat) / 255) (50 * E)) (w : World) :
    Calls Try.prog 21 #[.float .f64 h, .float .f64 s, .float .f64 v] w fun e w' => e = .returned (.tuple #[.int .u8 Mp, .int .u8 Mx, .int .u8 Mv]) ∧ w' = w := by
  have hv' : Hid _ := hv
  have hp' : Hid _ := hp
  have hx' : Hid _ := hx
  have q1 := rm e6
  have q2 := conv_int ek
  have q3 := rs ef
  have q4 := rs ea
  have q5 := rm ep
  have q6 := rm em
  have q7 := rs eb
  have q8 := rm eq
  have q9 := rs eg
  have q10 := rm en
  have q11 := rs ec
  have q12 := rm et
  clear hv hp hx e6 ek ef ea ep em eb eq eg en ec et
  go_enter Try.func21, Try.ntmps21
  go_wp2_with fail
  refine (to255 p Mp p0 p1 hp'.out _).mono ?_
  rintro e w' ⟨rfl, rfl⟩
  go_wp2_with fail
  refine (to255 q Mx x0 x1 hx'.out _).mono ?_
  rintro e w' ⟨rfl, rfl⟩
  go_wp2_with fail
  refine (to255 v Mv v0 v1 hv'.out _).mono ?_
  rintro e w' ⟨rfl, rfl⟩
  go_wp2
  go_ret3
  exact ⟨rfl, rfl⟩

theorem rgb4 (h s v h6 f a p m b q g n c t : Nat) (e6 : double.mul h 4618441417868443648 = some h6) (ek : floatToIntVal .f64 h6 .i64 = some 4) (ef : double.sub h6 (FI 4) = some f)
    (ea : double.sub 4607182418800017408 s = some a) (ep : double.mul v a = some p) (em : double.mul s f = some m) (eb : double.sub 4607182418800017408 m = some b) (eq : double.mul v b = some q)
    (eg : double.sub 4607182418800017408 f = some g) (en : double.mul s g = some n) (ec : double.sub 4607182418800017408 n = some c) (et : double.mul v c = some t)
    (Mv Mp Mx : Int) (v0 : 0 ≤ Mv) (v1 : Mv ≤ 255) (p0 : 0 ≤ Mp) (p1 : Mp ≤ 255) (x0 : 0 ≤ Mx) (x1 : Mx ≤ 255)
    (hv : Ap v ((Mv : Rat) / 255) (50 * E)) (hp : Ap p ((Mp : Rat) / 255) (50 * E)) (hx : Ap t ((Mx : Rat) / 255) (50 * E)) (w : World) :
    Calls Try.prog 21 #[.float .f64 h, .float .f64 s, .float .f64 v] w fun e w' => e = .returned (.tuple #[.int .u8 Mx, .int .u8 Mp, .int .u8 Mv]) ∧ w' = w := by
  have hv' : Hid _ := hv
  have hp' : Hid _ := hp
  have hx' : Hid _ := hx
  have q1 := rm e6
  have q2 := conv_int ek
  have q3 := rs ef
  have q4 := rs ea
  have q5 := rm ep
  have q6 := rm em
  have q7 := rs eb
  have q8 := rm eq
  have q9 := rs eg
  have q10 := rm en
  have q11 := rs ec
  have q12 := rm et
  clear hv hp hx e6 ek ef ea ep em eb eq eg en ec et
  go_enter Try.func21, Try.ntmps21
  go_wp2_with fail
  refine (to255 t Mx x0 x1 hx'.out _).mono ?_
  rintro e w' ⟨rfl, rfl⟩
  go_wp2_with fail
  refine (to255 p Mp p0 p1 hp'.out _).mono ?_
  rintro e w' ⟨rfl, rfl⟩
  go_wp2_with fail
  refine (to255 v Mv v0 v1 hv'.out _).mono ?_
  rintro e w' ⟨rfl, rfl⟩
  go_wp2
  go_ret3
  exact ⟨rfl, rfl⟩

theorem rgb5 (h s v h6 f a p m b q g n c t : Nat) (e6 : double.mul h 4618441417868443648 = some h6) (ek : floatToIntVal .f64 h6 .i64 = some 5) (ef : double.sub h6 (FI 5) = some f)
    (ea : double.sub 4607182418800017408 s = some a) (ep : double.mul v a = some p) (em : double.mul s f = some m) (eb : double.sub 4607182418800017408 m = some b) (eq : double.mul v b = some q)
    (eg : double.sub 4607182418800017408 f = some g) (en : double.mul s g = some n) (ec : double.sub 4607182418800017408 n = some c) (et : double.mul v c = some t)
    (Mv Mp Mx : Int) (v0 : 0 ≤ Mv) (v1 : Mv ≤ 255) (p0 : 0 ≤ Mp) (p1 : Mp ≤ 255) (x0 : 0 ≤ Mx) (x1 : Mx ≤ 255)
    (hv : Ap v ((Mv : Rat) / 255) (50 * E)) (hp : Ap p ((Mp : Rat) / 255) (50 * E)) (hx : Ap q ((Mx : Rat) / 255) (50 * E)) (w : World) :
    Calls Try.prog 21 #[.float .f64 h, .float .f64 s, .float .f64 v] w fun e w' => e = .returned (.tuple #[.int .u8 Mv, .int .u8 Mp, .int .u8 Mx]) ∧ w' = w := by
  have hv' : Hid _ := hv
  have hp' : Hid _ := hp
  have hx' : Hid _ := hx
  have q1 := rm e6
  have q2 := conv_int ek
  have q3 := rs ef
  have q4 := rs ea
  have q5 := rm ep
  have q6 := rm em
  have q7 := rs eb
  have q8 := rm eq
  have q9 := rs eg
  have q10 := rm en
  have q11 := rs ec
  have q12 := rm et
  clear hv hp hx e6 ek ef ea ep em eb eq eg en ec et
  go_enter Try.func21, Try.ntmps21
  go_wp2_with fail
  refine (to255 v Mv v0 v1 hv'.out _).mono ?_
  rintro e w' ⟨rfl, rfl⟩
  go_wp2_with fail
  refine (to255 p Mp p0 p1 hp'.out _).mono ?_
  rintro e w' ⟨rfl, rfl⟩
  go_wp2_with fail
  refine (to255 q Mx x0 x1 hx'.out _).mono ?_
  rintro e w' ⟨rfl, rfl⟩
  go_wp2
  go_ret3
  exact ⟨rfl, rfl⟩


/-! ### The plain law: the colour comes back -/
def xn (r g b hi lo : Int) : Int :=
  if hi = r then (if g < b then g - b + 6 * (hi - lo) else g - b)
  else if hi = g then 2 * (hi - lo) + (b - r)
  else 4 * (hi - lo) + (r - g)

theorem hue_xn (r g b hi lo : Int) (hne : lo < hi) : hue r g b hi lo = ((xn r g b hi lo : Int) : Rat) / ((hi - lo : Int) : Rat) / 6 := by
  have hp := cast_pos (show 0 < hi - lo by omega)
  unfold hue xn
  by_cases a : hi = r
  · rw [if_pos a, if_pos a]
    by_cases c : g < b
    · rw [if_pos c, if_pos c, Rat.intCast_add, Rat.intCast_mul, show ((6 : Int) : Rat) = 6 from rfl]; grind
    · rw [if_neg c, if_neg c]
  · rw [if_neg a, if_neg a]
    by_cases c : hi = g
    · rw [if_pos c, if_pos c, Rat.intCast_add, Rat.intCast_mul, show ((2 : Int) : Rat) = 2 from rfl]; grind
    · rw [if_neg c, if_neg c, Rat.intCast_add, Rat.intCast_mul, show ((4 : Int) : Rat) = 4 from rfl]; grind

theorem xn_bd (r g b hi lo : Int) (ht : Top r g b hi) (hl : Low r g b lo) (hne : lo < hi) : 0 ≤ xn r g b hi lo ∧ xn r g b hi lo ≤ 6 * (hi - lo) - 1 := by
  unfold Top at ht
  unfold Low at hl
  unfold xn
  by_cases a : hi = r
  · rw [if_pos a]
    by_cases c : g < b
    · rw [if_pos c]; omega
    · rw [if_neg c]; omega
  · rw [if_neg a]
    by_cases c : hi = g
    · rw [if_pos c]; omega
    · rw [if_neg c]; omega

/-- Which channel stands where, in each sector. -/
def Back (k r g b hi lo N : Int) : Prop :=
  (k = 0 → hi = r ∧ lo + N = g ∧ lo = b) ∧ (k = 1 → hi - N = r ∧ hi = g ∧ lo = b) ∧ (k = 2 → lo = r ∧ hi = g ∧ lo + N = b) ∧
  (k = 3 → lo = r ∧ hi - N = g ∧ hi = b) ∧ (k = 4 → lo + N = r ∧ lo = g ∧ hi = b) ∧ (k = 5 → hi = r ∧ lo = g ∧ hi - N = b)

theorem back (k r g b hi lo : Int) (ht : Top r g b hi) (hl : Low r g b lo) (hne : lo < hi) (h1 : k * (hi - lo) ≤ xn r g b hi lo) (h2 : xn r g b hi lo ≤ (k + 1) * (hi - lo)) :
    Back k r g b hi lo (xn r g b hi lo - k * (hi - lo)) := by
  unfold Top at ht
  unfold Low at hl
  unfold Back
  unfold xn at *
  refine ⟨?_, ?_, ?_, ?_, ?_, ?_⟩ <;> (intro hk; subst hk)
  all_goals
    by_cases a : hi = r
    · rw [if_pos a] at *
      by_cases c : g < b
      · rw [if_pos c] at *; omega
      · rw [if_neg c] at *; omega
    · rw [if_neg a] at *
      by_cases c : hi = g
      · rw [if_pos c] at *; omega
      · rw [if_neg c] at *; omega

theorem tuple3 {a b c a' b' c' : Int} (h1 : a = a') (h2 : b = b') (h3 : c = c') : Ending.returned (.tuple #[.int .u8 a, .int .u8 b, .int .u8 c]) = .returned (.tuple #[.int .u8 a', .int .u8 b', .int .u8 c']) := by
  rw [h1, h2, h3]

theorem widen {x : Nat} {a e e' : Rat} (h : Ap x a e) (he : e ≤ e') : Ap x a e' := by
  obtain ⟨f, h1, h2⟩ := h
  exact ⟨f, by grind, by grind⟩

theorem rgb_back (r g b hi lo : Int) (h1 : 0 ≤ r) (h2 : r ≤ 255) (h3 : 0 ≤ g) (h4 : g ≤ 255) (h5 : 0 ≤ b) (h6 : b ≤ 255) (ht : Top r g b hi) (hl : Low r g b lo) (hne : lo < hi)
    (h : Nat) (hf : Fine h) (hz : 0 ≤ V h) (d1 : V h - hue r g b hi lo ≤ 5 * E) (d2 : hue r g b hi lo - V h ≤ 5 * E) (w : World) :
    Calls Try.prog 21 #[.float .f64 h, .float .f64 (sW hi lo), .float .f64 (vW hi)] w fun e w' => e = .returned (.tuple #[.int .u8 r, .int .u8 g, .int .u8 b]) ∧ w' = w := by
  have eE := E_small
  have ep := E_pos
  have hb : 0 ≤ lo ∧ hi ≤ 255 := by unfold Top at ht; unfold Low at hl; omega
  obtain ⟨xb0, xb1⟩ := xn_bd r g b hi lo ht hl hne
  have bk := fun k => back k r g b hi lo ht hl hne
  rw [hue_xn r g b hi lo hne] at d1 d2
  generalize xn r g b hi lo = N0 at *
  obtain ⟨_, fv, v1, v2⟩ := ex_v hi (by omega) hb.2
  obtain ⟨_, fs, s1, s2⟩ := ex_s hi lo hb.1 hne hb.2
  have hd : 0 < hi - lo := by omega
  have hdp := cast_pos hd
  have hip := cast_pos (show 0 < hi by omega)
  have hd255 := cast_le (show hi - lo ≤ 255 by omega)
  have hi255 := cast_le hb.2
  have N0r := cast_le xb0
  have N1r := cast_le xb1
  rw [show ((255 : Int) : Rat) = 255 from rfl] at hd255 hi255
  rw [show ((0 : Int) : Rat) = 0 from rfl] at N0r
  rw [Rat.intCast_sub, Rat.intCast_mul, show ((6 : Int) : Rat) = 6 from rfl, show ((1 : Int) : Rat) = 1 from rfl] at N1r
  have x0 : 0 ≤ (N0 : Rat) / ((hi - lo : Int) : Rat) := le_div_of hdp (by grind)
  have x1 : (N0 : Rat) / ((hi - lo : Int) : Rat) ≤ 6 - 1 / 255 := div_le_of hdp (by grind)
  obtain ⟨h6w, k, f, e6, ek, k0, k5, ef, apf, kx, xk⟩ := ex_sector hf hz d1 d2 x0 x1
  have hmul : (N0 : Rat) / ((hi - lo : Int) : Rat) * ((hi - lo : Int) : Rat) = (N0 : Rat) := Rat.div_mul_cancel (Rat.ne_of_gt hdp)
  -- the sector, in whole numbers
  have i1 : k * (hi - lo) ≤ N0 := by
    have m1 := Rat.mul_le_mul_of_nonneg_right kx (Rat.le_of_lt hdp)
    have m2 : ((k * (hi - lo) : Int) : Rat) < ((N0 + 1 : Int) : Rat) := by
      rw [Rat.intCast_mul, Rat.intCast_add, show ((1 : Int) : Rat) = 1 from rfl]
      generalize ((hi - lo : Int) : Rat) = D at *
      have m3 := Rat.mul_le_mul_of_nonneg_left hd255 (show (0 : Rat) ≤ 32 * E by grind)
      grind
    have := Rat.intCast_lt_intCast.1 m2
    omega
  have i2 : N0 ≤ (k + 1) * (hi - lo) := by
    have m1 := Rat.mul_le_mul_of_nonneg_right xk (Rat.le_of_lt hdp)
    have m2 : ((N0 : Int) : Rat) < (((k + 1) * (hi - lo) + 1 : Int) : Rat) := by
      rw [Rat.intCast_add, Rat.intCast_mul, Rat.intCast_add, show ((1 : Int) : Rat) = 1 from rfl]
      generalize ((hi - lo : Int) : Rat) = D at *
      have m3 := Rat.mul_le_mul_of_nonneg_left hd255 (show (0 : Rat) ≤ 32 * E by grind)
      grind
    have := Rat.intCast_lt_intCast.1 m2
    omega
  have bk' := bk k i1 i2
  clear bk
  -- the fraction of the sector
  have hF : (N0 : Rat) / ((hi - lo : Int) : Rat) - (k : Rat) = ((N0 - k * (hi - lo) : Int) : Rat) / ((hi - lo : Int) : Rat) := by
    rw [Rat.intCast_sub N0, Rat.intCast_mul]
    generalize ((hi - lo : Int) : Rat) = D at *
    grind
  rw [hF] at apf
  have n0 : 0 ≤ N0 - k * (hi - lo) := by omega
  have n1 : N0 - k * (hi - lo) ≤ hi - lo := by
    rw [Int.add_mul, Int.one_mul] at i2
    omega
  clear hF i1 i2 kx xk hmul x0 x1 d1 d2 N0r N1r xb0 xb1
  generalize N0 - k * (hi - lo) = N at *
  have nr0 := cast_le n0
  have nr1 := cast_le n1
  rw [show ((0 : Int) : Rat) = 0 from rfl] at nr0
  have a0 : Ap (vW hi) ((hi : Rat) / 255) (2 * E) := ⟨fv, v1, v2⟩
  have a1 : Ap (sW hi lo) (((hi - lo : Int) : Rat) / (hi : Rat)) (2 * E) := ⟨fs, s1, s2⟩
  have dh := cast_le (show hi - lo ≤ hi by omega)
  obtain ⟨a, p, m, bb, q, gg, n, c, t, ea, ep', em, eb, eq, eg, en, ec, et, hp, hq, ht'⟩ := ex_pqt a0 a1 apf (le_div_of (by decide) (by grind)) (div_le_of (by decide) (by grind)) (le_div_of hip (by grind)) (div_le_of hip (by grind)) (le_div_of hdp (by grind)) (div_le_of hdp (by grind))
  have hp2 : Ap p ((lo : Rat) / 255) (50 * E) := by
    have e : (hi : Rat) / 255 * (1 - ((hi - lo : Int) : Rat) / (hi : Rat)) = (lo : Rat) / 255 := by rw [Rat.intCast_sub]; grind
    rw [e] at hp; exact hp
  have hq2 : Ap q (((hi - N : Int) : Rat) / 255) (50 * E) := by
    have e : (hi : Rat) / 255 * (1 - ((hi - lo : Int) : Rat) / (hi : Rat) * ((N : Rat) / ((hi - lo : Int) : Rat))) = ((hi - N : Int) : Rat) / 255 := by
      rw [Rat.intCast_sub hi N]
      generalize ((hi - lo : Int) : Rat) = D at *
      grind
    rw [e] at hq; exact hq
  have ht2 : Ap t (((lo + N : Int) : Rat) / 255) (50 * E) := by
    have e : (hi : Rat) / 255 * (1 - ((hi - lo : Int) : Rat) / (hi : Rat) * (1 - (N : Rat) / ((hi - lo : Int) : Rat))) = ((lo + N : Int) : Rat) / 255 := by
      have e2 : ((lo + N : Int) : Rat) = (hi : Rat) - ((hi - lo : Int) : Rat) + (N : Rat) := by rw [Rat.intCast_add, Rat.intCast_sub]; grind
      rw [e2]
      generalize ((hi - lo : Int) : Rat) = D at *
      grind
    rw [e] at ht'; exact ht'
  have a2 : Ap (vW hi) ((hi : Rat) / 255) (50 * E) := widen a0 (by grind)
  obtain ⟨b0, b1, b2, b3, b4, b5⟩ := bk'
  clear hp hq ht' hdp hip hd255 hi255 nr0 nr1 dh s1 s2 v1 v2 fs fv a0 a1 apf
  by_cases c0 : k = 0
  · subst c0
    obtain ⟨z1, z2, z3⟩ := b0 rfl
    refine (rgb0 h _ _ h6w f a p m bb q gg n c t e6 ek ef ea ep' em eb eq eg en ec et hi lo (lo + N) (by omega) (by omega) (by omega) (by omega) (by omega) (by omega) a2 hp2 ht2 w).mono ?_
    rintro e w' ⟨rfl, rfl⟩
    exact ⟨tuple3 z1 z2 z3, rfl⟩
  by_cases c1 : k = 1
  · subst c1
    obtain ⟨z1, z2, z3⟩ := b1 rfl
    refine (rgb1 h _ _ h6w f a p m bb q gg n c t e6 ek ef ea ep' em eb eq eg en ec et hi lo (hi - N) (by omega) (by omega) (by omega) (by omega) (by omega) (by omega) a2 hp2 hq2 w).mono ?_
    rintro e w' ⟨rfl, rfl⟩
    exact ⟨tuple3 z1 z2 z3, rfl⟩
  by_cases c2 : k = 2
  · subst c2
    obtain ⟨z1, z2, z3⟩ := b2 rfl
    refine (rgb2 h _ _ h6w f a p m bb q gg n c t e6 ek ef ea ep' em eb eq eg en ec et hi lo (lo + N) (by omega) (by omega) (by omega) (by omega) (by omega) (by omega) a2 hp2 ht2 w).mono ?_
    rintro e w' ⟨rfl, rfl⟩
    exact ⟨tuple3 z1 z2 z3, rfl⟩
  by_cases c3 : k = 3
  · subst c3
    obtain ⟨z1, z2, z3⟩ := b3 rfl
    refine (rgb3 h _ _ h6w f a p m bb q gg n c t e6 ek ef ea ep' em eb eq eg en ec et hi lo (hi - N) (by omega) (by omega) (by omega) (by omega) (by omega) (by omega) a2 hp2 hq2 w).mono ?_
    rintro e w' ⟨rfl, rfl⟩
    exact ⟨tuple3 z1 z2 z3, rfl⟩
  by_cases c4 : k = 4
  · subst c4
    obtain ⟨z1, z2, z3⟩ := b4 rfl
    refine (rgb4 h _ _ h6w f a p m bb q gg n c t e6 ek ef ea ep' em eb eq eg en ec et hi lo (lo + N) (by omega) (by omega) (by omega) (by omega) (by omega) (by omega) a2 hp2 ht2 w).mono ?_
    rintro e w' ⟨rfl, rfl⟩
    exact ⟨tuple3 z1 z2 z3, rfl⟩
  by_cases c5 : k = 5
  · subst c5
    obtain ⟨z1, z2, z3⟩ := b5 rfl
    refine (rgb5 h _ _ h6w f a p m bb q gg n c t e6 ek ef ea ep' em eb eq eg en ec et hi lo (hi - N) (by omega) (by omega) (by omega) (by omega) (by omega) (by omega) a2 hp2 hq2 w).mono ?_
    rintro e w' ⟨rfl, rfl⟩
    exact ⟨tuple3 z1 z2 z3, rfl⟩
  omega

/-- A grey comes back too. -/
theorem rgb_grey (r : Int) (h1 : 0 ≤ r) (h2 : r ≤ 255) (w : World) :
    Calls Try.prog 21 #[.float .f64 0, .float .f64 0, .float .f64 (vW r)] w fun e w' => e = .returned (.tuple #[.int .u8 r, .int .u8 r, .int .u8 r]) ∧ w' = w := by
  have eE := E_small
  have ep := E_pos
  obtain ⟨_, fv, v1, v2⟩ := ex_v r h1 h2
  obtain ⟨fz, vz⟩ := c0
  obtain ⟨h6w, k, f, e6, ek, k0, k5, ef, apf, kx, xk⟩ := ex_sector (X := 0) fz (by rw [vz]; decide) (by rw [vz]; grind) (by rw [vz]; grind) (by decide) (by grind)
  have hk : k = 0 := by
    have : ((k : Int) : Rat) < ((1 : Int) : Rat) := by rw [show ((1 : Int) : Rat) = 1 from rfl]; grind
    have := Rat.intCast_lt_intCast.1 this
    omega
  subst hk
  rw [show (0 : Rat) - ((0 : Int) : Rat) = 0 from by decide +kernel] at apf
  have r0 := cast_le h1
  have r1 := cast_le h2
  rw [show ((0 : Int) : Rat) = 0 from rfl] at r0
  rw [show ((255 : Int) : Rat) = 255 from rfl] at r1
  have a0 : Ap (vW r) ((r : Rat) / 255) (2 * E) := ⟨fv, v1, v2⟩
  have a1 : Ap 0 0 (2 * E) := ⟨fz, by rw [vz]; grind, by rw [vz]; grind⟩
  obtain ⟨a, p, m, bb, q, gg, n, c, t, ea, ep', em, eb, eq, eg, en, ec, et, hp, hq, ht'⟩ := ex_pqt a0 a1 apf (le_div_of (by decide) (by grind)) (div_le_of (by decide) (by grind)) (by decide) (by decide) (by decide) (by decide)
  have hp2 : Ap p ((r : Rat) / 255) (50 * E) := by
    have e : (r : Rat) / 255 * (1 - 0) = (r : Rat) / 255 := by grind
    rw [e] at hp; exact hp
  have ht2 : Ap t ((r : Rat) / 255) (50 * E) := by
    have e : (r : Rat) / 255 * (1 - 0 * (1 - 0)) = (r : Rat) / 255 := by grind
    rw [e] at ht'; exact ht'
  have a2 : Ap (vW r) ((r : Rat) / 255) (50 * E) := widen a0 (by grind)
  exact rgb0 0 0 _ h6w f a p m bb q gg n c t e6 ek ef ea ep' em eb eq eg en ec et r r r h1 h2 h1 h2 h1 h2 a2 hp2 ht2 w
end Go.Proofs.Qxb6602704a.flo
