/- The proof of 'Rows.FnToHSBRoundTripsToRGBSaid': the frame is the seat's own shell; the walk is ours. -/
import Derived.Test.Qxb6602704aRows
import Derived.WalkKit
import Derived.ProofKit
import Derived.OpenShut
import Derived.ShutString
import Derived.Test.Qxb6602704aRgb
namespace Go.Proofs.Qxb6602704a.fnToHSBRoundTripsToRGB
open Go.ChangeShapes Go.WideShapes Go.ChangeAt Go.RowKit
open Go.ChangeMaps (open_string shut_string)
set_option linter.unusedVariables false      -- a walk need not use every 'w<i>' (that an integer argument fits its kind)

theorem own : ownKnob Try.prog.godebug = none := by kernel_rfl

/-! ### The walk, in two ways -/
open Ieee in
theorem ge_yes {x y : Nat} (hx : flo.Fine x) (hy : flo.Fine y) (h : flo.V y ≤ flo.V x) : (FloatKind.f64.format.order x y == some Ordering.gt || FloatKind.f64.format.order x y == some Ordering.eq) = true := by
  by_cases e : flo.V x = flo.V y
  · rw [flo.eq_yes hx hy e]; simp
  · rw [flo.gt_yes hx hy (by grind)]; simp
theorem le_yes {x y : Nat} (hx : flo.Fine x) (hy : flo.Fine y) (h : flo.V x ≤ flo.V y) : (FloatKind.f64.format.order x y == some Ordering.lt || FloatKind.f64.format.order x y == some Ordering.eq) = true := by
  by_cases e : flo.V x = flo.V y
  · rw [flo.eq_yes hx hy e]; simp
  · rw [flo.lt_yes hx hy (by grind)]; simp
theorem le_no {x y : Nat} (hx : flo.Fine x) (hy : flo.Fine y) (h : flo.V y < flo.V x) : (FloatKind.f64.format.order x y == some Ordering.lt || FloatKind.f64.format.order x y == some Ordering.eq) = false := by
  rw [flo.lt_no hx hy (by grind), flo.eq_no hx hy (by grind)]; rfl
theorem ne_self {x : Nat} (hx : flo.Fine x) : (FloatKind.f64.format.order x x != some Ordering.eq) = false := by
  have := flo.eq_yes hx hx rfl
  simpa using this

/-- Brightness: from 0 to 1; 0 just for black. -/
theorem v_facts (hi : Int) (h0 : 0 ≤ hi) (h1 : hi ≤ 255) : flo.Fine (flo.vW hi) ∧ 0 ≤ flo.V (flo.vW hi) ∧ flo.V (flo.vW hi) ≤ 1 ∧ (hi = 0 → flo.V (flo.vW hi) = 0) ∧ (0 < hi → 0 < flo.V (flo.vW hi)) := by
  obtain ⟨_, fv, v1, v2⟩ := flo.ex_v hi h0 h1
  have eE := flo.E_small
  by_cases c0 : hi = 0
  · subst c0
    have e : flo.vW 0 = 0 := by decide +kernel
    rw [e] at fv ⊢
    rw [flo.c0.2]
    exact ⟨fv, by decide, by decide, fun _ => rfl, fun h => by omega⟩
  · have r1 := flo.cast_le (show 1 ≤ hi by omega)
    rw [show ((1 : Int) : Rat) = 1 from rfl] at r1
    by_cases c1 : hi = 255
    · subst c1
      have e : flo.vW 255 = 4607182418800017408 := by decide +kernel
      rw [e] at fv ⊢
      rw [flo.c1.2]
      exact ⟨fv, by decide, by decide, fun h => by omega, fun _ => by decide⟩
    · have r2 := flo.cast_le (show hi ≤ 254 by omega)
      rw [show ((254 : Int) : Rat) = 254 from rfl] at r2
      exact ⟨fv, by grind, by grind, fun h => by omega, fun _ => by grind⟩

/-- Saturation of a colour that is no grey: above 0, at most 1. -/
theorem s_facts (hi lo : Int) (h0 : 0 ≤ lo) (hne : lo < hi) (h1 : hi ≤ 255) : flo.Fine (flo.sW hi lo) ∧ 0 < flo.V (flo.sW hi lo) ∧ flo.V (flo.sW hi lo) ≤ 1 := by
  obtain ⟨_, fs, s1, s2⟩ := flo.ex_s hi lo h0 hne h1
  have eE := flo.E_small
  have hp := flo.cast_pos (show 0 < hi by omega)
  have h255 := flo.cast_le h1
  rw [show ((255 : Int) : Rat) = 255 from rfl] at h255
  have hd := flo.cast_le (show 1 ≤ hi - lo by omega)
  rw [show ((1 : Int) : Rat) = 1 from rfl] at hd
  have low : 1 / 255 ≤ ((hi - lo : Int) : Rat) / (hi : Rat) := flo.le_div_of hp (by grind)
  by_cases c : lo = 0
  · subst c
    have e : flo.sW hi 0 = 4607182418800017408 := by
      have z := flo.self_over ⟨hi.toNat, by omega⟩ (by simp; omega)
      have e : ((⟨hi.toNat, by omega⟩ : Fin 256).val : Int) = hi := by simp; omega
      rw [e] at z
      unfold flo.sW
      rw [Int.sub_zero, z]
      rfl
    rw [e] at fs ⊢
    rw [flo.c1.2]
    exact ⟨fs, by decide, by decide⟩
  · have hl := flo.cast_le (show hi - lo ≤ hi - 1 by omega)
    rw [Rat.intCast_sub hi 1, show ((1 : Int) : Rat) = 1 from rfl] at hl
    have up : ((hi - lo : Int) : Rat) / (hi : Rat) ≤ 1 - 1 / 255 := flo.div_le_of hp (by grind)
    exact ⟨fs, by grind, by grind⟩

theorem grey_walk (a : Int) (h1 : 0 ≤ a) (h2 : a ≤ 255) (w : World) :
    Calls Try.prog 5 #[.int .u8 a, .int .u8 a, .int .u8 a] w fun e w' => e = .returned (.bool true) ∧ Grown w w' := by
  obtain ⟨fv, v0, v1, vz, vp⟩ := v_facts a h1 h2
  obtain ⟨fz, ez⟩ := flo.c0
  have g1 := ge_yes fz fz Rat.le_refl
  have g2 := flo.lt_yes fz flo.c1.1 (by rw [ez, flo.c1.2]; decide)
  have g3 := le_yes fz flo.c1.1 (by rw [ez, flo.c1.2]; decide)
  have g4 := ge_yes fv fz (by rw [ez]; exact v0)
  have g5 := le_yes fv flo.c1.1 (by rw [flo.c1.2]; exact v1)
  have g6 := ne_self fz
  have hh : (a == a) = true := by simp
  by_cases c : a = 0
  · have k1 := flo.eq_yes fv fz (by rw [ez]; exact vz c)
    have k2 : (a == 0) = true := by simp [c]
    clear fv v0 v1 vz vp fz ez c
    go_enter Try.func5, Try.ntmps5
    go_wp2_with fail
    refine (flo.zz_grey a h1 h2 _).mono ?_
    rintro e w' ⟨rfl, rfl⟩
    go_wp2_with fail
    refine (flo.hi3 a a a a (by unfold flo.Top; omega) _).mono ?_
    rintro e w' ⟨rfl, rfl⟩
    go_wp2_with fail
    refine (flo.lo3 a a a a (by unfold flo.Low; omega) _).mono ?_
    rintro e w' ⟨rfl, rfl⟩
    go_wp2_with fail
    refine (flo.rgb_grey a h1 h2 _).mono ?_
    rintro e w' ⟨rfl, rfl⟩
    go_wp2
    go_ret
    exact ⟨rfl, Grown.refl _⟩
  · have k1 := flo.eq_no fv fz (by rw [ez]; have := vp (by omega); grind)
    have k3 := flo.gt_yes fv fz (by rw [ez]; exact vp (by omega))
    have k2 : (a == 0) = false := by simp [c]
    clear g4 fv v0 v1 vz vp fz ez c
    go_enter Try.func5, Try.ntmps5
    go_wp2_with fail
    refine (flo.zz_grey a h1 h2 _).mono ?_
    rintro e w' ⟨rfl, rfl⟩
    go_wp2_with fail
    refine (flo.hi3 a a a a (by unfold flo.Top; omega) _).mono ?_
    rintro e w' ⟨rfl, rfl⟩
    go_wp2_with fail
    refine (flo.lo3 a a a a (by unfold flo.Low; omega) _).mono ?_
    rintro e w' ⟨rfl, rfl⟩
    go_wp2_with fail
    refine (flo.rgb_grey a h1 h2 _).mono ?_
    rintro e w' ⟨rfl, rfl⟩
    go_wp2
    go_ret
    exact ⟨rfl, Grown.refl _⟩

theorem hue_lt (r g b hi lo : Int) (ht : flo.Top r g b hi) (hl : flo.Low r g b lo) (hne : lo < hi) (h : hi - lo ≤ 255) : flo.hue r g b hi lo ≤ 1 - 1 / 1530 := by
  rw [flo.hue_xn r g b hi lo hne]
  obtain ⟨b0, b1⟩ := flo.xn_bd r g b hi lo ht hl hne
  have hp := flo.cast_pos (show 0 < hi - lo by omega)
  have c1 := flo.cast_le b1
  have c2 := flo.cast_le h
  rw [show ((255 : Int) : Rat) = 255 from rfl] at c2
  rw [Rat.intCast_sub, Rat.intCast_mul, show ((6 : Int) : Rat) = 6 from rfl, show ((1 : Int) : Rat) = 1 from rfl] at c1
  have : ((flo.xn r g b hi lo : Int) : Rat) / ((hi - lo : Int) : Rat) ≤ 6 - 1 / 255 := flo.div_le_of hp (by grind)
  grind

theorem col_walk (r g b hi lo : Int) (h1 : 0 ≤ r) (h2 : r ≤ 255) (h3 : 0 ≤ g) (h4 : g ≤ 255) (h5 : 0 ≤ b) (h6 : b ≤ 255) (ht : flo.Top r g b hi) (hl : flo.Low r g b lo) (hne : lo < hi) (w : World) :
    Calls Try.prog 5 #[.int .u8 r, .int .u8 g, .int .u8 b] w fun e w' => e = .returned (.bool true) ∧ Grown w w' := by
  have b0 : 0 ≤ lo ∧ hi ≤ 255 := by unfold flo.Top at ht; unfold flo.Low at hl; omega
  obtain ⟨fv, v0, v1, vz, vp⟩ := v_facts hi (by omega) b0.2
  obtain ⟨fs, s0, s1⟩ := s_facts hi lo b0.1 hne b0.2
  obtain ⟨fz, ez⟩ := flo.c0
  have g3 := flo.gt_yes fs fz (by rw [ez]; exact s0)
  have g3' := le_yes fs flo.c1.1 (by rw [flo.c1.2]; exact s1)
  have g4 := flo.gt_yes fv fz (by rw [ez]; exact vp (by omega))
  have g5 := le_yes fv flo.c1.1 (by rw [flo.c1.2]; exact v1)
  have g6 := flo.lt_no fs fz (by rw [ez]; grind)
  have g7 := flo.eq_no fs fz (by rw [ez]; grind)
  have k1 := flo.eq_no fv fz (by rw [ez]; have := vp (by omega); grind)
  have k2 : (hi == 0) = false := by simp; omega
  have ht' : Hid (flo.Top r g b hi) := ht
  have hl' : Hid (flo.Low r g b lo) := hl
  have hq : (hi == lo) = false := by simp; omega
  have B : Hid _ := hue_lt r g b hi lo ht hl hne (by omega)
  clear ht hl b0 fv v0 v1 vz vp fs s0 s1 fz ez
  go_enter Try.func5, Try.ntmps5
  go_wp2_with fail
  refine (flo.zz_col r g b hi lo h1 h2 h3 h4 h5 h6 ht'.out hl'.out hne _).mono ?_
  rintro e w' ⟨⟨h, rfl, D⟩, rfl⟩
  have D1 : Hid _ := D
  obtain ⟨fh, p0, u1, u2⟩ := D
  have g1 := ge_yes fh flo.c0.1 (by rw [flo.c0.2]; exact p0)
  have g2 := flo.lt_yes fh flo.c1.1 (by rw [flo.c1.2]; have := B.out; have := flo.E_small; grind)
  clear fh p0 u1 u2 B
  go_wp2_with fail
  refine (flo.hi3 r g b hi ht'.out _).mono ?_
  rintro e w' ⟨rfl, rfl⟩
  go_wp2_with fail
  refine (flo.lo3 r g b lo hl'.out _).mono ?_
  rintro e w' ⟨rfl, rfl⟩
  go_wp2_with fail
  refine (flo.rgb_back r g b hi lo h1 h2 h3 h4 h5 h6 ht'.out hl'.out hne h D1.out.1 D1.out.2.1 D1.out.2.2.1 D1.out.2.2.2 _).mono ?_
  rintro e w' ⟨rfl, rfl⟩
  have i1 : (r == r) = true := by simp
  have i2 : (g == g) = true := by simp
  have i3 : (b == b) = true := by simp
  go_wp2
  go_ret
  exact ⟨rfl, Grown.refl _⟩

/-! ### STEP 1: THE WALK: the Go text returns true. 'Grown w w'': the world has at most new blocks (Derived/RowKit3.lean). Part the cases AHEAD of 'go_enter' where a test parts the walk; take each callee by a contract of your own. -/
theorem walk (a0 : Int) (a1 : Int) (a2 : Int) (w0 : (Lit.int .u8 a0).wf = true) (w1 : (Lit.int .u8 a1).wf = true) (w2 : (Lit.int .u8 a2).wf = true) (w : World) :
    Calls Try.prog 5 #[.int .u8 a0, .int .u8 a1, .int .u8 a2] w fun e w' => e = .returned (.bool true) ∧ Grown w w' := by
  have b0 := bounds_u8 w0
  have b1 := bounds_u8 w1
  have b2 := bounds_u8 w2
  obtain ⟨hi, lo, ht, hl⟩ := flo.tops a0 a1 a2
  by_cases hne : lo < hi
  · exact col_walk a0 a1 a2 hi lo b0.1 b0.2 b1.1 b1.2 b2.1 b2.2 ht hl hne w
  · unfold flo.Top at ht
    unfold flo.Low at hl
    obtain rfl : a1 = a0 := by omega
    obtain rfl : a2 = a1 := by omega
    exact grey_walk a2 b2.1 b2.2 w

/-! ### THE ROW's STEP: WRITTEN OUT: LEAVE IT -/
set_option maxRecDepth 100000 in
theorem lifted (os : Os) (started : os.Started) (H : Type) (enc : TypeId × Value → H) :
    ReturnsInHanded {} Try.checked os 5 .any (Rows.fnToHSBRoundTripsToRGBSpec.pre6 enc Try.prog Try.f5 Rows.fnToHSBRoundTripsToRGBRow.domain false) (Rows.fnToHSBRoundTripsToRGBSpec.post enc Try.prog Try.f5 false true false false) := by
  refine returnsInHanded_of_change (C := Try.checked) own started (by kernel_rfl) Try.func5
    (ChangeSpec.witness6 (enc := enc) (C := Try.checked) false ⟨#[], #[.int .u8 0, .int .u8 0, .int .u8 0], []⟩ 8 (by kernel_rfl) (by kernel_rfl) (by kernel_rfl) (by kernel_rfl)) ?_
  intro W base args ds gs before hval0 hW hcnd _
  have hval : ∀ (j : Nat) t v, Try.f5.params[j]? = some t → args[j]? = some v → Value.okWide Try.prog W .any base t v := hval0
  have hW' := hW
  obtain ⟨p, q, hA0, hV, rfl, hfz, hnd⟩ := hW
  have hA : DataW.TrodAll enc Try.prog W 0 (fun _ => true) true Try.f5.params.toList args.toList ds p := hA0
  rw [Try.params5] at hA hval
  obtain ⟨v0, vs0, d0, ds0, p0, q0, hargs, rfl, rfl, h0, r0⟩ := trodAll_cons hA
  obtain ⟨v1, vs1, d1, ds1, p1, q1, rfl, rfl, rfl, h1, r1⟩ := trodAll_cons r0
  obtain ⟨v2, vs2, d2, ds2, p2, q2, rfl, rfl, rfl, h2, r2⟩ := trodAll_cons r1
  obtain ⟨rfl, rfl, rfl⟩ := trodAll_nil r2
  obtain rfl : args = #[v0, v1, v2] := by cases args; simp_all
  obtain ⟨rfl, rfl⟩ := trodVars_none hV
  obtain ⟨a0, rfl, rfl, rfl, w0⟩ := open_int Try.underlying5 (hval 0 5 v0 rfl rfl) h0
  obtain ⟨a1, rfl, rfl, rfl, w1⟩ := open_int Try.underlying5 (hval 1 5 v1 rfl rfl) h1
  obtain ⟨a2, rfl, rfl, rfl, w2⟩ := open_int Try.underlying5 (hval 2 5 v2 rfl rfl) h2
  clear hA0 hval0
  simp only [List.append_nil] at hW'
  refine (walk a0 a1 a2 w0 w1 w2 W).mono fun e W' ⟨he, hg⟩ => ?_
  subst he
  exact ⟨_, rfl, post_of_same (pa := []) (pv := []) hW' (fun _ _ _ => (trodAll_cons_mk (shut_bool Try.underlying4 _) trodAll_mk0)) (fun sp _ => (trodAll_cons_mk (shut_int Try.underlying5 w0) (trodAll_cons_mk (shut_int Try.underlying5 w1) (trodAll_cons_mk (shut_int Try.underlying5 w2) trodAll_mk0)))) (fun _ _ => rfl) rfl
    (hg.frame _) hg.2.1 (ok_one (by kernel_rfl) rfl (okWide_bool_mk Try.underlying4 _))⟩

theorem over : Rows.fnToHSBRoundTripsToRGBRow.holds Try.pinned (OpenSpec.ofChange Rows.fnToHSBRoundTripsToRGBSpec) :=
  OpenClaim.holds_of_wide 5 Try.f5 rfl rfl rfl rfl rfl rfl rfl ⟨rfl, rfl, rfl, rfl, rfl⟩ rfl rfl rfl rfl rfl (by kernel_rfl) Try.func5 (by kernel_rfl)
    (of_decide_eq_true (by kernel_rfl)) (by unfold Func.isWrapper; first | (rw [if_pos (by decide +kernel)]; kernel_rfl) | (rw [if_neg (by decide +kernel)]; exact ⟨rfl, rfl⟩))
    (fun os started H enc _ => lifted os started H enc)

/-- ████ THE STATEMENT ████ -/
theorem proved : Rows.FnToHSBRoundTripsToRGBSaid :=
  over
#print axioms proved
end Go.Proofs.Qxb6602704a.fnToHSBRoundTripsToRGB
