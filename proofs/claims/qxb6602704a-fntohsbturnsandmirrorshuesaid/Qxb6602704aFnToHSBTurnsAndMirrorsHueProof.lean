/- The proof of 'Rows.FnToHSBTurnsAndMirrorsHueSaid': the frame is the seat's own shell; the walk is ours. -/
import Derived.Test.Qxb6602704aRows
import Derived.WalkKit
import Derived.ProofKit
import Derived.OpenShut
import Derived.ShutString
import Derived.Test.Qxb6602704aHue
namespace Go.Proofs.Qxb6602704a.fnToHSBTurnsAndMirrorsHue
open Go.ChangeShapes Go.WideShapes Go.ChangeAt Go.RowKit
open Go.ChangeMaps (open_string shut_string)
set_option linter.unusedVariables false      -- a walk need not use every 'w<i>' (that an integer argument fits its kind)

theorem own : ownKnob Try.prog.godebug = none := by kernel_rfl

/-! ### The walk, in two ways -/
theorem ne_self {x : Nat} (hx : flo.Fine x) : (FloatKind.f64.format.order x x != some Ordering.eq) = false := by
  have := flo.eq_yes hx hx rfl
  simpa using this

theorem hue_bd (r g b hi lo : Int) (ht : flo.Top r g b hi) (hl : flo.Low r g b lo) (hne : lo < hi) : -1 ≤ flo.hue r g b hi lo ∧ flo.hue r g b hi lo ≤ 2 := by
  unfold flo.Top at ht
  unfold flo.Low at hl
  have f1 := flo.frac_le (n := g - b) (show 0 < hi - lo by omega) (by omega) (by omega)
  have f2 := flo.frac_le (n := b - r) (show 0 < hi - lo by omega) (by omega) (by omega)
  have f3 := flo.frac_le (n := r - g) (show 0 < hi - lo by omega) (by omega) (by omega)
  unfold flo.hue
  by_cases a : hi = r
  · rw [if_pos a]
    by_cases c : g < b
    · rw [if_pos c]; constructor <;> grind
    · rw [if_neg c]; constructor <;> grind
  · rw [if_neg a]
    by_cases c : hi = g
    · rw [if_pos c]; constructor <;> grind
    · rw [if_neg c]; constructor <;> grind

theorem grey_walk (a : Int) (h1 : 0 ≤ a) (h2 : a ≤ 255) (w : World) :
    Calls Try.prog 6 #[.int .u8 a, .int .u8 a, .int .u8 a] w fun e w' => e = .returned (.bool true) ∧ Grown w w' := by
  have n0 := ne_self flo.c0.1
  have nv := ne_self (flo.ex_v a h1 h2).2.1
  have y0 := flo.eq_yes flo.c0.1 flo.c0.1 rfl
  have hh : (a == a) = true := by simp
  go_enter Try.func6, Try.ntmps6
  go_wp2_with fail
  refine (flo.zz_grey a h1 h2 _).mono ?_
  rintro e w' ⟨rfl, rfl⟩
  go_wp2_with fail
  refine (flo.zz_grey a h1 h2 _).mono ?_
  rintro e w' ⟨rfl, rfl⟩
  go_wp2_with fail
  refine (flo.zz_grey a h1 h2 _).mono ?_
  rintro e w' ⟨rfl, rfl⟩
  go_wp2_with fail
  refine (flo.hi3 a a a a (by unfold flo.Top; omega) _).mono ?_
  rintro e w' ⟨rfl, rfl⟩
  go_wp2_with fail
  refine (flo.lo3 a a a a (by unfold flo.Low; omega) _).mono ?_
  rintro e w' ⟨rfl, rfl⟩
  go_wp2
  go_ret
  exact ⟨rfl, Grown.refl _⟩

theorem col_walk (r g b hi lo : Int) (h1 : 0 ≤ r) (h2 : r ≤ 255) (h3 : 0 ≤ g) (h4 : g ≤ 255) (h5 : 0 ≤ b) (h6 : b ≤ 255) (ht : flo.Top r g b hi) (hl : flo.Low r g b lo) (hne : lo < hi) (w : World) :
    Calls Try.prog 6 #[.int .u8 r, .int .u8 g, .int .u8 b] w fun e w' => e = .returned (.bool true) ∧ Grown w w' := by
  have b0 : 0 ≤ lo ∧ hi ≤ 255 := by unfold flo.Top at ht; unfold flo.Low at hl; omega
  have ns := ne_self (flo.ex_s hi lo b0.1 hne b0.2).2.1
  have nv := ne_self (flo.ex_v hi (by omega) b0.2).2.1
  have htt : Hid (flo.Top b r g hi) := by unfold Hid; unfold flo.Top at ht ⊢; omega
  have hlt : Hid (flo.Low b r g lo) := by unfold Hid; unfold flo.Low at hl ⊢; omega
  have htm : Hid (flo.Top r b g hi) := by unfold Hid; unfold flo.Top at ht ⊢; omega
  have hlm : Hid (flo.Low r b g lo) := by unfold Hid; unfold flo.Low at hl ⊢; omega
  have ht' : Hid (flo.Top r g b hi) := ht
  have hl' : Hid (flo.Low r g b lo) := hl
  have hq : (hi == lo) = false := by simp; omega
  have T1 : Hid _ := flo.hue_turn r g b hi lo ht hl hne
  have T2 : Hid _ := flo.hue_mirror r g b hi lo ht hl hne
  have B1 : Hid _ := hue_bd r g b hi lo ht hl hne
  have B2 : Hid _ := hue_bd b r g hi lo htt.out hlt.out hne
  have B3 : Hid _ := hue_bd r b g hi lo htm.out hlm.out hne
  clear ht hl b0
  go_enter Try.func6, Try.ntmps6
  go_wp2_with fail
  refine (flo.zz_col r g b hi lo h1 h2 h3 h4 h5 h6 ht'.out hl'.out hne _).mono ?_
  rintro e w' ⟨⟨h, rfl, D⟩, rfl⟩
  have D1 : Hid _ := D
  clear D
  go_wp2_with fail
  refine (flo.zz_col b r g hi lo h5 h6 h1 h2 h3 h4 htt.out hlt.out hne _).mono ?_
  rintro e w' ⟨⟨ht, rfl, D⟩, rfl⟩
  have D2 : Hid _ := D
  clear D
  go_wp2_with fail
  refine (flo.zz_col r b g hi lo h1 h2 h5 h6 h3 h4 htm.out hlm.out hne _).mono ?_
  rintro e w' ⟨⟨hm, rfl, D⟩, rfl⟩
  have D3 : Hid _ := D
  clear D
  go_wp2_with fail
  refine (flo.hi3 r g b hi ht'.out _).mono ?_
  rintro e w' ⟨rfl, rfl⟩
  go_wp2_with fail
  refine (flo.lo3 r g b lo hl'.out _).mono ?_
  rintro e w' ⟨rfl, rfl⟩
  -- the three differences
  have F : Hid (∃ x y z, Ieee.double.sub ht h = some x ∧ Ieee.double.sub x 4599676419421066581 = some y ∧ Ieee.double.add hm h = some z ∧
      (∃ k : Rat, (k = 0 ∨ k = 1 ∨ k = -1) ∧ flo.Fine y ∧ flo.V y - k ≤ 20 * flo.E ∧ k - flo.V y ≤ 20 * flo.E) ∧
      (∃ k : Rat, (k = 0 ∨ k = 1 ∨ k = -1) ∧ flo.Fine z ∧ flo.V z - k ≤ 20 * flo.E ∧ k - flo.V z ≤ 20 * flo.E)) := by
    unfold Hid
    obtain ⟨f1, p1, u1, l1⟩ := D1.out
    obtain ⟨f2, p2, u2, l2⟩ := D2.out
    obtain ⟨f3, p3, u3, l3⟩ := D3.out
    have b1 := B1.out
    have b2 := B2.out
    have b3 := B3.out
    have t1 := T1.out
    have t2 := T2.out
    have eE := flo.E_small
    have ep := flo.E_pos
    obtain ⟨ft, th1, th2⟩ := flo.cthird
    obtain ⟨x, ex, fx, x1, x2⟩ := flo.sub_near f2 f1 (by grind) (by grind)
    obtain ⟨y, ey, fy, y1, y2⟩ := flo.sub_near fx ft (by grind) (by grind)
    obtain ⟨z, ez, fz, z1, z2⟩ := flo.add_near f3 f1 (by grind) (by grind)
    refine ⟨x, y, z, ex, ey, ez, ?_, ?_⟩
    · rcases t1 with t | t
      · exact ⟨0, .inl rfl, fy, by grind, by grind⟩
      · exact ⟨-1, .inr (.inr rfl), fy, by grind, by grind⟩
    · rcases t2 with t | t
      · exact ⟨0, .inl rfl, fz, by grind, by grind⟩
      · exact ⟨1, .inr (.inl rfl), fz, by grind, by grind⟩
  clear D1 D2 D3 T1 T2 B1 B2 B3
  obtain ⟨x, y, z, ex, ey, ez, k1, k2⟩ := F.out
  have K1 : Hid _ := k1
  have K2 : Hid _ := k2
  clear F k1 k2
  have q1 := flo.rs ex
  have q2 := flo.rs ey
  have q3 := flo.ra ez
  clear ex ey ez
  go_wp2_with fail
  obtain ⟨k, hk, fy, d1, d2⟩ := K1.out
  refine (flo.whole y fy k hk d1 d2 _).mono ?_
  clear hk fy d1 d2 k K1
  rintro e w' ⟨rfl, rfl⟩
  go_wp2_with fail
  obtain ⟨k, hk, fy, d1, d2⟩ := K2.out
  refine (flo.whole z fy k hk d1 d2 _).mono ?_
  clear hk fy d1 d2 k K2
  rintro e w' ⟨rfl, rfl⟩
  go_wp2
  go_ret
  exact ⟨rfl, Grown.refl _⟩

/-! ### STEP 1: THE WALK: the Go text returns true. 'Grown w w'': the world has at most new blocks (Derived/RowKit3.lean). Part the cases AHEAD of 'go_enter' where a test parts the walk; take each callee by a contract of your own. -/
theorem walk (a0 : Int) (a1 : Int) (a2 : Int) (w0 : (Lit.int .u8 a0).wf = true) (w1 : (Lit.int .u8 a1).wf = true) (w2 : (Lit.int .u8 a2).wf = true) (w : World) :
    Calls Try.prog 6 #[.int .u8 a0, .int .u8 a1, .int .u8 a2] w fun e w' => e = .returned (.bool true) ∧ Grown w w' := by
  have b0 := bounds_u8 w0
  have b1 := bounds_u8 w1
  have b2 := bounds_u8 w2
  obtain ⟨hi, lo, ht, hl⟩ := flo.tops a0 a1 a2
  by_cases hne : lo < hi
  · exact col_walk a0 a1 a2 hi lo b0.1 b0.2 b1.1 b1.2 b2.1 b2.2 ht hl hne w
  · unfold flo.Top at ht
    unfold flo.Low at hl
    obtain rfl : a1 = a0 := by omega
    obtain rfl : a2 = a1 := by omega
    exact grey_walk a2 b2.1 b2.2 w

/-! ### THE ROW's STEP: WRITTEN OUT: LEAVE IT -/
set_option maxRecDepth 100000 in
theorem lifted (os : Os) (started : os.Started) (H : Type) (enc : TypeId × Value → H) :
    ReturnsInHanded {} Try.checked os 6 .any (Rows.fnToHSBTurnsAndMirrorsHueSpec.pre6 enc Try.prog Try.f6 Rows.fnToHSBTurnsAndMirrorsHueRow.domain false) (Rows.fnToHSBTurnsAndMirrorsHueSpec.post enc Try.prog Try.f6 false true false false) := by
  refine returnsInHanded_of_change (C := Try.checked) own started (by kernel_rfl) Try.func6
    (ChangeSpec.witness6 (enc := enc) (C := Try.checked) false ⟨#[], #[.int .u8 0, .int .u8 0, .int .u8 0], []⟩ 8 (by kernel_rfl) (by kernel_rfl) (by kernel_rfl) (by kernel_rfl)) ?_
  intro W base args ds gs before hval0 hW hcnd _
  have hval : ∀ (j : Nat) t v, Try.f6.params[j]? = some t → args[j]? = some v → Value.okWide Try.prog W .any base t v := hval0
  have hW' := hW
  obtain ⟨p, q, hA0, hV, rfl, hfz, hnd⟩ := hW
  have hA : DataW.TrodAll enc Try.prog W 0 (fun _ => true) true Try.f6.params.toList args.toList ds p := hA0
  rw [Try.params6] at hA hval
  obtain ⟨v0, vs0, d0, ds0, p0, q0, hargs, rfl, rfl, h0, r0⟩ := trodAll_cons hA
  obtain ⟨v1, vs1, d1, ds1, p1, q1, rfl, rfl, rfl, h1, r1⟩ := trodAll_cons r0
  obtain ⟨v2, vs2, d2, ds2, p2, q2, rfl, rfl, rfl, h2, r2⟩ := trodAll_cons r1
  obtain ⟨rfl, rfl, rfl⟩ := trodAll_nil r2
  obtain rfl : args = #[v0, v1, v2] := by cases args; simp_all
  obtain ⟨rfl, rfl⟩ := trodVars_none hV
  obtain ⟨a0, rfl, rfl, rfl, w0⟩ := open_int Try.underlying5 (hval 0 5 v0 rfl rfl) h0
  obtain ⟨a1, rfl, rfl, rfl, w1⟩ := open_int Try.underlying5 (hval 1 5 v1 rfl rfl) h1
  obtain ⟨a2, rfl, rfl, rfl, w2⟩ := open_int Try.underlying5 (hval 2 5 v2 rfl rfl) h2
  clear hA0 hval0
  simp only [List.append_nil] at hW'
  refine (walk a0 a1 a2 w0 w1 w2 W).mono fun e W' ⟨he, hg⟩ => ?_
  subst he
  exact ⟨_, rfl, post_of_same (pa := []) (pv := []) hW' (fun _ _ _ => (trodAll_cons_mk (shut_bool Try.underlying4 _) trodAll_mk0)) (fun sp _ => (trodAll_cons_mk (shut_int Try.underlying5 w0) (trodAll_cons_mk (shut_int Try.underlying5 w1) (trodAll_cons_mk (shut_int Try.underlying5 w2) trodAll_mk0)))) (fun _ _ => rfl) rfl
    (hg.frame _) hg.2.1 (ok_one (by kernel_rfl) rfl (okWide_bool_mk Try.underlying4 _))⟩

theorem over : Rows.fnToHSBTurnsAndMirrorsHueRow.holds Try.pinned (OpenSpec.ofChange Rows.fnToHSBTurnsAndMirrorsHueSpec) :=
  OpenClaim.holds_of_wide 6 Try.f6 rfl rfl rfl rfl rfl rfl rfl ⟨rfl, rfl, rfl, rfl, rfl⟩ rfl rfl rfl rfl rfl (by kernel_rfl) Try.func6 (by kernel_rfl)
    (of_decide_eq_true (by kernel_rfl)) (by unfold Func.isWrapper; first | (rw [if_pos (by decide +kernel)]; kernel_rfl) | (rw [if_neg (by decide +kernel)]; exact ⟨rfl, rfl⟩))
    (fun os started H enc _ => lifted os started H enc)

/-- ████ THE STATEMENT ████ -/
theorem proved : Rows.FnToHSBTurnsAndMirrorsHueSaid :=
  over
#print axioms proved
end Go.Proofs.Qxb6602704a.fnToHSBTurnsAndMirrorsHue
