import Derived.Test.Qxb6602704aRows
import Derived.WalkKit
import Derived.ProofKit
import Derived.OpenShut
import Derived.ShutString
import Derived.WalkLawsBesides
namespace Go.Proofs.Qxb6602704a.stored
open Go.ChangeShapes Go.WideShapes Go.ChangeAt Go.RowKit
set_option linter.unusedSimpArgs false

def st (o x y w h : Int) : Int × Int :=
  if o = 2 then (wrap64 (wrap64 (w - 1) - x), y)
  else if o = 3 then (wrap64 (wrap64 (w - 1) - x), wrap64 (wrap64 (h - 1) - y))
  else if o = 4 then (x, wrap64 (wrap64 (h - 1) - y))
  else if o = 5 then (y, x)
  else if o = 6 then (y, wrap64 (wrap64 (h - 1) - x))
  else if o = 7 then (wrap64 (wrap64 (w - 1) - y), wrap64 (wrap64 (h - 1) - x))
  else if o = 8 then (wrap64 (wrap64 (w - 1) - y), x)
  else (x, y)

theorem zzstored (o x y v h : Int) (w : World) :
    Calls Try.prog 23 #[.int .i64 o, .int .i64 x, .int .i64 y, .int .i64 v, .int .i64 h] w fun e w' => e = .returned (.tuple #[.int .i64 (st o x y v h).1, .int .i64 (st o x y v h).2]) ∧ w' = w := by
  by_cases h2 : o = 2
  · subst h2; go_enter Try.func23, Try.ntmps23; go_wp2; go_ret2; exact ⟨by simp [st], rfl⟩
  by_cases h3 : o = 3
  · subst h3; go_enter Try.func23, Try.ntmps23; go_wp2; go_ret2; exact ⟨by simp [st], rfl⟩
  by_cases h4 : o = 4
  · subst h4; go_enter Try.func23, Try.ntmps23; go_wp2; go_ret2; exact ⟨by simp [st], rfl⟩
  by_cases h5 : o = 5
  · subst h5; go_enter Try.func23, Try.ntmps23; go_wp2; go_ret2; exact ⟨by simp [st], rfl⟩
  by_cases h6 : o = 6
  · subst h6; go_enter Try.func23, Try.ntmps23; go_wp2; go_ret2; exact ⟨by simp [st], rfl⟩
  by_cases h7 : o = 7
  · subst h7; go_enter Try.func23, Try.ntmps23; go_wp2; go_ret2; exact ⟨by simp [st], rfl⟩
  by_cases h8 : o = 8
  · subst h8; go_enter Try.func23, Try.ntmps23; go_wp2; go_ret2; exact ⟨by simp [st], rfl⟩
  have e2 : (o == 2) = false := by simp [h2]
  have e3 : (o == 3) = false := by simp [h3]
  have e4 : (o == 4) = false := by simp [h4]
  have e5 : (o == 5) = false := by simp [h5]
  have e6 : (o == 6) = false := by simp [h6]
  have e7 : (o == 7) = false := by simp [h7]
  have e8 : (o == 8) = false := by simp [h8]
  have hs : st o x y v h = (x, y) := by simp [st, h2, h3, h4, h5, h6, h7, h8]
  rw [hs]
  clear h2 h3 h4 h5 h6 h7 h8 hs
  go_enter Try.func23, Try.ntmps23; go_wp2; go_ret2; exact ⟨rfl, rfl⟩

theorem m2 (x y v h : Int) (w : World) :
    Calls Try.prog 24 #[.int .i64 2, .int .i64 x, .int .i64 y, .int .i64 v, .int .i64 h] w fun e w' => e = .returned (.tuple #[.int .i64 (wrap64 (wrap64 (v - 1) - x)), .int .i64 y]) ∧ w' = w := by
  go_enter Try.func24, Try.ntmps24; go_wp2
  go_loop [14, 15, 16] (fun px py t => (px = .int .i64 x ∧ py = .int .i64 y ∧ t = .int .i64 0)) (fun _ _ t => (intOf t).toNat)
  case atStart => exact ⟨rfl, rfl, rfl⟩
  case round =>
    rcases hrel with ⟨rfl, rfl, rfl⟩
    · go_wp2; go_ret2; exact ⟨rfl, rfl⟩

theorem m3 (x y v h : Int) (w : World) :
    Calls Try.prog 24 #[.int .i64 3, .int .i64 x, .int .i64 y, .int .i64 v, .int .i64 h] w fun e w' => e = .returned (.tuple #[.int .i64 (wrap64 (wrap64 (v - 1) - x)), .int .i64 (wrap64 (wrap64 (h - 1) - y))]) ∧ w' = w := by
  go_enter Try.func24, Try.ntmps24; go_wp2
  go_loop [14, 15, 16] (fun px py t => (px = .int .i64 x ∧ py = .int .i64 y ∧ t = .int .i64 2) ∨ (px = .int .i64 y ∧ py = .int .i64 (wrap64 (wrap64 (v - 1) - x)) ∧ t = .int .i64 1) ∨ (px = .int .i64 (wrap64 (wrap64 (v - 1) - x)) ∧ py = .int .i64 (wrap64 (wrap64 (h - 1) - y)) ∧ t = .int .i64 0)) (fun _ _ t => (intOf t).toNat)
  case atStart => exact .inl ⟨rfl, rfl, rfl⟩
  case round =>
    rcases hrel with ⟨rfl, rfl, rfl⟩ | ⟨rfl, rfl, rfl⟩ | ⟨rfl, rfl, rfl⟩
    · go_wp2
      go_round
      case rel => exact .inr (.inl ⟨rfl, rfl, rfl⟩)
      case measure => simp [intOf]
    · go_wp2
      go_round
      case rel => exact .inr (.inr (⟨rfl, rfl, rfl⟩))
      case measure => simp [intOf]
    · go_wp2; go_ret2; exact ⟨rfl, rfl⟩

theorem m4 (x y v h : Int) (w : World) :
    Calls Try.prog 24 #[.int .i64 4, .int .i64 x, .int .i64 y, .int .i64 v, .int .i64 h] w fun e w' => e = .returned (.tuple #[.int .i64 (wrap64 (wrap64 (v - 1) - (wrap64 (wrap64 (v - 1) - x)))), .int .i64 (wrap64 (wrap64 (h - 1) - y))]) ∧ w' = w := by
  go_enter Try.func24, Try.ntmps24; go_wp2
  go_loop [14, 15, 16] (fun px py t => (px = .int .i64 x ∧ py = .int .i64 y ∧ t = .int .i64 2) ∨ (px = .int .i64 y ∧ py = .int .i64 (wrap64 (wrap64 (v - 1) - x)) ∧ t = .int .i64 1) ∨ (px = .int .i64 (wrap64 (wrap64 (v - 1) - x)) ∧ py = .int .i64 (wrap64 (wrap64 (h - 1) - y)) ∧ t = .int .i64 0)) (fun _ _ t => (intOf t).toNat)
  case atStart => exact .inl ⟨rfl, rfl, rfl⟩
  case round =>
    rcases hrel with ⟨rfl, rfl, rfl⟩ | ⟨rfl, rfl, rfl⟩ | ⟨rfl, rfl, rfl⟩
    · go_wp2
      go_round
      case rel => exact .inr (.inl ⟨rfl, rfl, rfl⟩)
      case measure => simp [intOf]
    · go_wp2
      go_round
      case rel => exact .inr (.inr (⟨rfl, rfl, rfl⟩))
      case measure => simp [intOf]
    · go_wp2; go_ret2; exact ⟨rfl, rfl⟩

theorem m5 (x y v h : Int) (w : World) :
    Calls Try.prog 24 #[.int .i64 5, .int .i64 x, .int .i64 y, .int .i64 v, .int .i64 h] w fun e w' => e = .returned (.tuple #[.int .i64 (wrap64 (wrap64 (v - 1) - (wrap64 (wrap64 (v - 1) - y)))), .int .i64 (wrap64 (wrap64 (h - 1) - (wrap64 (wrap64 (h - 1) - x))))]) ∧ w' = w := by
  go_enter Try.func24, Try.ntmps24; go_wp2
  go_loop [14, 15, 16] (fun px py t => (px = .int .i64 x ∧ py = .int .i64 y ∧ t = .int .i64 3) ∨ (px = .int .i64 y ∧ py = .int .i64 (wrap64 (wrap64 (h - 1) - x)) ∧ t = .int .i64 2) ∨ (px = .int .i64 (wrap64 (wrap64 (h - 1) - x)) ∧ py = .int .i64 (wrap64 (wrap64 (v - 1) - y)) ∧ t = .int .i64 1) ∨ (px = .int .i64 (wrap64 (wrap64 (v - 1) - y)) ∧ py = .int .i64 (wrap64 (wrap64 (h - 1) - (wrap64 (wrap64 (h - 1) - x)))) ∧ t = .int .i64 0)) (fun _ _ t => (intOf t).toNat)
  case atStart => exact .inl ⟨rfl, rfl, rfl⟩
  case round =>
    rcases hrel with ⟨rfl, rfl, rfl⟩ | ⟨rfl, rfl, rfl⟩ | ⟨rfl, rfl, rfl⟩ | ⟨rfl, rfl, rfl⟩
    · go_wp2
      go_round
      case rel => exact .inr (.inl ⟨rfl, rfl, rfl⟩)
      case measure => simp [intOf]
    · go_wp2
      go_round
      case rel => exact .inr (.inr (.inl ⟨rfl, rfl, rfl⟩))
      case measure => simp [intOf]
    · go_wp2
      go_round
      case rel => exact .inr (.inr (.inr (⟨rfl, rfl, rfl⟩)))
      case measure => simp [intOf]
    · go_wp2; go_ret2; exact ⟨rfl, rfl⟩

theorem m6 (x y v h : Int) (w : World) :
    Calls Try.prog 24 #[.int .i64 6, .int .i64 x, .int .i64 y, .int .i64 v, .int .i64 h] w fun e w' => e = .returned (.tuple #[.int .i64 y, .int .i64 (wrap64 (wrap64 (h - 1) - x))]) ∧ w' = w := by
  go_enter Try.func24, Try.ntmps24; go_wp2
  go_loop [14, 15, 16] (fun px py t => (px = .int .i64 x ∧ py = .int .i64 y ∧ t = .int .i64 1) ∨ (px = .int .i64 y ∧ py = .int .i64 (wrap64 (wrap64 (h - 1) - x)) ∧ t = .int .i64 0)) (fun _ _ t => (intOf t).toNat)
  case atStart => exact .inl ⟨rfl, rfl, rfl⟩
  case round =>
    rcases hrel with ⟨rfl, rfl, rfl⟩ | ⟨rfl, rfl, rfl⟩
    · go_wp2
      go_round
      case rel => exact .inr (⟨rfl, rfl, rfl⟩)
      case measure => simp [intOf]
    · go_wp2; go_ret2; exact ⟨rfl, rfl⟩

theorem m7 (x y v h : Int) (w : World) :
    Calls Try.prog 24 #[.int .i64 7, .int .i64 x, .int .i64 y, .int .i64 v, .int .i64 h] w fun e w' => e = .returned (.tuple #[.int .i64 (wrap64 (wrap64 (v - 1) - y)), .int .i64 (wrap64 (wrap64 (h - 1) - x))]) ∧ w' = w := by
  go_enter Try.func24, Try.ntmps24; go_wp2
  go_loop [14, 15, 16] (fun px py t => (px = .int .i64 x ∧ py = .int .i64 y ∧ t = .int .i64 1) ∨ (px = .int .i64 y ∧ py = .int .i64 (wrap64 (wrap64 (h - 1) - x)) ∧ t = .int .i64 0)) (fun _ _ t => (intOf t).toNat)
  case atStart => exact .inl ⟨rfl, rfl, rfl⟩
  case round =>
    rcases hrel with ⟨rfl, rfl, rfl⟩ | ⟨rfl, rfl, rfl⟩
    · go_wp2
      go_round
      case rel => exact .inr (⟨rfl, rfl, rfl⟩)
      case measure => simp [intOf]
    · go_wp2; go_ret2; exact ⟨rfl, rfl⟩

theorem m8 (x y v h : Int) (w : World) :
    Calls Try.prog 24 #[.int .i64 8, .int .i64 x, .int .i64 y, .int .i64 v, .int .i64 h] w fun e w' => e = .returned (.tuple #[.int .i64 (wrap64 (wrap64 (v - 1) - y)), .int .i64 (wrap64 (wrap64 (h - 1) - (wrap64 (wrap64 (h - 1) - x))))]) ∧ w' = w := by
  go_enter Try.func24, Try.ntmps24; go_wp2
  go_loop [14, 15, 16] (fun px py t => (px = .int .i64 x ∧ py = .int .i64 y ∧ t = .int .i64 3) ∨ (px = .int .i64 y ∧ py = .int .i64 (wrap64 (wrap64 (h - 1) - x)) ∧ t = .int .i64 2) ∨ (px = .int .i64 (wrap64 (wrap64 (h - 1) - x)) ∧ py = .int .i64 (wrap64 (wrap64 (v - 1) - y)) ∧ t = .int .i64 1) ∨ (px = .int .i64 (wrap64 (wrap64 (v - 1) - y)) ∧ py = .int .i64 (wrap64 (wrap64 (h - 1) - (wrap64 (wrap64 (h - 1) - x)))) ∧ t = .int .i64 0)) (fun _ _ t => (intOf t).toNat)
  case atStart => exact .inl ⟨rfl, rfl, rfl⟩
  case round =>
    rcases hrel with ⟨rfl, rfl, rfl⟩ | ⟨rfl, rfl, rfl⟩ | ⟨rfl, rfl, rfl⟩ | ⟨rfl, rfl, rfl⟩
    · go_wp2
      go_round
      case rel => exact .inr (.inl ⟨rfl, rfl, rfl⟩)
      case measure => simp [intOf]
    · go_wp2
      go_round
      case rel => exact .inr (.inr (.inl ⟨rfl, rfl, rfl⟩))
      case measure => simp [intOf]
    · go_wp2
      go_round
      case rel => exact .inr (.inr (.inr (⟨rfl, rfl, rfl⟩)))
      case measure => simp [intOf]
    · go_wp2; go_ret2; exact ⟨rfl, rfl⟩

theorem mOther (o x y v h : Int) (e2 : (o == 2) = false) (e3 : (o == 3) = false) (e4 : (o == 4) = false) (e5 : (o == 5) = false) (e6 : (o == 6) = false) (e7 : (o == 7) = false) (e8 : (o == 8) = false) (w : World) :
    Calls Try.prog 24 #[.int .i64 o, .int .i64 x, .int .i64 y, .int .i64 v, .int .i64 h] w fun e w' => e = .returned (.tuple #[.int .i64 x, .int .i64 y]) ∧ w' = w := by
  go_enter Try.func24, Try.ntmps24; go_wp2
  go_loop [14, 15, 16] (fun px py t => (px = .int .i64 x ∧ py = .int .i64 y ∧ t = .int .i64 0)) (fun _ _ t => (intOf t).toNat)
  case atStart => exact ⟨rfl, rfl, rfl⟩
  case round =>
    rcases hrel with ⟨rfl, rfl, rfl⟩
    · go_wp2; go_ret2; exact ⟨rfl, rfl⟩

/-- Subtracting twice from one number gives back what was subtracted. -/
theorem twice (a x : Int) (hx : (Lit.int .i64 x).wf = true) : wrap64 (wrap64 (a - 1) - wrap64 (wrap64 (a - 1) - x)) = x := by
  have hb := bounds_i64 hx
  unfold wrap64
  omega

theorem model (o x y v h : Int) (hx : (Lit.int .i64 x).wf = true) (hy : (Lit.int .i64 y).wf = true) (w : World) :
    Calls Try.prog 24 #[.int .i64 o, .int .i64 x, .int .i64 y, .int .i64 v, .int .i64 h] w fun e w' => e = .returned (.tuple #[.int .i64 (st o x y v h).1, .int .i64 (st o x y v h).2]) ∧ w' = w := by
  by_cases h2 : o = 2
  · subst h2; refine (m2 x y v h w).mono ?_; rintro e w' ⟨rfl, rfl⟩; exact ⟨by simp [st], rfl⟩
  by_cases h3 : o = 3
  · subst h3; refine (m3 x y v h w).mono ?_; rintro e w' ⟨rfl, rfl⟩; exact ⟨by simp [st], rfl⟩
  by_cases h4 : o = 4
  · subst h4; refine (m4 x y v h w).mono ?_; rintro e w' ⟨rfl, rfl⟩; exact ⟨by simp [st, twice v x hx], rfl⟩
  by_cases h5 : o = 5
  · subst h5; refine (m5 x y v h w).mono ?_; rintro e w' ⟨rfl, rfl⟩; exact ⟨by simp [st, twice v y hy, twice h x hx], rfl⟩
  by_cases h6 : o = 6
  · subst h6; refine (m6 x y v h w).mono ?_; rintro e w' ⟨rfl, rfl⟩; exact ⟨by simp [st], rfl⟩
  by_cases h7 : o = 7
  · subst h7; refine (m7 x y v h w).mono ?_; rintro e w' ⟨rfl, rfl⟩; exact ⟨by simp [st], rfl⟩
  by_cases h8 : o = 8
  · subst h8; refine (m8 x y v h w).mono ?_; rintro e w' ⟨rfl, rfl⟩; exact ⟨by simp [st, twice h x hx], rfl⟩
  refine (mOther o x y v h (by simp [h2]) (by simp [h3]) (by simp [h4]) (by simp [h5]) (by simp [h6]) (by simp [h7]) (by simp [h8]) w).mono ?_
  rintro e w' ⟨rfl, rfl⟩
  exact ⟨by simp [st, h2, h3, h4, h5, h6, h7, h8], rfl⟩

/-! ### displaySize and inverseOrientation -/
def dsz (o w h : Int) : Int × Int := if 5 ≤ o ∧ o ≤ 8 then (h, w) else (w, h)
def inv (o : Int) : Int := if o = 6 then 8 else if o = 8 then 6 else o

theorem display (o v h : Int) (w : World) :
    Calls Try.prog 25 #[.int .i64 o, .int .i64 v, .int .i64 h] w fun e w' => e = .returned (.tuple #[.int .i64 (dsz o v h).1, .int .i64 (dsz o v h).2]) ∧ w' = w := by
  by_cases h5 : 5 ≤ o
  · by_cases h8 : o ≤ 8
    · have hd : dsz o v h = (h, v) := by simp [dsz, h5, h8]
      rw [hd]; clear hd
      go_enter Try.func25, Try.ntmps25; go_wp2; go_ret2; exact ⟨rfl, rfl⟩
    · have hd : dsz o v h = (v, h) := by simp [dsz, h8]
      rw [hd]; clear hd
      go_enter Try.func25, Try.ntmps25; go_wp2; go_ret2; exact ⟨rfl, rfl⟩
  · have hd : dsz o v h = (v, h) := by simp [dsz, h5]
    rw [hd]; clear hd
    go_enter Try.func25, Try.ntmps25; go_wp2; go_ret2; exact ⟨rfl, rfl⟩

theorem inverse (o : Int) (w : World) :
    Calls Try.prog 26 #[.int .i64 o] w fun e w' => e = .returned (.int .i64 (inv o)) ∧ w' = w := by
  by_cases h6 : o = 6
  · subst h6; go_enter Try.func26, Try.ntmps26; go_wp2; go_ret; exact ⟨rfl, rfl⟩
  by_cases h8 : o = 8
  · subst h8; go_enter Try.func26, Try.ntmps26; go_wp2; go_ret; exact ⟨rfl, rfl⟩
  have hd : inv o = o := by simp [inv, h6, h8]
  have e6 : (o == 6) = false := by simp [h6]
  have e8 : (o == 8) = false := by simp [h8]
  rw [hd]; clear hd h6 h8
  go_enter Try.func26, Try.ntmps26; go_wp2; go_ret; exact ⟨rfl, rfl⟩

/-- Displaying twice, the second time by the inverse, gives back the place. -/
theorem undone (o x y v h : Int) (hx : (Lit.int .i64 x).wf = true) (hy : (Lit.int .i64 y).wf = true) :
    st o (st (inv o) x y (dsz o v h).1 (dsz o v h).2).1 (st (inv o) x y (dsz o v h).1 (dsz o v h).2).2 v h = (x, y) := by
  by_cases h2 : o = 2
  · subst h2; simp [st, inv, dsz, twice _ x hx, twice _ y hy]
  by_cases h3 : o = 3
  · subst h3; simp [st, inv, dsz, twice _ x hx, twice _ y hy]
  by_cases h4 : o = 4
  · subst h4; simp [st, inv, dsz, twice _ x hx, twice _ y hy]
  by_cases h5 : o = 5
  · subst h5; simp [st, inv, dsz, twice _ x hx, twice _ y hy]
  by_cases h6 : o = 6
  · subst h6; simp [st, inv, dsz, twice _ x hx, twice _ y hy]
  by_cases h7 : o = 7
  · subst h7; simp [st, inv, dsz, twice _ x hx, twice _ y hy]
  by_cases h8 : o = 8
  · subst h8; simp [st, inv, dsz, twice _ x hx, twice _ y hy]
  have hi : inv o = o := by simp [inv, h6, h8]
  simp [hi, st, h2, h3, h4, h5, h6, h7, h8]
end Go.Proofs.Qxb6602704a.stored
