import Derived.Test.Qxb6602704aBoxW
namespace Go.Proofs.Qxb6602704a.box
open Go.ChangeShapes Go.WideShapes Go.ChangeAt Go.RowKit
set_option linter.unusedSimpArgs false
set_option linter.unusedVariables false

set_option maxRecDepth 100000 in
/-- Fewer than one line: the model is a copy of dst, at this very world. -/
theorem model_none' (v : Value) (sv : Value) (dl ds sl ss n len reach : Int) (hn : n < 1) (w : World) (R' : Value → World → Prop) (hcl : Calls Try.prog 12 #[v] w fun e w' => ∃ u, e = .returned u ∧ R' u w') :
    Calls Try.prog 13 #[v, sv, .int .i64 dl, .int .i64 ds, .int .i64 sl, .int .i64 ss, .int .i64 n, .int .i64 len, .int .i64 reach] w fun e w' => ∃ u, e = .returned u ∧ R' u w' := by
  have HC := hide hcl
  clear hcl
  go_enter Try.func13, Try.ntmps13
  go_wp2_with fail
  refine HC.out.mono ?_
  rintro e w' ⟨u, rfl, hu⟩
  have HU := hide hu
  clear hu
  go_wp2
  go_ret
  exact ⟨u, rfl, HU.out⟩

theorem rep_drewN {w : World} {B : Nat} {nl : Bool} {v : Value} {zs : List Int} (h : Rep w B nl v zs) (n : Nat) : Rep (w.drewN n) B nl v zs := by
  rcases h with h | ⟨h1, b, h2, h3, h4⟩
  · exact .inl h
  · exact .inr ⟨h1, b, h2, h3, h4.drewN n⟩

/-! ### The work itself -/
set_option maxRecDepth 100000 in
set_option maxHeartbeats 1000000 in
theorem main_none (a0 : Option Addr) (len0 cap0 : Nat) (z0 : List Int) (a1 a2 : Int) (a3 : Option Addr) (len3 cap3 : Nat) (z3 : List Int) (a4 a5 a6 a7 a8 : Int) (w : World)
    (h : len0 + len3 ≤ 1048576) (c1 : a6 < 1) (c2 : a7 ≤ 65536) (c3 : 0 ≤ a8) (c4 : a8 ≤ 65536) (r0 : Row w a0 len0 cap0 z0) (r3 : Row w a3 len3 cap3 z3) :
    Calls Try.prog 3 #[.slice a0 len0 cap0, .int .i64 a1, .int .i64 a2, .slice a3 len3 cap3, .int .i64 a4, .int .i64 a5, .int .i64 a6, .int .i64 a7, .int .i64 a8] w fun e w' => e = .returned (.bool true) ∧ Below w.heap.size w w' := by
  have L0 := hide (row_len r0)
  have L3 := hide (row_len r3)
  have R0 := hide r0
  have R3 := hide r3
  clear r0 r3
  go_enter Try.func3, Try.ntmps3
  go_wp2_with fail
  refine (bytes_yes a0 len0 cap0 a1 a2 a3 len3 cap3 a4 a5 a6 a7 a8 h _).mono ?_
  rintro e w' ⟨rfl, rfl⟩
  go_wp2_with fail
  refine (clone_src a0 len0 cap0 z0 _ R0.out (by omega)).mono ?_
  rintro e w1 ⟨v0, rfl, hrep, hbel⟩
  have P0 := hide hrep
  have B1 := hide hbel
  clear hrep hbel
  go_wp2_with fail
  refine (clone_src a3 len3 cap3 z3 _ (row_below R3.out B1.out) (by omega)).mono ?_
  rintro e w2 ⟨v1, rfl, hrep, hbel⟩
  have P1 := hide hrep
  have B2 := hide hbel
  clear hrep hbel
  go_wp2_with fail
  refine (clone_rep _ _ v1 _ _ P1.out (by have := L3.out.2; omega)).mono ?_
  rintro e w3 ⟨v2, rfl, hrep, hbel⟩
  have P2 := hide hrep
  have B3 := hide hbel
  clear hrep hbel
  go_wp2_with fail
  have P0' : Hid (Rep w3 _ _ v0 _) := (P0.out.below B2.out).below B3.out
  have P1' : Hid (Rep w3 _ _ v1 _) := P1.out.below B3.out
  refine (model_none' v0 v1 a1 a2 a4 a5 a6 a7 a8 c1 _ (fun (e : Value) (w' : World) => Rep w' w3.heap.size a0.isNone e (z0.take len0) ∧ Below w3.heap.size w3 w') (clone_rep _ _ v0 _ _ P0'.out (by have := L0.out.2; omega))).mono ?_
  rintro e w4 ⟨v3, rfl, hrep, hbel⟩
  have P3 := hide hrep
  have B4 := hide hbel
  clear hrep hbel
  obtain ⟨x0, y0, u0, e0⟩ := rep_slice P0.out
  obtain ⟨x1, y1, u1, e1⟩ := rep_slice P1.out
  go_wp2_with fail
  clear P0 P1
  subst e0
  subst e1
  refine (zz_none x0 x1 y0 u0 y1 u1 a1 a2 a4 a5 a6 a7 a8 c1 _).mono ?_
  rintro e w5 ⟨rfl, hbel⟩
  have B5 := hide hbel
  clear hbel
  have Q0 := hide ((P0'.out.below B4.out).below B5.out)
  have Q1 := hide ((P1'.out.below B4.out).below B5.out)
  have Q2 := hide ((P2.out.below B4.out).below B5.out)
  have Q3 := hide (P3.out.below B5.out)
  have BE := hide ((((B1.out.trans (B2.out.mono B1.out.size)).trans (B3.out.mono (Nat.le_trans B1.out.size B2.out.size))).trans (B4.out.mono (Nat.le_trans (Nat.le_trans B1.out.size B2.out.size) B3.out.size))).trans (B5.out.mono (Nat.le_trans (Nat.le_trans (Nat.le_trans B1.out.size B2.out.size) B3.out.size) B4.out.size)))
  clear P0' P1' P2 P3 B1 B2 B3 B4 B5
  go_wp2_with fail
  refine (same_rep _ _ _ _ _ _ _ Q0.out Q3.out (by have := L0.out.2; omega)).mono ?_
  rintro e w6 ⟨rfl, m1, rfl⟩
  go_wp2_with fail
  refine (same_rep _ _ _ _ _ _ (w5.drewN m1) (rep_drewN Q1.out m1) (rep_drewN Q2.out m1) (by have := L3.out.2; omega)).mono ?_
  rintro e w6 ⟨rfl, m2, rfl⟩
  go_wp2
  go_ret
  exact ⟨rfl, below_drewN' BE.out _⟩

set_option maxRecDepth 100000 in
set_option maxHeartbeats 1000000 in
theorem main_some (a0 : Option Addr) (len0 cap0 : Nat) (z0 : List Int) (a1 a2 : Int) (a3 : Option Addr) (len3 cap3 : Nat) (z3 : List Int) (a4 a5 : Int) (n len reach : Nat) (w : World)
    (h : len0 + len3 ≤ 1048576) (c1 : (n : Int) ≤ 65536) (c2 : (len : Int) ≤ 65536) (c3 : 0 ≤ (reach : Int)) (c4 : (reach : Int) ≤ 65536) (c5 : 1 ≤ (n : Int)) (c6 : 1 ≤ (len : Int)) (hf : Fits len0 a1 a2 n len) (hg : Fits len3 a4 a5 n len)
    (hp : 0 ≤ (n : Int) * len ∧ (n : Int) * len ≤ 65536 * 65536) (ht : (n : Int) * len ≤ 1048576) (hq : 0 ≤ (n : Int) * (2 * reach + 1) ∧ (n : Int) * (2 * reach + 1) ≤ 65536 * 131073) (hu : (n : Int) * (2 * reach + 1) ≤ 4194304)
    (r0 : Row w a0 len0 cap0 z0) (r3 : Row w a3 len3 cap3 z3) :
    Calls Try.prog 3 #[.slice a0 len0 cap0, .int .i64 a1, .int .i64 a2, .slice a3 len3 cap3, .int .i64 a4, .int .i64 a5, .int .i64 n, .int .i64 len, .int .i64 reach] w fun e w' => e = .returned (.bool true) ∧ Below w.heap.size w w' := by
  obtain ⟨DL, DT, gd⟩ := geo_of_fits hf (by omega) (by omega) (by omega) (by omega)
  obtain ⟨L, T, gs⟩ := geo_of_fits hg (by omega) (by omega) (by omega) (by omega)
  have l0 := row_len r0
  have l3 := row_len r3
  have k0 : 4 ≤ len0 := by have := gd.fit 0 0 (by omega) (by omega); omega
  have k3 : 4 ≤ len3 := by have := gs.fit 0 0 (by omega) (by omega); omega
  have sb := row_bytes r3
  have N0 := row_not_nil r0 (by omega)
  have N3 := row_not_nil r3 (by omega)
  have HN0 := hide N0
  have HN3 := hide N3
  rw [← l0.2] at gd
  rw [← l3.2] at gs
  have d1 : (z0.take len0).length ≤ 1048576 := by rw [l0.2]; omega
  have d3 : (z3.take len3).length ≤ 1048576 := by rw [l3.2]; omega
  obtain ⟨D, hD⟩ : ∃ D, z0.take len0 = D := ⟨_, rfl⟩
  obtain ⟨U, hU⟩ : ∃ U, z3.take len3 = U := ⟨_, rfl⟩
  rw [hD] at gd d1
  rw [hU] at gs d3 sb
  have HD := hide hD
  have HU := hide hU
  have SB := hide sb
  have GD := hide gd
  have GS := hide gs
  have R0 := hide r0
  have R3 := hide r3
  have HF := hide hf
  have HG := hide hg
  clear r0 r3 gd gs l0 l3 N0 N3 hf hg hD hU sb
  go_enter Try.func3, Try.ntmps3
  go_wp2_with fail
  refine (bytes_yes a0 len0 cap0 a1 a2 a3 len3 cap3 a4 a5 n len reach h _).mono ?_
  rintro e w' ⟨rfl, hw⟩
  rw [hw]
  clear hw w'
  go_wp2_with fail
  refine (fits_yes len0 a1 a2 n len (by omega) (by omega) c5 c1 c2 HF.out _).mono ?_
  rintro e w' ⟨rfl, hw⟩
  rw [hw]
  clear hw w'
  go_wp2_with fail
  refine (fits_yes len3 a4 a5 n len (by omega) (by omega) c5 c1 c2 HG.out _).mono ?_
  rintro e w' ⟨rfl, hw⟩
  rw [hw]
  clear hw w'
  go_wp2_with fail
  refine (clone_src a0 len0 cap0 z0 _ R0.out (by omega)).mono ?_
  rintro e w1 ⟨v0, rfl, hrep, hbel⟩
  rw [HN0.out, HD.out] at hrep
  obtain ⟨b0, hb0, e0, k0'⟩ := rep_some hrep
  have P0 := hide k0'
  have B1 := hide hbel
  clear hrep hbel k0'
  rw [e0]
  clear e0 v0
  go_wp2_with fail
  refine (clone_src a3 len3 cap3 z3 _ (row_below R3.out B1.out) (by omega)).mono ?_
  rintro e w2 ⟨v1, rfl, hrep, hbel⟩
  rw [HN3.out, HU.out] at hrep
  obtain ⟨b1, hb1, e1, k1⟩ := rep_some hrep
  have P1 := hide k1
  have B2 := hide hbel
  clear hrep hbel k1
  rw [e1]
  clear e1 v1
  go_wp2_with fail
  have lt0 := P0.out.lt
  have lt1 := P1.out.lt
  refine (clone_some b1 0 U.length U.length U rfl d3 _ lt1 (fun i hi => by simpa using P1.out.int i hi)).mono ?_
  rintro e w3 ⟨rfl, hb2, hbel, hsz3⟩
  clear hsz3
  have P2 := hide hb2
  have B3 := hide hbel
  have P0' := hide ((P0.out.below B2.out lt0).below hbel (Nat.lt_of_lt_of_le lt0 B2.out.size))
  have P1' := hide (P1.out.below hbel lt1)
  clear hb2 hbel
  go_wp2_with fail
  refine (model_some b0 b1 D.length U.length n len reach L T DL DT U D a1 a2 a4 a5 (by omega) (by omega) (by omega) (by omega) (by omega) d1 d3 GD.out GS.out SB.out _ P0'.out P1'.out).mono ?_
  rintro e w4 ⟨rfl, hb3, hbel⟩
  have P3 := hide hb3
  have B4 := hide hbel
  have z2 := B2.out.size
  have z3' := B3.out.size
  have z4 := B4.out.size
  have lt0' := P0'.out.lt
  have lt1' := P1'.out.lt
  have lt2' := P2.out.lt
  have P0'' := hide (P0'.out.below hbel lt0')
  have P1'' := hide (P1'.out.below hbel lt1')
  have P2'' := hide (P2.out.below hbel lt2')
  clear hb3 hbel
  go_wp2_with fail
  refine (zz_some b0 b1 D.length U.length n len reach L T DL DT U D a1 a2 a4 a5 (by omega) (by omega) (by omega) (by omega) (by omega) d1 d3 (Nat.le_refl _) (Nat.le_refl _) d1 d3 GD.out GS.out SB.out _ P0''.out P1''.out (by omega)).mono ?_
  rintro e w5 ⟨rfl, hb4, hk⟩
  have P5 := hide hb4
  have K5 := hide hk
  have P3' := hide (hk.blk P3.out (by omega))
  have P1q := hide (hk.blk P1''.out (by omega))
  have P2q := hide (hk.blk P2''.out (by omega))
  have z1 := B1.out.size
  have BE := hide ((((B1.out.trans (B2.out.mono B1.out.size)).trans (B3.out.mono (Nat.le_trans B1.out.size B2.out.size))).trans (B4.out.mono (Nat.le_trans (Nat.le_trans B1.out.size B2.out.size) B3.out.size))).trans (keep_below hk hb0 (by omega)))
  clear hb4 hk
  have RL : Hid ((result U D L T DL DT n len reach).length = D.length) := by unfold Hid result; rw [putI_len]
  go_wp2_with fail
  refine (same_some b0 w3.heap.size D.length D.length D.length _ RL.out d1 _ P5.out P3'.out).mono ?_
  rintro e w6 ⟨rfl, m1, hw⟩
  rw [hw]
  clear hw w6
  go_wp2_with fail
  refine (same_some b1 w2.heap.size U.length U.length U.length U rfl d3 _ (P1q.out.drewN m1) (P2q.out.drewN m1)).mono ?_
  rintro e w6 ⟨rfl, m2, hw⟩
  rw [hw]
  clear hw w6
  go_wp2
  go_ret
  exact ⟨rfl, below_drewN' BE.out _⟩
end Go.Proofs.Qxb6602704a.box
