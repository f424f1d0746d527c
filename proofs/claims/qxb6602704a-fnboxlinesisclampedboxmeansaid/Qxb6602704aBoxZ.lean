import Derived.Test.Qxb6602704aBoxL
namespace Go.Proofs.Qxb6602704a.box
open Go.ChangeShapes Go.WideShapes Go.ChangeAt Go.RowKit
set_option linter.unusedSimpArgs false
set_option linter.unusedVariables false

/-! ### From 'it fits' to the geometry -/
theorem wrap64_small {x : Int} (h0 : 0 ≤ x) (h1 : x ≤ 9223372036854775807) : wrap64 x = x := by unfold wrap64; omega

theorem half_geo (m : Nat) (stride : Int) (size : Nat) (hm : 1 ≤ m) (hm2 : m ≤ 65536) (hs : size ≤ 1048576) (h : 1 < (m : Int) → 0 ≤ stride ∧ stride ≤ size) :
    ∃ L : Nat, (∀ i : Nat, i < m → wrap64 ((i : Int) * stride) = ((i * L : Nat) : Int)) ∧ (∀ i : Nat, i < m → ((i * L : Nat) : Int) ≤ if 1 < (m : Int) then ((m : Int) - 1) * stride else 0) := by
  by_cases c : 1 < (m : Int)
  · obtain ⟨s0, s1⟩ := h c
    obtain ⟨L, rfl⟩ := Int.eq_ofNat_of_zero_le s0
    refine ⟨L, ?_, ?_⟩
    · intro i hi
      have hp := prod_bd (show (0 : Int) ≤ i by omega) (show (i : Int) ≤ 65536 by omega) s0 (show (L : Int) ≤ 1048576 by omega)
      rw [wrap64_small hp.1 (by omega)]
      simp
    · intro i hi
      rw [if_pos c]
      have : (i : Int) * (L : Int) ≤ ((m : Int) - 1) * L := Int.mul_le_mul_of_nonneg_right (by omega) (by omega)
      simpa using this
  · refine ⟨0, ?_, ?_⟩
    · intro i hi
      have : i = 0 := by omega
      subst this
      simp [wrap64]
    · intro i hi
      rw [if_neg c]
      simp

theorem geo_of_fits {size n len : Nat} {line step : Int} (hf : Fits size line step n len) (hn : 1 ≤ n) (hn2 : n ≤ 65536) (hl2 : len ≤ 65536) (hs : size ≤ 1048576) : ∃ L T, Geo size line step n len L T := by
  obtain ⟨f1, f2, f3, f4⟩ := hf
  obtain ⟨L, l1, l2⟩ := half_geo n line size hn hn2 hs f2
  obtain ⟨T, t1, t2⟩ := half_geo len step size (by omega) hl2 hs f3
  refine ⟨L, T, l1, t1, fun i j hi hj => ?_⟩
  have a := l2 i hi
  have b := t2 j hj
  omega

/-! ### A slice of bytes that a function here has made, or nil -/
def Rep (w : World) (B : Nat) (nl : Bool) (v : Value) (zs : List Int) : Prop :=
  (nl = true ∧ v = .slice none 0 0 ∧ zs = []) ∨ (nl = false ∧ ∃ b, B ≤ b ∧ v = .slice (some ⟨b, 0, none⟩) zs.length zs.length ∧ Blk w b 5 (ints .u8 zs))

theorem Rep.below {w w' : World} {B : Nat} {nl : Bool} {v : Value} {zs : List Int} (h : Rep w B nl v zs) (hb : Below w.heap.size w w') : Rep w' B nl v zs := by
  rcases h with h | ⟨h1, b, h2, h3, h4⟩
  · exact .inl h
  · exact .inr ⟨h1, b, h2, h3, h4.below hb h4.lt⟩

/-- What the walk is told of a slice of bytes that came in. -/
def Row (w : World) (a : Option Addr) (len cap : Nat) (zs : List Int) : Prop :=
  (a = none ∧ len = 0 ∧ cap = 0 ∧ zs = []) ∨
  ∃ x, a = some x ∧ len ≤ cap ∧ cap ≤ maxLen ∧ zs.length = cap ∧ (∀ i, i < zs.length → w.cell? (x.add i) = some (.int .u8 (zs.getD i 0))) ∧ ∀ n ∈ zs, (Lit.int .u8 n).wf = true

theorem clone_src (a : Option Addr) (len cap : Nat) (zs : List Int) (w : World) (h : Row w a len cap zs) (hlen : len ≤ 1048576) :
    Calls Try.prog 12 #[.slice a len cap] w fun e w' => ∃ v, e = .returned v ∧ Rep w' w.heap.size a.isNone v (zs.take len) ∧ Below w.heap.size w w' := by
  rcases h with ⟨rfl, rfl, rfl, rfl⟩ | ⟨x, rfl, h1, h2, h3, h4, h5⟩
  · refine (clone_nil w).mono ?_
    rintro e w' ⟨rfl, rfl⟩
    exact ⟨_, rfl, .inl ⟨rfl, rfl, rfl⟩, Below.refl _ _⟩
  · by_cases h0 : len = 0
    · subst h0
      refine (clone_empty x cap w).mono ?_
      rintro e w' ⟨rfl, hb, hbel, _⟩
      exact ⟨_, rfl, .inr ⟨rfl, w.heap.size, Nat.le_refl _, rfl, hb⟩, hbel⟩
    · obtain ⟨b, off, spot⟩ := x
      have hsp : spot = none := by simpa [Addr.add] using World.cell?_spot (h4 0 (by omega))
      subst hsp
      have hlt : b < w.heap.size := by simpa [Addr.add] using World.block_lt_of_cell? w _ (h4 0 (by omega))
      have hl : (zs.take len).length = len := by simp; omega
      refine (clone_some b off len cap (zs.take len) hl hlen w hlt (fun i hi => ?_)).mono ?_
      · have := h4 i (by omega)
        rw [add_plain] at this
        rw [this]
        simp [List.getD_eq_getElem?_getD, List.getElem?_take, hi]
      · rintro e w' ⟨rfl, hb, hbel, _⟩
        refine ⟨_, rfl, .inr ⟨rfl, w.heap.size, Nat.le_refl _, ?_, hb⟩, hbel⟩
        rw [hl]

theorem clone_rep (B : Nat) (nl : Bool) (v : Value) (zs : List Int) (w : World) (h : Rep w B nl v zs) (hlen : zs.length ≤ 1048576) :
    Calls Try.prog 12 #[v] w fun e w' => ∃ u, e = .returned u ∧ Rep w' w.heap.size nl u zs ∧ Below w.heap.size w w' := by
  rcases h with ⟨rfl, rfl, rfl⟩ | ⟨rfl, b, hB, rfl, hb⟩
  · refine (clone_nil w).mono ?_
    rintro e w' ⟨rfl, rfl⟩
    exact ⟨_, rfl, .inl ⟨rfl, rfl, rfl⟩, Below.refl _ _⟩
  · refine (clone_some b 0 zs.length zs.length zs rfl hlen w hb.lt (fun i hi => by simpa using hb.int i hi)).mono ?_
    rintro e w' ⟨rfl, hb', hbel, _⟩
    exact ⟨_, rfl, .inr ⟨rfl, w.heap.size, Nat.le_refl _, rfl, hb'⟩, hbel⟩

theorem same_rep (B B' : Nat) (nl : Bool) (v u : Value) (zs : List Int) (w : World) (h : Rep w B nl v zs) (h' : Rep w B' nl u zs) (hlen : zs.length ≤ 1048576) :
    Calls Try.prog 15 #[v, u] w fun e w' => e = .returned (.bool true) ∧ ∃ n, w' = w.drewN n := by
  rcases h with ⟨rfl, rfl, rfl⟩ | ⟨rfl, b, hB, rfl, hb⟩
  · rcases h' with ⟨_, rfl, _⟩ | ⟨h, _⟩
    · refine (same_nil w).mono ?_
      rintro e w' ⟨rfl, rfl⟩
      exact ⟨rfl, 0, rfl⟩
    · cases h
  · rcases h' with ⟨h, _⟩ | ⟨_, b', hB', rfl, hb'⟩
    · cases h
    · exact same_some b b' zs.length zs.length zs.length zs rfl hlen w hb hb'

/-! ### boxLines for fewer than one line; the shim -/
set_option maxRecDepth 100000 in
theorem lines_none (v0 v1 : Value) (dl ds sl ss n len reach : Int) (hn : n < 1) (w : World) :
    Calls Try.prog 27 #[.agg #[v0, .int .i64 dl, .int .i64 ds], .agg #[v1, .int .i64 sl, .int .i64 ss], .int .i64 n, .int .i64 len, .int .i64 reach] w
      fun e w' => e = .returned (.tuple #[]) ∧ Below w.heap.size w w' := by
  have h0 : ¬ 0 < n := by omega
  go_enter Try.func27, Try.ntmps27
  go_wp2
  refine wp_loop_rounds 1 ?_
  rw [rounds_succ]
  go_wp2
  go_end0
  exact ⟨rfl, (((Below.refl _ _).alloc (Nat.le_refl _) _).alloc (by simp) _).alloc (by simp; omega) _⟩

theorem zz_none (a0 a1 : Option Addr) (l0 c0 l1 c1 : Nat) (dl ds sl ss n len reach : Int) (hn : n < 1) (w : World) :
    Calls Try.prog 14 #[.slice a0 l0 c0, .int .i64 dl, .int .i64 ds, .slice a1 l1 c1, .int .i64 sl, .int .i64 ss, .int .i64 n, .int .i64 len, .int .i64 reach] w
      fun e w' => e = .returned (.tuple #[]) ∧ Below w.heap.size w w' := by
  go_enter Try.func14, Try.ntmps14
  go_wp2_with fail
  refine (lines_none _ _ dl ds sl ss n len reach hn _).mono ?_
  rintro e w' ⟨rfl, hb⟩
  have HB := hide hb
  clear hb
  go_wp2
  go_end0
  exact ⟨rfl, HB.out⟩

theorem zz_some (bd bs dcap scap n len reach L T DL DT : Nat) (src d : List Int) (dl ds sl ss : Int) (hn : 1 ≤ n) (hn2 : n ≤ 65536) (hl : 1 ≤ len) (hl2 : len ≤ 65536) (hr : reach ≤ 65536)
    (hds : d.length ≤ 1048576) (hss : src.length ≤ 1048576) (hdc : d.length ≤ dcap) (hsc : src.length ≤ scap) (hdc2 : dcap ≤ 1048576) (hsc2 : scap ≤ 1048576) (gd : Geo d.length dl ds n len DL DT) (gs : Geo src.length sl ss n len L T) (hsb : ∀ x ∈ src, 0 ≤ x ∧ x ≤ 255)
    (w : World) (hbd : Blk w bd 5 (ints .u8 d)) (hbs : Blk w bs 5 (ints .u8 src)) (hne : bd ≠ bs) :
    Calls Try.prog 14 #[.slice (some ⟨bd, 0, none⟩) d.length dcap, .int .i64 dl, .int .i64 ds, .slice (some ⟨bs, 0, none⟩) src.length scap, .int .i64 sl, .int .i64 ss, .int .i64 n, .int .i64 len, .int .i64 reach] w
      fun e w' => e = .returned (.tuple #[]) ∧ Blk w' bd 5 (ints .u8 (result src d L T DL DT n len reach)) ∧ Keep bd w w' := by
  have HC := hide (lines_some bd bs dcap scap n len reach L T DL DT src d dl ds sl ss hn hn2 hl hl2 hr hds hss hdc hsc hdc2 hsc2 gd gs hsb w hbd hbs hne)
  clear gd gs hsb hbd hbs
  go_enter Try.func14, Try.ntmps14
  go_wp2_with fail
  refine HC.out.mono ?_
  rintro e w' ⟨rfl, hb⟩
  have HB := hide hb
  clear hb
  go_wp2
  go_end0
  exact ⟨rfl, HB.out⟩
end Go.Proofs.Qxb6602704a.box
