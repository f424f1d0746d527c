import Derived.ProofKit
import Derived.OpenShut
import Derived.Test.Qxb6602704aBoxZ
namespace Go.Proofs.Qxb6602704a.box
open Go.ChangeShapes Go.WideShapes Go.ChangeAt Go.RowKit
set_option linter.unusedSimpArgs false
set_option linter.unusedVariables false

/-! ### Small laws on what the clones leave -/

theorem row_below {w w' : World} {a : Option Addr} {len cap : Nat} {zs : List Int} (h : Row w a len cap zs) (hb : Below w.heap.size w w') : Row w' a len cap zs := by
  rcases h with h | ⟨x, h0, h1, h2, h3, h4, h5⟩
  · exact .inl h
  · refine .inr ⟨x, h0, h1, h2, h3, fun i hi => ?_, h5⟩
    have := h4 i hi
    rw [hb.cell (World.block_lt_of_cell? w _ this)]
    exact this

theorem rep_some {w : World} {B : Nat} {v : Value} {zs : List Int} (h : Rep w B false v zs) : ∃ b, B ≤ b ∧ v = .slice (some ⟨b, 0, none⟩) zs.length zs.length ∧ Blk w b 5 (ints .u8 zs) := by
  rcases h with ⟨h, _⟩ | ⟨_, h⟩
  · cases h
  · exact h

theorem rep_slice {w : World} {B : Nat} {nl : Bool} {v : Value} {zs : List Int} (h : Rep w B nl v zs) : ∃ a l c, v = .slice a l c := by
  rcases h with ⟨_, h, _⟩ | ⟨_, b, _, h, _⟩
  · exact ⟨_, _, _, h⟩
  · exact ⟨_, _, _, h⟩

theorem keep_below {b B : Nat} {w w' : World} (h : Keep b w w') (hb : B ≤ b) (hB : B ≤ w.heap.size) : Below B w w' :=
  ⟨h.os, h.tape, h.output, h.size, fun k hk => h.block k (by omega) (by omega)⟩

theorem below_drewN' {B : Nat} {a w : World} (h : Below B a w) (n : Nat) : Below B a (w.drewN n) := h.trans ⟨rfl, rfl, rfl, Nat.le_refl _, fun _ _ => rfl⟩

theorem row_len {w : World} {a : Option Addr} {len cap : Nat} {zs : List Int} (h : Row w a len cap zs) : len ≤ 9223372036854775807 ∧ (zs.take len).length = len := by
  rcases h with ⟨_, rfl, _, _⟩ | ⟨x, h0, h1, h2, h3, h4, h5⟩
  · simp
  · unfold maxLen at h2
    simp
    omega

theorem row_bytes {w : World} {a : Option Addr} {len cap : Nat} {zs : List Int} (h : Row w a len cap zs) : ∀ x ∈ zs.take len, 0 ≤ x ∧ x ≤ 255 := by
  intro x hx
  have hx' := List.mem_of_mem_take hx
  rcases h with ⟨_, _, _, rfl⟩ | ⟨_, _, _, _, _, _, h5⟩
  · simp at hx'
  · exact bounds_u8 (h5 x hx')

theorem row_not_nil {w : World} {a : Option Addr} {len cap : Nat} {zs : List Int} (h : Row w a len cap zs) (hl : 1 ≤ len) : a.isNone = false := by
  rcases h with ⟨_, h, _⟩ | ⟨x, h, _⟩
  · omega
  · rw [h]; rfl

section
variable (a0 : Option Addr) (len0 cap0 : Nat) (z0 : List Int) (a1 a2 : Int) (a3 : Option Addr) (len3 cap3 : Nat) (z3 : List Int) (a4 a5 a6 a7 a8 : Int) (w : World)

/-! ### The ways out ahead of the work -/
theorem out_bytes (h : 1048576 < len0 + len3) (h0 : len0 ≤ 9223372036854775807) (h3 : len3 ≤ 9223372036854775807) :
    Calls Try.prog 3 #[.slice a0 len0 cap0, .int .i64 a1, .int .i64 a2, .slice a3 len3 cap3, .int .i64 a4, .int .i64 a5, .int .i64 a6, .int .i64 a7, .int .i64 a8] w fun e w' => e = .returned (.bool true) ∧ Below w.heap.size w w' := by
  go_enter Try.func3, Try.ntmps3
  go_wp2_with fail
  refine (bytes_no a0 len0 cap0 a1 a2 a3 len3 cap3 a4 a5 a6 a7 a8 h h0 h3 _).mono ?_
  rintro e w' ⟨rfl, rfl⟩
  go_wp2
  go_ret
  exact ⟨rfl, Below.refl _ _⟩

theorem out_n (h : len0 + len3 ≤ 1048576) (c1 : 65536 < a6) :
    Calls Try.prog 3 #[.slice a0 len0 cap0, .int .i64 a1, .int .i64 a2, .slice a3 len3 cap3, .int .i64 a4, .int .i64 a5, .int .i64 a6, .int .i64 a7, .int .i64 a8] w fun e w' => e = .returned (.bool true) ∧ Below w.heap.size w w' := by
  go_enter Try.func3, Try.ntmps3
  go_wp2_with fail
  refine (bytes_yes a0 len0 cap0 a1 a2 a3 len3 cap3 a4 a5 a6 a7 a8 h _).mono ?_
  rintro e w' ⟨rfl, rfl⟩
  go_wp2
  go_ret
  exact ⟨rfl, Below.refl _ _⟩

theorem out_len (h : len0 + len3 ≤ 1048576) (c1 : a6 ≤ 65536) (c2 : 65536 < a7) :
    Calls Try.prog 3 #[.slice a0 len0 cap0, .int .i64 a1, .int .i64 a2, .slice a3 len3 cap3, .int .i64 a4, .int .i64 a5, .int .i64 a6, .int .i64 a7, .int .i64 a8] w fun e w' => e = .returned (.bool true) ∧ Below w.heap.size w w' := by
  go_enter Try.func3, Try.ntmps3
  go_wp2_with fail
  refine (bytes_yes a0 len0 cap0 a1 a2 a3 len3 cap3 a4 a5 a6 a7 a8 h _).mono ?_
  rintro e w' ⟨rfl, rfl⟩
  go_wp2
  go_ret
  exact ⟨rfl, Below.refl _ _⟩

theorem out_neg (h : len0 + len3 ≤ 1048576) (c1 : a6 ≤ 65536) (c2 : a7 ≤ 65536) (c3 : a8 < 0) :
    Calls Try.prog 3 #[.slice a0 len0 cap0, .int .i64 a1, .int .i64 a2, .slice a3 len3 cap3, .int .i64 a4, .int .i64 a5, .int .i64 a6, .int .i64 a7, .int .i64 a8] w fun e w' => e = .returned (.bool true) ∧ Below w.heap.size w w' := by
  go_enter Try.func3, Try.ntmps3
  go_wp2_with fail
  refine (bytes_yes a0 len0 cap0 a1 a2 a3 len3 cap3 a4 a5 a6 a7 a8 h _).mono ?_
  rintro e w' ⟨rfl, rfl⟩
  go_wp2
  go_ret
  exact ⟨rfl, Below.refl _ _⟩

theorem out_reach (h : len0 + len3 ≤ 1048576) (c1 : a6 ≤ 65536) (c2 : a7 ≤ 65536) (c3 : 0 ≤ a8) (c4 : 65536 < a8) :
    Calls Try.prog 3 #[.slice a0 len0 cap0, .int .i64 a1, .int .i64 a2, .slice a3 len3 cap3, .int .i64 a4, .int .i64 a5, .int .i64 a6, .int .i64 a7, .int .i64 a8] w fun e w' => e = .returned (.bool true) ∧ Below w.heap.size w w' := by
  go_enter Try.func3, Try.ntmps3
  go_wp2_with fail
  refine (bytes_yes a0 len0 cap0 a1 a2 a3 len3 cap3 a4 a5 a6 a7 a8 h _).mono ?_
  rintro e w' ⟨rfl, rfl⟩
  go_wp2
  go_ret
  exact ⟨rfl, Below.refl _ _⟩

theorem out_dst (h : len0 + len3 ≤ 1048576) (c1 : a6 ≤ 65536) (c2 : a7 ≤ 65536) (c3 : 0 ≤ a8) (c4 : a8 ≤ 65536) (c5 : 1 ≤ a6) (hf : ¬ Fits len0 a1 a2 a6 a7) :
    Calls Try.prog 3 #[.slice a0 len0 cap0, .int .i64 a1, .int .i64 a2, .slice a3 len3 cap3, .int .i64 a4, .int .i64 a5, .int .i64 a6, .int .i64 a7, .int .i64 a8] w fun e w' => e = .returned (.bool true) ∧ Below w.heap.size w w' := by
  go_enter Try.func3, Try.ntmps3
  go_wp2_with fail
  refine (bytes_yes a0 len0 cap0 a1 a2 a3 len3 cap3 a4 a5 a6 a7 a8 h _).mono ?_
  rintro e w' ⟨rfl, rfl⟩
  go_wp2_with fail
  refine (fits_no len0 a1 a2 a6 a7 (by omega) (by omega) c5 c1 c2 hf _).mono ?_
  rintro e w' ⟨rfl, rfl⟩
  go_wp2
  go_ret
  exact ⟨rfl, Below.refl _ _⟩

theorem out_src (h : len0 + len3 ≤ 1048576) (c1 : a6 ≤ 65536) (c2 : a7 ≤ 65536) (c3 : 0 ≤ a8) (c4 : a8 ≤ 65536) (c5 : 1 ≤ a6) (hf : Fits len0 a1 a2 a6 a7) (hg : ¬ Fits len3 a4 a5 a6 a7) :
    Calls Try.prog 3 #[.slice a0 len0 cap0, .int .i64 a1, .int .i64 a2, .slice a3 len3 cap3, .int .i64 a4, .int .i64 a5, .int .i64 a6, .int .i64 a7, .int .i64 a8] w fun e w' => e = .returned (.bool true) ∧ Below w.heap.size w w' := by
  go_enter Try.func3, Try.ntmps3
  go_wp2_with fail
  refine (bytes_yes a0 len0 cap0 a1 a2 a3 len3 cap3 a4 a5 a6 a7 a8 h _).mono ?_
  rintro e w' ⟨rfl, rfl⟩
  go_wp2_with fail
  refine (fits_yes len0 a1 a2 a6 a7 (by omega) (by omega) c5 c1 c2 hf _).mono ?_
  rintro e w' ⟨rfl, rfl⟩
  go_wp2_with fail
  refine (fits_no len3 a4 a5 a6 a7 (by omega) (by omega) c5 c1 c2 hg _).mono ?_
  rintro e w' ⟨rfl, rfl⟩
  go_wp2
  go_ret
  exact ⟨rfl, Below.refl _ _⟩

theorem out_area (h : len0 + len3 ≤ 1048576) (c1 : a6 ≤ 65536) (c2 : a7 ≤ 65536) (c3 : 0 ≤ a8) (c4 : a8 ≤ 65536) (c5 : 1 ≤ a6) (c6 : 1 ≤ a7) (hf : Fits len0 a1 a2 a6 a7) (hg : Fits len3 a4 a5 a6 a7) (hp : 0 ≤ a6 * a7 ∧ a6 * a7 ≤ 65536 * 65536) (ht : 1048576 < a6 * a7) :
    Calls Try.prog 3 #[.slice a0 len0 cap0, .int .i64 a1, .int .i64 a2, .slice a3 len3 cap3, .int .i64 a4, .int .i64 a5, .int .i64 a6, .int .i64 a7, .int .i64 a8] w fun e w' => e = .returned (.bool true) ∧ Below w.heap.size w w' := by
  go_enter Try.func3, Try.ntmps3
  go_wp2_with fail
  refine (bytes_yes a0 len0 cap0 a1 a2 a3 len3 cap3 a4 a5 a6 a7 a8 h _).mono ?_
  rintro e w' ⟨rfl, rfl⟩
  go_wp2_with fail
  refine (fits_yes len0 a1 a2 a6 a7 (by omega) (by omega) c5 c1 c2 hf _).mono ?_
  rintro e w' ⟨rfl, rfl⟩
  go_wp2_with fail
  refine (fits_yes len3 a4 a5 a6 a7 (by omega) (by omega) c5 c1 c2 hg _).mono ?_
  rintro e w' ⟨rfl, rfl⟩
  go_wp2
  go_ret
  exact ⟨rfl, Below.refl _ _⟩

theorem out_width (h : len0 + len3 ≤ 1048576) (c1 : a6 ≤ 65536) (c2 : a7 ≤ 65536) (c3 : 0 ≤ a8) (c4 : a8 ≤ 65536) (c5 : 1 ≤ a6) (c6 : 1 ≤ a7) (hf : Fits len0 a1 a2 a6 a7) (hg : Fits len3 a4 a5 a6 a7) (hp : 0 ≤ a6 * a7 ∧ a6 * a7 ≤ 65536 * 65536) (ht : a6 * a7 ≤ 1048576) (hq : 0 ≤ a6 * (2 * a8 + 1) ∧ a6 * (2 * a8 + 1) ≤ 65536 * 131073) (hu : 4194304 < a6 * (2 * a8 + 1)) :
    Calls Try.prog 3 #[.slice a0 len0 cap0, .int .i64 a1, .int .i64 a2, .slice a3 len3 cap3, .int .i64 a4, .int .i64 a5, .int .i64 a6, .int .i64 a7, .int .i64 a8] w fun e w' => e = .returned (.bool true) ∧ Below w.heap.size w w' := by
  go_enter Try.func3, Try.ntmps3
  go_wp2_with fail
  refine (bytes_yes a0 len0 cap0 a1 a2 a3 len3 cap3 a4 a5 a6 a7 a8 h _).mono ?_
  rintro e w' ⟨rfl, rfl⟩
  go_wp2_with fail
  refine (fits_yes len0 a1 a2 a6 a7 (by omega) (by omega) c5 c1 c2 hf _).mono ?_
  rintro e w' ⟨rfl, rfl⟩
  go_wp2_with fail
  refine (fits_yes len3 a4 a5 a6 a7 (by omega) (by omega) c5 c1 c2 hg _).mono ?_
  rintro e w' ⟨rfl, rfl⟩
  go_wp2
  go_ret
  exact ⟨rfl, Below.refl _ _⟩
end
end Go.Proofs.Qxb6602704a.box
