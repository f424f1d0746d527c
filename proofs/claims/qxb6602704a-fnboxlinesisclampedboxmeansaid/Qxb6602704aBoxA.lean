import Derived.Test.Qxb6602704aRows
import Derived.ProofKit
import Derived.Test.Qxb6602704aMem
import Derived.Deep.QuietTactic
import Derived.BigQuiet
import Derived.Lib.SliceRun
namespace Go.Proofs.Qxb6602704a.box
open Go.ChangeShapes Go.WideShapes Go.ChangeAt Go.RowKit
set_option linter.unusedSimpArgs false
set_option linter.unusedVariables false

theorem info5 : (Try.prog.info? 5).map (fun i => (i.zero, i.size, i.bytes)) = some (some (.int .u8 0), 1, 1) := by kernel_rfl
theorem info2 : (Try.prog.info? 2).map (fun i => (i.zero, i.size, i.bytes)) = some (some (.int .i64 0), 1, 8) := by kernel_rfl
theorem isnil (a : Option Addr) (n c : Nat) : ∀ w : World, Sem.run Try.prog (binOp .eql 22 (.slice a n c) (.slice none 0 0)) w = .ok (.bool a.isNone) w :=
  fun w => Lib.run_eql_slice_nil w 22 5 a n c 0 0 Try.underlying22

theorem clone_nil (w : World) : Calls Try.prog 12 #[.slice none 0 0] w fun e w' => e = .returned (.slice none 0 0) ∧ w' = w := by
  have hn := isnil none 0 0
  go_enter Try.func12, Try.ntmps12
  go_wp2
  go_ret
  exact ⟨rfl, rfl⟩

theorem clone_some (b off len cap : Nat) (zs : List Int) (hz : zs.length = len) (hlen : len ≤ 1048576) (w : World) (hb : b < w.heap.size) (hc : ∀ i, i < len → w.cell? ⟨b, off + i, none⟩ = some (.int .u8 (zs.getD i 0))) :
    Calls Try.prog 12 #[.slice (some ⟨b, off, none⟩) len cap] w fun e w' => e = .returned (.slice (some ⟨w.heap.size, 0, none⟩) len len) ∧ Blk w' w.heap.size 5 (ints .u8 zs) ∧ Below w.heap.size w w' ∧ w'.heap.size = w.heap.size + 1 := by
  have hn := isnil (some ⟨b, off, none⟩) len cap
  have hmk := fun w => run_make_row' (P := Try.prog) 22 5 (.int .u8 0) 1 Try.underlying22 info5 rfl .i64 .i64 len (by omega) (by omega) w
  have HC := hide hc
  have HZ := hide hz
  clear hc hz
  go_enter Try.func12, Try.ntmps12
  go_wp2
  go_loopw [4] (fun i wr => ∃ k : Nat, k ≤ len ∧ i = .int .i64 k ∧ Blk wr w.heap.size 5 (ints .u8 (zs.take k ++ List.replicate (zs.length - k) 0)) ∧ Below w.heap.size w wr ∧ wr.heap.size = w.heap.size + 1) (fun i _ => len - (intOf i).toNat)
  case atStart =>
    refine ⟨0, Nat.zero_le _, rfl, ?_, (Below.refl _ _).alloc (Nat.le_refl _) _, by simp⟩
    have := Blk.new w (madeCells #[.int .u8 0] len) 5
    rw [made_ints, ← HZ.out] at this
    simpa [HZ.out] using this
  case round =>
    obtain ⟨k, hk, rfl, hblk, hbel, hsz⟩ := hrel
    have HB := hide hblk
    have HL := hide hbel
    have HS := hide hsz
    clear hblk hbel hsz
    by_cases hlt : k < len
    · have hcx : wr.cell? ⟨b, off + k, none⟩ = some (.int .u8 (zs.getD k 0)) := by rw [HL.out.cell hb]; exact HC.out k hlt
      have hfx := HB.out.frozen k
      have hcy : ∃ v, wr.cell? ⟨w.heap.size, k, none⟩ = some v := ⟨_, HB.out.int k (by have := HZ.out; simp; omega)⟩
      obtain ⟨v, hcy⟩ := hcy
      go_wp2
      go_roundw
      case rel =>
        refine ⟨k + 1, by omega, by go_num, ?_, HL.out.setCell (Nat.le_refl _) _, by simp [World.setCell, HS.out]⟩
        have h1 := HB.out.setInt k (zs.getD k 0)
        rw [fill_step zs k (by have := HZ.out; omega)] at h1
        simpa using h1
      case measure => simp [intOf]; omega
    · go_wp2
      go_ret
      refine ⟨rfl, ?_, HL.out, HS.out⟩
      have h1 := HB.out
      have hz := HZ.out
      rw [show zs.length - k = 0 by omega, List.take_of_length_le (by omega)] at h1
      simpa using h1

/-- An empty slice that is not nil, wherever it points. -/
theorem clone_empty (a : Addr) (cap : Nat) (w : World) :
    Calls Try.prog 12 #[.slice (some a) 0 cap] w fun e w' => e = .returned (.slice (some ⟨w.heap.size, 0, none⟩) 0 0) ∧ Blk w' w.heap.size 5 (ints .u8 []) ∧ Below w.heap.size w w' ∧ w'.heap.size = w.heap.size + 1 := by
  have hn := isnil (some a) 0 cap
  have hmk : ∀ w : World, Sem.run Try.prog (Instr.makeSlice 22 (.int .i64 0) (.int .i64 0)) w = .ok (.slice (some ⟨w.heap.size, 0, none⟩) 0 0) (w.alloc (.cells (madeCells #[.int .u8 0] 0) 5)) :=
    fun w => run_make_row' (P := Try.prog) 22 5 (.int .u8 0) 1 Try.underlying22 info5 rfl .i64 .i64 0 (by omega) (by omega) w
  go_enter Try.func12, Try.ntmps12
  go_wp2
  refine wp_loop_rounds 1 ?_
  rw [rounds_succ]
  go_wp2
  go_ret
  refine ⟨rfl, ?_, (Below.refl _ _).alloc (Nat.le_refl _) _, by simp⟩
  have := Blk.new w (madeCells #[.int .u8 0] 0) 5
  rw [made_ints] at this
  exact this

/-! ### sameBytes: equal bytes are the same -/
theorem same_nil (w : World) : Calls Try.prog 15 #[.slice none 0 0, .slice none 0 0] w fun e w' => e = .returned (.bool true) ∧ w' = w := by
  have hn := isnil none 0 0
  go_enter Try.func15, Try.ntmps15
  go_wp2
  refine wp_loop_rounds 1 ?_
  rw [rounds_succ]
  go_wp2
  go_ret
  exact ⟨rfl, rfl⟩

theorem same_some (b c len cap cap' : Nat) (zs : List Int) (hz : zs.length = len) (hlen : len ≤ 1048576) (w : World) (h1 : Blk w b 5 (ints .u8 zs)) (h2 : Blk w c 5 (ints .u8 zs)) :
    Calls Try.prog 15 #[.slice (some ⟨b, 0, none⟩) len cap, .slice (some ⟨c, 0, none⟩) len cap'] w fun e w' => e = .returned (.bool true) ∧ ∃ n, w' = w.drewN n := by
  have hn := isnil (some ⟨b, 0, none⟩) len cap
  have hn' := isnil (some ⟨c, 0, none⟩) len cap'
  have hq : ((len : Int) != (len : Int)) = false := by simp
  have HZ := hide hz
  have H1 := hide h1
  have H2 := hide h2
  clear hz h1 h2
  go_enter Try.func15, Try.ntmps15
  go_wp2
  go_loopw [5] (fun i wr => ∃ k : Nat, k ≤ len ∧ i = .int .i64 k ∧ ∃ n, wr = w.drewN n) (fun i _ => len - (intOf i).toNat)
  case atStart => exact ⟨0, Nat.zero_le _, rfl, 0, rfl⟩
  case round =>
    obtain ⟨k, hk, rfl, n, rfl⟩ := hrel
    by_cases hlt : k < len
    · have c1 : w.cell? ⟨b, k, none⟩ = some (.int .u8 (zs.getD k 0)) := H1.out.int k (by have := HZ.out; omega)
      have c2 : w.cell? ⟨c, k, none⟩ = some (.int .u8 (zs.getD k 0)) := H2.out.int k (by have := HZ.out; omega)
      have hi : (k : Int) < (len : Int) := by omega
      go_wp2
      go_quiet (fail)
      go_wp2
      go_roundw
      case rel => exact ⟨k + 1, by omega, by go_num, n + nq, rfl⟩
      case measure => simp [intOf]; omega
    · go_wp2
      go_ret
      exact ⟨rfl, n, rfl⟩

/-! ### zzBytes: both lengths together at most 1<<20 -/
theorem bytes_yes (a0 : Option Addr) (l0 c0 : Nat) (d1 d2 : Int) (a3 : Option Addr) (l3 c3 : Nat) (d4 d5 d6 d7 d8 : Int) (h : l0 + l3 ≤ 1048576) (w : World) :
    Calls Try.prog 10 #[.slice a0 l0 c0, .int .i64 d1, .int .i64 d2, .slice a3 l3 c3, .int .i64 d4, .int .i64 d5, .int .i64 d6, .int .i64 d7, .int .i64 d8] w fun e w' => e = .returned (.bool true) ∧ w' = w := by
  go_enter Try.func10, Try.ntmps10
  go_wp2
  go_ret
  exact ⟨rfl, rfl⟩
theorem bytes_no (a0 : Option Addr) (l0 c0 : Nat) (d1 d2 : Int) (a3 : Option Addr) (l3 c3 : Nat) (d4 d5 d6 d7 d8 : Int) (h : 1048576 < l0 + l3) (h0 : l0 ≤ 9223372036854775807) (h3 : l3 ≤ 9223372036854775807) (w : World) :
    Calls Try.prog 10 #[.slice a0 l0 c0, .int .i64 d1, .int .i64 d2, .slice a3 l3 c3, .int .i64 d4, .int .i64 d5, .int .i64 d6, .int .i64 d7, .int .i64 d8] w fun e w' => e = .returned (.bool false) ∧ w' = w := by
  by_cases c1 : 1048576 < l0
  · go_enter Try.func10, Try.ntmps10
    go_wp2
    go_ret
    exact ⟨rfl, rfl⟩
  · by_cases c2 : 1048576 < l3
    · go_enter Try.func10, Try.ntmps10
      go_wp2
      go_ret
      exact ⟨rfl, rfl⟩
    · go_enter Try.func10, Try.ntmps10
      go_wp2
      go_ret
      exact ⟨rfl, rfl⟩

/-! ### boxFits -/
def Fits (size line step n len : Int) : Prop :=
  1 ≤ len ∧ (1 < n → 0 ≤ line ∧ line ≤ size) ∧ (1 < len → 0 ≤ step ∧ step ≤ size) ∧ 4 + (if 1 < n then (n - 1) * line else 0) + (if 1 < len then (len - 1) * step else 0) ≤ size

theorem prod_bd {a b A B : Int} (a0 : 0 ≤ a) (a1 : a ≤ A) (b0 : 0 ≤ b) (b1 : b ≤ B) : 0 ≤ a * b ∧ a * b ≤ A * B :=
  ⟨Int.mul_nonneg a0 b0, Int.mul_le_mul a1 b1 b0 (by omega)⟩

theorem fits_yes (size line step n len : Int) (s0 : 0 ≤ size) (s1 : size ≤ 1048576) (n1 : 1 ≤ n) (n2 : n ≤ 65536) (l2 : len ≤ 65536) (h : Fits size line step n len) (w : World) :
    Calls Try.prog 11 #[.int .i64 size, .int .i64 line, .int .i64 step, .int .i64 n, .int .i64 len] w fun e w' => e = .returned (.bool true) ∧ w' = w := by
  obtain ⟨f1, f2, f3, f4⟩ := h
  by_cases c1 : 1 < n
  · obtain ⟨q1, q2⟩ := f2 c1
    have hp := prod_bd (show 0 ≤ n - 1 by omega) (show n - 1 ≤ 65536 by omega) q1 (show line ≤ 1048576 by omega)
    rw [if_pos c1] at f4
    by_cases c2 : 1 < len
    · obtain ⟨r1, r2⟩ := f3 c2
      have hp' := prod_bd (show 0 ≤ len - 1 by omega) (show len - 1 ≤ 65536 by omega) r1 (show step ≤ 1048576 by omega)
      rw [if_pos c2] at f4
      go_enter Try.func11, Try.ntmps11
      go_wp2
      go_ret
      exact ⟨rfl, rfl⟩
    · rw [if_neg c2] at f4
      simp only [Int.add_zero] at f4
      go_enter Try.func11, Try.ntmps11
      go_wp2
      go_ret
      exact ⟨rfl, rfl⟩
  · rw [if_neg c1] at f4
    by_cases c2 : 1 < len
    · obtain ⟨r1, r2⟩ := f3 c2
      have hp' := prod_bd (show 0 ≤ len - 1 by omega) (show len - 1 ≤ 65536 by omega) r1 (show step ≤ 1048576 by omega)
      rw [if_pos c2] at f4
      simp only [Int.add_zero] at f4
      go_enter Try.func11, Try.ntmps11
      go_wp2
      go_ret
      exact ⟨rfl, rfl⟩
    · rw [if_neg c2] at f4
      simp only [Int.add_zero] at f4
      go_enter Try.func11, Try.ntmps11
      go_wp2
      go_ret
      exact ⟨rfl, rfl⟩

theorem fits_no (size line step n len : Int) (s0 : 0 ≤ size) (s1 : size ≤ 1048576) (n1 : 1 ≤ n) (n2 : n ≤ 65536) (l2 : len ≤ 65536) (h : ¬ Fits size line step n len) (w : World) :
    Calls Try.prog 11 #[.int .i64 size, .int .i64 line, .int .i64 step, .int .i64 n, .int .i64 len] w fun e w' => e = .returned (.bool false) ∧ w' = w := by
  by_cases f1 : 1 ≤ len
  · by_cases f2 : 1 < n → 0 ≤ line ∧ line ≤ size
    · by_cases f3 : 1 < len → 0 ≤ step ∧ step ≤ size
      · have f4 : ¬ 4 + (if 1 < n then (n - 1) * line else 0) + (if 1 < len then (len - 1) * step else 0) ≤ size := fun h4 => h ⟨f1, f2, f3, h4⟩
        clear h
        by_cases c1 : 1 < n
        · obtain ⟨q1, q2⟩ := f2 c1
          have hp := prod_bd (show 0 ≤ n - 1 by omega) (show n - 1 ≤ 65536 by omega) q1 (show line ≤ 1048576 by omega)
          rw [if_pos c1] at f4
          by_cases c2 : 1 < len
          · obtain ⟨r1, r2⟩ := f3 c2
            have hp' := prod_bd (show 0 ≤ len - 1 by omega) (show len - 1 ≤ 65536 by omega) r1 (show step ≤ 1048576 by omega)
            rw [if_pos c2] at f4
            have g4 := decide_eq_false f4
            clear f2 f3 f4
            go_enter Try.func11, Try.ntmps11
            go_wp2
            go_ret
            exact ⟨rfl, rfl⟩
          · rw [if_neg c2] at f4
            simp only [Int.add_zero] at f4
            have g4 := decide_eq_false f4
            clear f2 f3 f4
            go_enter Try.func11, Try.ntmps11
            go_wp2
            go_ret
            exact ⟨rfl, rfl⟩
        · rw [if_neg c1] at f4
          by_cases c2 : 1 < len
          · obtain ⟨r1, r2⟩ := f3 c2
            have hp' := prod_bd (show 0 ≤ len - 1 by omega) (show len - 1 ≤ 65536 by omega) r1 (show step ≤ 1048576 by omega)
            rw [if_pos c2] at f4
            simp only [Int.add_zero] at f4
            have g4 := decide_eq_false f4
            clear f2 f3 f4
            go_enter Try.func11, Try.ntmps11
            go_wp2
            go_ret
            exact ⟨rfl, rfl⟩
          · rw [if_neg c2] at f4
            simp only [Int.add_zero] at f4
            have g4 := decide_eq_false f4
            clear f2 f3 f4
            go_enter Try.func11, Try.ntmps11
            go_wp2
            go_ret
            exact ⟨rfl, rfl⟩
      · clear h
        have c2 : 1 < len := by omega
        have c3 : step < 0 ∨ size < step := by omega
        clear f3
        by_cases c1 : 1 < n
        · obtain ⟨q1, q2⟩ := f2 c1
          clear f2
          by_cases c4 : step < 0
          · clear c3
            go_enter Try.func11, Try.ntmps11
            go_wp2
            go_ret
            exact ⟨rfl, rfl⟩
          · have c5 : size < step := by omega
            clear c3
            go_enter Try.func11, Try.ntmps11
            go_wp2
            go_ret
            exact ⟨rfl, rfl⟩
        · clear f2
          by_cases c4 : step < 0
          · clear c3
            go_enter Try.func11, Try.ntmps11
            go_wp2
            go_ret
            exact ⟨rfl, rfl⟩
          · have c5 : size < step := by omega
            clear c3
            go_enter Try.func11, Try.ntmps11
            go_wp2
            go_ret
            exact ⟨rfl, rfl⟩
    · clear h
      have c1 : 1 < n := by omega
      have c3 : line < 0 ∨ size < line := by omega
      clear f2
      by_cases c4 : line < 0
      · clear c3
        go_enter Try.func11, Try.ntmps11
        go_wp2
        go_ret
        exact ⟨rfl, rfl⟩
      · have c5 : size < line := by omega
        clear c3
        go_enter Try.func11, Try.ntmps11
        go_wp2
        go_ret
        exact ⟨rfl, rfl⟩
  · clear h
    go_enter Try.func11, Try.ntmps11
    go_wp2
    go_ret
    exact ⟨rfl, rfl⟩
end Go.Proofs.Qxb6602704a.box
