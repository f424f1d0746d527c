import Derived.Test.Qxb6602784aRebA
namespace Go.Proofs.Qxb6602784a.grf
open Go.ChangeShapes Go.WideShapes Go.ChangeAt Go.RowKit
set_option linter.unusedSimpArgs false
set_option linter.unusedVariables false

/-- n slices lie from this place on; each reads as its list. -/
structure LCells (w : World) (b off n : Nat) (vs : List Value) (LL : List (List Int)) : Prop where
  lt : b < w.heap.size
  cell : ∀ i, i < n → w.cell? ⟨b, off + i, none⟩ = some (vs.getD i (.slice none 0 0))
  row : ∀ i, i < n → Row w (vs.getD i (.slice none 0 0)) (ints .i64 (LL.getD i []))

theorem Row.slice {w : World} {v : Value} {xs : List Value} (h : Row w v xs) : ∃ a c, v = .slice a xs.length c ∧ xs.length ≤ maxLen := by
  rcases h with ⟨h1, h2⟩ | ⟨x, cap, h1, h2, h3, h4⟩
  · exact ⟨none, 0, by rw [h1, h2]; rfl, by rw [h2]; exact Nat.zero_le _⟩
  · exact ⟨_, _, h1, by omega⟩

theorem LCells.at {w : World} {b off n : Nat} {vs : List Value} {LL : List (List Int)} (h : LCells w b off n vs LL) (i : Nat) (hi : i < n) : ∃ a m c, w.cell? ⟨b, off + i, none⟩ = some (.slice a m c) ∧ m = (LL.getD i []).length ∧ m ≤ 9223372036854775807 := by
  obtain ⟨a, c, h1, h2⟩ := (h.row i hi).slice
  refine ⟨a, _, c, by rw [h.cell i hi, h1], by rw [ints_len], ?_⟩
  unfold maxLen at h2
  exact h2

/-! ### zzBytes (function 22): it answers, and turns nothing -/
theorem zz22_zero (a0 a2 a1 : Option Addr) (n0 c0 c1 n2 c2 : Nat) (e k : Int) (hn0 : n0 ≤ 9223372036854775807) (hn2 : n2 ≤ 9223372036854775807) (w : World) :
    Calls Try.prog 22 #[.slice a0 n0 c0, .slice a1 0 c1, .slice a2 n2 c2, .int .u64 e, .int .i64 k] w fun e w' => AnsB e ∧ w = w' := by
  by_cases d0 : 1048576 < n0
  · go_enter Try.func22, Try.ntmps22
    go_wp2
    go_ret
    first | exact ⟨⟨_, rfl⟩, rfl⟩ | exact ⟨_, rfl⟩
  · by_cases d2 : 1048576 < n2
    · go_enter Try.func22, Try.ntmps22
      go_wp2
      refine wp_loop_rounds 1 ?_
      rw [rounds_succ]
      go_wp2
      go_ret
      first | exact ⟨⟨_, rfl⟩, rfl⟩ | exact ⟨_, rfl⟩
    · by_cases d3 : 1048576 < n0 + n2
      · go_enter Try.func22, Try.ntmps22
        go_wp2
        refine wp_loop_rounds 1 ?_
        rw [rounds_succ]
        go_wp2
        go_ret
        first | exact ⟨⟨_, rfl⟩, rfl⟩ | exact ⟨_, rfl⟩
      · go_enter Try.func22, Try.ntmps22
        go_wp2
        refine wp_loop_rounds 1 ?_
        rw [rounds_succ]
        go_wp2
        go_ret
        first | exact ⟨⟨_, rfl⟩, rfl⟩ | exact ⟨_, rfl⟩

theorem zz22_some (a0 a2 : Option Addr) (b off n n0 c0 cap n2 c2 : Nat) (e k : Int) (vs : List Value) (LL : List (List Int)) (hn0 : n0 ≤ 9223372036854775807) (hn : n ≤ 9223372036854775807) (hn2 : n2 ≤ 9223372036854775807) (w : World) (h : LCells w b off n vs LL) :
    Calls Try.prog 22 #[.slice a0 n0 c0, .slice (some ⟨b, off, none⟩) n cap, .slice a2 n2 c2, .int .u64 e, .int .i64 k] w fun e w' => AnsB e ∧ w = w' := by
  have H := hide h
  clear h
  by_cases d0 : 1048576 < n0
  · go_enter Try.func22, Try.ntmps22
    go_wp2
    go_ret
    first | exact ⟨⟨_, rfl⟩, rfl⟩ | exact ⟨_, rfl⟩
  by_cases d1 : 1048576 < n
  · go_enter Try.func22, Try.ntmps22
    go_wp2
    go_ret
    first | exact ⟨⟨_, rfl⟩, rfl⟩ | exact ⟨_, rfl⟩
  by_cases d2 : 1048576 < n0 + n
  · go_enter Try.func22, Try.ntmps22
    go_wp2
    go_ret
    first | exact ⟨⟨_, rfl⟩, rfl⟩ | exact ⟨_, rfl⟩
  go_enter Try.func22, Try.ntmps22
  go_wp2
  go_loop [11, 12] (fun z i => ∃ k x : Nat, k ≤ n ∧ x ≤ 1048576 ∧ i = .int .i64 k ∧ z = .int .i64 x) (fun _ i => n - (intOf i).toNat)
  case atStart => exact ⟨0, n0 + n, by omega, by omega, rfl, by go_num⟩
  case round =>
    obtain ⟨k, x, hk, hx, rfl, rfl⟩ := hrel
    by_cases hlt : k < n
    · obtain ⟨a, m, c, q1, hm, hm2⟩ := H.out.at k hlt
      clear hm
      by_cases c1 : 1048576 < m
      · go_wp2
        go_ret
        first | exact ⟨⟨_, rfl⟩, rfl⟩ | exact ⟨_, rfl⟩
      · by_cases c2 : 1048576 < x + m
        · go_wp2
          go_ret
          first | exact ⟨⟨_, rfl⟩, rfl⟩ | exact ⟨_, rfl⟩
        · go_wp2
          go_round
          case rel => exact ⟨k + 1, x + m, by omega, by omega, by go_num, by go_num⟩
          case measure => simp [intOf]; omega
    · by_cases c1 : 1048576 < n2
      · go_wp2
        go_ret
        first | exact ⟨⟨_, rfl⟩, rfl⟩ | exact ⟨_, rfl⟩
      · by_cases c2 : 1048576 < x + n2
        · go_wp2
          go_ret
          first | exact ⟨⟨_, rfl⟩, rfl⟩ | exact ⟨_, rfl⟩
        · go_wp2
          go_ret
          first | exact ⟨⟨_, rfl⟩, rfl⟩ | exact ⟨_, rfl⟩

/-! ### listsBytes -/
def AnsL (n : Nat) (LL : List (List Int)) (e : Ending) : Prop := ∃ r : Nat, e = .returned (.int .i64 r) ∧ r ≤ 10485760 ∧ (r ≤ 1048576 → ∀ i, i < n → (LL.getD i []).length ≤ 1048576)

theorem lists_zero (a : Option Addr) (cap : Nat) (LL : List (List Int)) (w : World) : Calls Try.prog 23 #[.slice a 0 cap] w fun e w' => AnsL 0 LL e ∧ w = w' := by
  go_enter Try.func23, Try.ntmps23
  go_wp2
  refine wp_loop_rounds 1 ?_
  rw [rounds_succ]
  go_wp2
  go_ret
  first | exact ⟨⟨0, rfl, by omega, fun _ i hi => by omega⟩, rfl⟩ | exact ⟨0, rfl, by omega, fun _ i hi => by omega⟩

theorem lists_some (b off n cap : Nat) (vs : List Value) (LL : List (List Int)) (hn : n ≤ 9223372036854775807) (w : World) (h : LCells w b off n vs LL) :
    Calls Try.prog 23 #[.slice (some ⟨b, off, none⟩) n cap] w fun e w' => AnsL n LL e ∧ w = w' := by
  have H := hide h
  clear h
  go_enter Try.func23, Try.ntmps23
  go_wp2
  go_loop [3, 4] (fun z i => ∃ k x : Nat, k ≤ n ∧ x ≤ 1048576 ∧ i = .int .i64 k ∧ z = .int .i64 x ∧ ∀ i, i < k → (LL.getD i []).length ≤ 1048576) (fun _ i => n - (intOf i).toNat)
  case atStart => exact ⟨0, 0, by omega, by omega, rfl, rfl, fun i hi => by omega⟩
  case round =>
    obtain ⟨k, x, hk, hx, rfl, rfl, hall⟩ := hrel
    have HA := hide hall
    clear hall
    by_cases hlt : k < n
    · obtain ⟨a, m, c, q1, hm, hm2⟩ := H.out.at k hlt
      have HM := hide hm
      clear hm
      by_cases c1 : 1048576 < m
      · have HE : Hid (AnsL n LL (.returned (.int .i64 1048577))) := ⟨1048577, rfl, by omega, fun h => by omega⟩
        go_wp2
        go_ret
        first | exact ⟨HE.out, rfl⟩ | exact HE.out
      · by_cases c2 : 1048576 < x + (24 + 8 * m)
        · have HE : Hid (AnsL n LL (.returned (.int .i64 ((x + (24 + 8 * m) : Nat) : Int)))) := ⟨_, rfl, by omega, fun h => by omega⟩
          go_wp2
          go_ret
          first | exact ⟨by simpa using HE.out, rfl⟩ | simpa using HE.out
        · have HN : Hid (∀ i, i < k + 1 → (LL.getD i []).length ≤ 1048576) := by
            intro i hi
            by_cases e : i = k
            · rw [e, ← HM.out]; omega
            · exact HA.out i (by omega)
          go_wp2
          go_round
          case rel => exact ⟨k + 1, x + (24 + 8 * m), by omega, by omega, by go_num, by go_num, HN.out⟩
          case measure => simp [intOf]; omega
    · have HE : Hid (AnsL n LL (.returned (.int .i64 (x : Int)))) := ⟨_, rfl, by omega, fun _ i hi => HA.out i (by omega)⟩
      go_wp2
      go_ret
      first | exact ⟨HE.out, rfl⟩ | exact HE.out
end Go.Proofs.Qxb6602784a.grf
