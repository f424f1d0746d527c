import Derived.Test.Qxb6602784aRows
import Derived.ProofKit
import Derived.Test.Qxb6602784aMem
import Derived.Test.Qxb6602784aSortP
import Derived.Deep.QuietTactic
import Derived.BigQuiet
import Derived.Lib.SliceRun
import Derived.WalkSpells
import Derived.Laws.CopyOwn
namespace Go.Proofs.Qxb6602784a.grf
open Go.ChangeShapes Go.WideShapes Go.ChangeAt Go.RowKit
set_option linter.unusedSimpArgs false
set_option linter.unusedVariables false

/-- It answers a bool; an int. -/
def AnsB (e : Ending) : Prop := ∃ r : Bool, e = .returned (.bool r)
def AnsI (e : Ending) : Prop := ∃ r : Int, e = .returned (.int .i64 r)

theorem info9 : (Try.prog.info? 9).map (fun i => (i.zero, i.size, i.bytes)) = some (some (.string ByteArray.empty), 1, 16) := by kernel_rfl
theorem isnil22 (a : Option Addr) (n c : Nat) : ∀ w : World, Sem.run Try.prog (binOp .eql 22 (.slice a n c) (.slice none 0 0)) w = .ok (.bool a.isNone) w :=
  fun w => Lib.run_eql_slice_nil w 22 9 a n c 0 0 Try.underlying22

/-! ### zzBytes (function 19): it answers, and turns nothing -/
theorem zz19_zero (a : Option Addr) (cap : Nat) (w : World) : Calls Try.prog 19 #[.slice a 0 cap] w fun e w' => AnsB e ∧ w = w' := by
  go_enter Try.func19, Try.ntmps19
  go_wp2
  refine wp_loop_rounds 1 ?_
  rw [rounds_succ]
  go_wp2
  go_ret
  first | exact ⟨⟨_, rfl⟩, rfl⟩ | exact ⟨_, rfl⟩

theorem zz19_some (b off len cap : Nat) (ls : List ByteArray) (hl : len ≤ 9223372036854775807) (w : World) (hc : ∀ i, i < len → w.cell? ⟨b, off + i, none⟩ = some (.string (ls.getD i ByteArray.empty))) (hs : ∀ i, (ls.getD i ByteArray.empty).size ≤ 9223372036854775807) :
    Calls Try.prog 19 #[.slice (some ⟨b, off, none⟩) len cap] w fun e w' => AnsB e ∧ w = w' := by
  have HC := hide hc
  have HS := hide hs
  clear hc hs
  by_cases c0 : 1048576 < len
  · go_enter Try.func19, Try.ntmps19
    go_wp2
    go_ret
    first | exact ⟨⟨_, rfl⟩, rfl⟩ | exact ⟨_, rfl⟩
  · go_enter Try.func19, Try.ntmps19
    go_wp2
    go_loop [3, 4] (fun z i => ∃ k x : Nat, k ≤ len ∧ x ≤ 1048576 ∧ i = .int .i64 k ∧ z = .int .i64 x) (fun _ i => len - (intOf i).toNat)
    case atStart => exact ⟨0, len, by omega, by omega, rfl, rfl⟩
    case round =>
      obtain ⟨k, x, hk, hx, rfl, rfl⟩ := hrel
      by_cases hlt : k < len
      · obtain ⟨s, hse⟩ : ∃ s, s = ls.getD k ByteArray.empty := ⟨_, rfl⟩
        have q1 : w.cell? ⟨b, off + k, none⟩ = some (.string s) := by rw [HC.out k hlt, hse]
        have hsz : s.size ≤ 9223372036854775807 := by rw [hse]; exact HS.out k
        clear hse
        by_cases c1 : 1048576 < s.size
        · go_wp2
          go_ret
          first | exact ⟨⟨_, rfl⟩, rfl⟩ | exact ⟨_, rfl⟩
        · by_cases c2 : 1048576 < x + s.size
          · go_wp2
            go_ret
            first | exact ⟨⟨_, rfl⟩, rfl⟩ | exact ⟨_, rfl⟩
          · go_wp2
            go_round
            case rel => exact ⟨k + 1, x + s.size, by omega, by omega, by go_num, by go_num⟩
            case measure => simp [intOf]; omega
      · go_wp2
        go_ret
        first | exact ⟨⟨_, rfl⟩, rfl⟩ | exact ⟨_, rfl⟩

/-! ### zzBytes (function 11): it answers, and turns nothing -/
theorem zz11_zero (a : Option Addr) (cap : Nat) (w : World) : Calls Try.prog 11 #[.slice a 0 cap] w fun e w' => AnsB e ∧ w = w' := by
  go_enter Try.func11, Try.ntmps11
  go_wp2
  refine wp_loop_rounds 1 ?_
  rw [rounds_succ]
  go_wp2
  go_ret
  first | exact ⟨⟨_, rfl⟩, rfl⟩ | exact ⟨_, rfl⟩

theorem zz11_some (b off len cap : Nat) (ls : List ByteArray) (hl : len ≤ 9223372036854775807) (w : World) (hc : ∀ i, i < len → w.cell? ⟨b, off + i, none⟩ = some (.string (ls.getD i ByteArray.empty))) (hs : ∀ i, (ls.getD i ByteArray.empty).size ≤ 9223372036854775807) :
    Calls Try.prog 11 #[.slice (some ⟨b, off, none⟩) len cap] w fun e w' => AnsB e ∧ w = w' := by
  have HC := hide hc
  have HS := hide hs
  clear hc hs
  by_cases c0 : 1048576 < len
  · go_enter Try.func11, Try.ntmps11
    go_wp2
    go_ret
    first | exact ⟨⟨_, rfl⟩, rfl⟩ | exact ⟨_, rfl⟩
  · go_enter Try.func11, Try.ntmps11
    go_wp2
    go_loop [3, 4] (fun z i => ∃ k x : Nat, k ≤ len ∧ x ≤ 1048576 ∧ i = .int .i64 k ∧ z = .int .i64 x) (fun _ i => len - (intOf i).toNat)
    case atStart => exact ⟨0, len, by omega, by omega, rfl, rfl⟩
    case round =>
      obtain ⟨k, x, hk, hx, rfl, rfl⟩ := hrel
      by_cases hlt : k < len
      · obtain ⟨s, hse⟩ : ∃ s, s = ls.getD k ByteArray.empty := ⟨_, rfl⟩
        have q1 : w.cell? ⟨b, off + k, none⟩ = some (.string s) := by rw [HC.out k hlt, hse]
        have hsz : s.size ≤ 9223372036854775807 := by rw [hse]; exact HS.out k
        clear hse
        by_cases c1 : 1048576 < s.size
        · go_wp2
          go_ret
          first | exact ⟨⟨_, rfl⟩, rfl⟩ | exact ⟨_, rfl⟩
        · by_cases c2 : 1048576 < x + s.size
          · go_wp2
            go_ret
            first | exact ⟨⟨_, rfl⟩, rfl⟩ | exact ⟨_, rfl⟩
          · go_wp2
            go_round
            case rel => exact ⟨k + 1, x + s.size, by omega, by omega, by go_num, by go_num⟩
            case measure => simp [intOf]; omega
      · go_wp2
        go_ret
        first | exact ⟨⟨_, rfl⟩, rfl⟩ | exact ⟨_, rfl⟩

/-! ### stringBytes: it answers, and turns nothing -/
theorem sb_zero (a : Option Addr) (cap : Nat) (w : World) : Calls Try.prog 12 #[.slice a 0 cap] w fun e w' => AnsI e ∧ w = w' := by
  go_enter Try.func12, Try.ntmps12
  go_wp2
  refine wp_loop_rounds 1 ?_
  rw [rounds_succ]
  go_wp2
  go_ret
  first | exact ⟨⟨_, rfl⟩, rfl⟩ | exact ⟨_, rfl⟩

theorem sb_some (b off len cap : Nat) (ls : List ByteArray) (hl : len ≤ 9223372036854775807) (w : World) (hc : ∀ i, i < len → w.cell? ⟨b, off + i, none⟩ = some (.string (ls.getD i ByteArray.empty))) (hs : ∀ i, (ls.getD i ByteArray.empty).size ≤ 9223372036854775807) :
    Calls Try.prog 12 #[.slice (some ⟨b, off, none⟩) len cap] w fun e w' => AnsI e ∧ w = w' := by
  have HC := hide hc
  have HS := hide hs
  clear hc hs
  go_enter Try.func12, Try.ntmps12
  go_wp2
  go_loop [3, 4] (fun z i => ∃ k x : Nat, k ≤ len ∧ x ≤ 1048576 ∧ i = .int .i64 k ∧ z = .int .i64 x) (fun _ i => len - (intOf i).toNat)
  case atStart => exact ⟨0, 0, by omega, by omega, rfl, rfl⟩
  case round =>
    obtain ⟨k, x, hk, hx, rfl, rfl⟩ := hrel
    by_cases hlt : k < len
    · obtain ⟨s, hse⟩ : ∃ s, s = ls.getD k ByteArray.empty := ⟨_, rfl⟩
      have q1 : w.cell? ⟨b, off + k, none⟩ = some (.string s) := by rw [HC.out k hlt, hse]
      have hsz : s.size ≤ 9223372036854775807 := by rw [hse]; exact HS.out k
      clear hse
      by_cases c1 : 1048576 < s.size
      · go_wp2
        go_ret
        first | exact ⟨⟨_, rfl⟩, rfl⟩ | exact ⟨_, rfl⟩
      · by_cases c2 : 1048576 < x + (16 + s.size)
        · go_wp2
          go_ret
          first | exact ⟨⟨_, rfl⟩, rfl⟩ | exact ⟨_, rfl⟩
        · go_wp2
          go_round
          case rel => exact ⟨k + 1, x + (16 + s.size), by omega, by omega, by go_num, by go_num⟩
          case measure => simp [intOf]; omega
    · go_wp2
      go_ret
      first | exact ⟨⟨_, rfl⟩, rfl⟩ | exact ⟨_, rfl⟩
end Go.Proofs.Qxb6602784a.grf
