import Derived.Test.Qxb6602784aRebC
import Derived.LaidEqlPtr
namespace Go.Proofs.Qxb6602784a.grf
open Go.ChangeShapes Go.WideShapes Go.ChangeAt Go.RowKit
set_option linter.unusedSimpArgs false
set_option linter.unusedVariables false

theorem info61 : (Try.prog.info? 61).map (·.size) = some 3 := by kernel_rfl
theorem info61' : ∃ j, Try.prog.info? 61 = some j ∧ j.size ≠ 0 := by
  have h := info61
  cases hq : Try.prog.info? 61 with
  | none => rw [hq] at h; cases h
  | some j => rw [hq] at h; simp at h; exact ⟨j, rfl, by omega⟩

theorem ptr_same (d : Nat) (w : World) : Sem.run Try.prog (binOp .eql 40 (.pointer (some ⟨d, 0, none⟩)) (.pointer (some ⟨d, 0, none⟩))) w = .ok (.bool true) w := by
  obtain ⟨j, hj, _⟩ := info61'
  exact run_eql_ptr_same w _ Try.underlying40 hj

theorem ptr_nsame (d : Nat) (w : World) : Sem.run Try.prog (binOp .neq 40 (.pointer (some ⟨d, 0, none⟩)) (.pointer (some ⟨d, 0, none⟩))) w = .ok (.bool false) w := by
  obtain ⟨j, hj, _⟩ := info61'
  have h : ∀ n : Nat, (Op.equalIn (n + 1) 40 (.pointer (some ⟨d, 0, none⟩)) (.pointer (some ⟨d, 0, none⟩))).run Try.prog w = .ok true w := fun n => by
    simp [Op.equalIn, run_underlying Try.underlying40, sizeOf, typeInfo, hj, run_sameAddr_same]
  show (binOp .neq 40 (.pointer (some ⟨d, 0, none⟩)) (.pointer (some ⟨d, 0, none⟩))).run Try.prog w = _
  simp only [binOp]
  simp [Op.equal, Op.maxDepth, h 9999]

theorem ptr_other {d x : Nat} {w : World} {t t' : TypeId} {c c' : List Value} (hd : Blk w d t c) (hx : Blk w x t' c') (hne : d ≠ x) : Sem.run Try.prog (binOp .neq 40 (.pointer (some ⟨d, 0, none⟩)) (.pointer (some ⟨x, 0, none⟩))) w = .ok (.bool true) w := by
  obtain ⟨j, hj, hs⟩ := info61'
  have h : ∀ n : Nat, (Op.equalIn (n + 1) 40 (.pointer (some ⟨d, 0, none⟩)) (.pointer (some ⟨x, 0, none⟩))).run Try.prog w = .ok false w := fun n => by
    simp [Op.equalIn, run_underlying Try.underlying40, sizeOf, typeInfo, hj, hs, run_sameAddr_other w (show (⟨d, 0, none⟩ : Addr) ≠ ⟨x, 0, none⟩ by simp [hne]) hd hx]
  show (binOp .neq 40 (.pointer (some ⟨d, 0, none⟩)) (.pointer (some ⟨x, 0, none⟩))).run Try.prog w = _
  simp only [binOp]
  simp [Op.equal, Op.maxDepth, h 9999]

theorem fresh_node {d x y : Nat} {w : World} {t t' t'' : TypeId} {c c' c'' : List Value} (hd : Blk w d t c) (hx : Blk w x t' c') (hy : Blk w y t'' c'') (nx : d ≠ x) (ny : d ≠ y) : Calls Try.prog 36 #[.pointer (some ⟨d, 0, none⟩), .pointer (some ⟨x, 0, none⟩), .pointer (some ⟨y, 0, none⟩)] w fun e w' => e = .returned (.bool true) ∧ w = w' := by
  have r1 := ptr_other hd hx nx
  have r2 := ptr_other hd hy ny
  clear hd hx hy
  go_enter Try.func36, Try.ntmps36
  go_wp2
  go_ret
  exact ⟨rfl, rfl⟩
end Go.Proofs.Qxb6602784a.grf
