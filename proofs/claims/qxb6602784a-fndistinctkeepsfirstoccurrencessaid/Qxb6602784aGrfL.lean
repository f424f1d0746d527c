import Derived.Test.Qxb6602784aGrfW
namespace Go.Proofs.Qxb6602784a.grf
open Go.ChangeShapes Go.WideShapes Go.ChangeAt Go.RowKit
set_option linter.unusedSimpArgs false
set_option linter.unusedVariables false

/-- It fell out ahead of the work: the label list is too long. -/
theorem law3_long (b off len cap : Nat) (ls : List ByteArray) (hl : len ≤ 9223372036854775807) (h2 : 65536 < len) (w : World) (hc : ∀ i, i < len → w.cell? ⟨b, off + i, none⟩ = some (.string (ls.getD i ByteArray.empty))) (hs : ∀ i, (ls.getD i ByteArray.empty).size ≤ 9223372036854775807) :
    Calls Try.prog 3 #[.slice (some ⟨b, off, none⟩) len cap] w fun e w' => e = .returned (.bool true) ∧ Below w.heap.size w w' := by
  have HC := hide (zz11_some b off len cap ls hl w hc hs)
  clear hc hs
  go_enter Try.func3, Try.ntmps3
  go_wp2_with fail
  refine HC.out.mono ?_
  rintro e w' ⟨⟨r, rfl⟩, rfl⟩
  cases r with
  | false =>
    go_wp2
    go_ret
    exact ⟨rfl, Below.refl _ _⟩
  | true =>
    go_wp2
    go_ret
    exact ⟨rfl, Below.refl _ _⟩

set_option maxHeartbeats 1000000 in
theorem law3_some (b off len cap : Nat) (ls : List ByteArray) (h1 : 1 ≤ len) (h2 : len ≤ 65536) (hn : ls.length = len) (w : World) (hb : b < w.heap.size) (hc : ∀ i, i < len → w.cell? ⟨b, off + i, none⟩ = some (.string (ls.getD i ByteArray.empty))) (hs : ∀ i, (ls.getD i ByteArray.empty).size ≤ maxLen) :
    Calls Try.prog 3 #[.slice (some ⟨b, off, none⟩) len cap] w fun e w' => e = .returned (.bool true) ∧ Below w.heap.size w w' := by
  have HZ := hide (zz11_some b off len cap ls (by omega) w hc (fun i => by have := hs i; unfold maxLen at this; exact this))
  have HSB := hide (sb_some b off len cap ls (by omega) w hc (fun i => by have := hs i; unfold maxLen at this; exact this))
  have hmk := fun w => run_make_row' (P := Try.prog) 22 9 (.string ByteArray.empty) 16 Try.underlying22 info9 rfl .i64 .i64 len (by omega) (by omega) w
  have hnn := isn22 (some ⟨b, off, none⟩) len cap
  have hg : Blk (w.alloc (.cells (madeCells #[.string ByteArray.empty] len) 9)) w.heap.size 9 (strs (List.replicate len ByteArray.empty)) := by
    have := Blk.new w (madeCells #[.string ByteArray.empty] len) 9
    rw [made_strs] at this
    exact this
  have hcp := copy_all (w.alloc (.cells (madeCells #[.string ByteArray.empty] len) 9)) w.heap.size len ⟨b, off, none⟩ len cap ls hn hg (fun i hi => by
    rw [add_plain, World.cell?_alloc_lt _ _ _ (by exact hb)]
    exact hc i hi)
  have HG := hide hg
  have HN := hide hn
  have HS := hide hs
  clear hc hs hg hn
  have e0 : ((len : Int) == 0) = false := by simp; omega
  go_enter Try.func3, Try.ntmps3
  go_wp2_with fail
  refine HZ.out.mono ?_
  rintro e w' ⟨⟨r, rfl⟩, rfl⟩
  cases r with
  | false =>
    go_wp2
    go_ret
    exact ⟨rfl, Below.refl _ _⟩
  | true =>
    go_wp2_with fail
    refine HSB.out.mono ?_
    rintro e w' ⟨⟨r, rfl⟩, rfl⟩
    by_cases hr : 1048576 < r
    · go_wp2
      go_ret
      exact ⟨rfl, Below.refl _ _⟩
    · have HBL := hide (HG.out.setRow (strs ls).toArray)
      have HBE : Hid (Below w.heap.size w ((w.alloc (.cells (madeCells #[.string ByteArray.empty] len) 9)).setRow w.heap.size (strs ls).toArray)) := below_setRow ((Below.refl _ _).alloc (Nat.le_refl _) _) (Nat.le_refl _) _
      clear HZ HSB
      go_wp2_with fail
      refine (zz_dist_some _ (firsts ls len) _ (dist_some w.heap.size len len ls HN.out h1 h2 (Nat.le_refl _) h2 HS.out _ HBL.out)).mono ?_
      rintro e w3 ⟨v, rfl, hhas, hbel⟩
      have z1 : w.heap.size < w3.heap.size := by have := hbel.size; simp at this; omega
      have HB3 := hide (HBL.out.below hbel (by simp))
      have HBE3 := hide (HBE.out.trans (hbel.mono (by simp)))
      have hh := hhas
      obtain ⟨g, gc, rfl, hglt, hgc⟩ := hhas
      have HH := hide hh
      have hnil := isnil22 (some ⟨g, 0, none⟩) (firsts ls len).length gc
      have flen := firsts_len ls len
      clear hbel hh hgc HBL HBE hcp hmk
      go_wp2_with fail
      refine (occ_some w.heap.size len len ls HN.out h1 h2 w3 HB3.out).mono ?_
      rintro e w4 ⟨v, rfl, hhas4, hbel4⟩
      have HH4 := hide (has_below HH.out hbel4)
      have HBE4 := hide (HBE3.out.trans (hbel4.mono (Nat.le_of_lt z1)))
      obtain ⟨g4, gc4, rfl, hglt4, hgc4⟩ := hhas4
      have HC4 := hide hgc4
      have HC3 : Hid (∀ i, i < (firsts ls len).length → w4.cell? ⟨g, i, none⟩ = some (.string ((firsts ls len).getD i ByteArray.empty))) := by
        obtain ⟨g', gc', a1, a2, a3⟩ := HH4.out
        simp at a1
        obtain ⟨rfl, rfl⟩ := a1
        exact a3
      clear hgc4 hbel4 HH HH4
      go_wp2_with fail
      refine (same_strs g g4 gc gc4 (firsts ls len) (by omega) w4 HC3.out HC4.out).mono ?_
      rintro e w5 ⟨rfl, m, rfl⟩
      go_wp2
      go_ret
      exact ⟨rfl, HBE4.out.trans ⟨rfl, rfl, rfl, Nat.le_refl _, fun _ _ => rfl⟩⟩

/-- No label at all, the slice nil. -/
theorem law3_nil (w : World) : Calls Try.prog 3 #[.slice none 0 0] w fun e w' => e = .returned (.bool true) ∧ Below w.heap.size w w' := by
  have hnn := isn22 none 0 0
  have hnil := isnil22 none 0 0
  go_enter Try.func3, Try.ntmps3
  go_wp2_with fail
  refine (zz11_zero none 0 w).mono ?_
  rintro e w' ⟨⟨r, rfl⟩, rfl⟩
  cases r with
  | false =>
    go_wp2
    go_ret
    exact ⟨rfl, Below.refl _ _⟩
  | true =>
    go_wp2_with fail
    refine (sb_zero none 0 w).mono ?_
    rintro e w' ⟨⟨r, rfl⟩, rfl⟩
    by_cases hr : 1048576 < r
    · go_wp2
      go_ret
      exact ⟨rfl, Below.refl _ _⟩
    · go_wp2_with fail
      refine (zz_dist_none none 0 w).mono ?_
      rintro e w' ⟨rfl, rfl⟩
      go_wp2
      go_ret
      exact ⟨rfl, Below.refl _ _⟩

/-- No label at all, the slice not nil. -/
theorem law3_empty (x : Addr) (cap : Nat) (w : World) : Calls Try.prog 3 #[.slice (some x) 0 cap] w fun e w' => e = .returned (.bool true) ∧ Below w.heap.size w w' := by
  have hnn := isn22 (some x) 0 cap
  have hnil := isnil22 none 0 0
  have hmk : ∀ w : World, Sem.run Try.prog (Instr.makeSlice 22 (.int .i64 0) (.int .i64 0)) w = .ok (.slice (some ⟨w.heap.size, 0, none⟩) 0 0) (w.alloc (.cells (madeCells #[.string ByteArray.empty] 0) 9)) :=
    fun w => run_make_row' (P := Try.prog) 22 9 (.string ByteArray.empty) 16 Try.underlying22 info9 rfl .i64 .i64 0 (by omega) (by omega) w
  have hg : Blk (w.alloc (.cells (madeCells #[.string ByteArray.empty] 0) 9)) w.heap.size 9 (strs (List.replicate 0 ByteArray.empty)) := by
    have := Blk.new w (madeCells #[.string ByteArray.empty] 0) 9
    rw [made_strs] at this
    exact this
  have hcp := copy_all (w.alloc (.cells (madeCells #[.string ByteArray.empty] 0) 9)) w.heap.size 0 x 0 cap [] rfl hg (fun i hi => by omega)
  have HBE : Hid (Below w.heap.size w ((w.alloc (.cells (madeCells #[.string ByteArray.empty] 0) 9)).setRow w.heap.size (strs []).toArray)) := below_setRow ((Below.refl _ _).alloc (Nat.le_refl _) _) (Nat.le_refl _) _
  clear hg
  go_enter Try.func3, Try.ntmps3
  go_wp2_with fail
  refine (zz11_zero (some x) cap w).mono ?_
  rintro e w' ⟨⟨r, rfl⟩, rfl⟩
  cases r with
  | false =>
    go_wp2
    go_ret
    exact ⟨rfl, Below.refl _ _⟩
  | true =>
    go_wp2_with fail
    refine (sb_zero (some x) cap w).mono ?_
    rintro e w' ⟨⟨r, rfl⟩, rfl⟩
    by_cases hr : 1048576 < r
    · go_wp2
      go_ret
      exact ⟨rfl, Below.refl _ _⟩
    · go_wp2_with fail
      refine (zz_dist_none _ 0 _).mono ?_
      rintro e w' ⟨rfl, rfl⟩
      go_wp2
      go_ret
      exact ⟨rfl, HBE.out⟩

theorem law3 (a : Option Addr) (len cap : Nat) (ls : List ByteArray) (w : World) (h : SRow w a len cap ls) :
    Calls Try.prog 3 #[.slice a len cap] w fun e w' => e = .returned (.bool true) ∧ Below w.heap.size w w' := by
  rcases h with ⟨rfl, rfl, rfl, rfl⟩ | ⟨x, rfl, h1, h2, h3, h4, h5⟩
  · exact law3_nil w
  · by_cases h0 : len = 0
    · subst h0
      exact law3_empty x cap w
    · obtain ⟨b, off, spot⟩ := x
      have hsp : spot = none := by simpa [Addr.add] using World.cell?_spot (h4 0 (by omega))
      subst hsp
      have hlt : b < w.heap.size := by simpa [Addr.add] using World.block_lt_of_cell? w _ (h4 0 (by omega))
      have hc : ∀ i, i < len → w.cell? ⟨b, off + i, none⟩ = some (.string (ls.getD i ByteArray.empty)) := fun i hi => by
        have := h4 i hi
        rw [add_plain] at this
        exact this
      have hs := getD_size h5
      unfold maxLen at h2
      by_cases hl : 65536 < len
      · exact law3_long b off len cap ls (by omega) hl w hc (fun i => by have := hs i; unfold maxLen at this; exact this)
      · exact law3_some b off len cap ls (by omega) (by omega) h3 w hlt hc hs
end Go.Proofs.Qxb6602784a.grf
