import Derived.Test.Qxb6602784aGrfO
namespace Go.Proofs.Qxb6602784a.grf
open Go.ChangeShapes Go.WideShapes Go.ChangeAt Go.RowKit Go.Maps
set_option linter.unusedSimpArgs false
set_option linter.unusedVariables false
set_option maxHeartbeats 1000000 in
theorem occ_some (bl n cap : Nat) (ls : List ByteArray) (hn : ls.length = n) (h1 : 1 ≤ n) (h2 : n ≤ 65536) (w : World) (hl : Blk w bl 9 (strs ls)) :
    Calls Try.prog 15 #[.slice (some ⟨bl, 0, none⟩) n cap] w fun e w' => ∃ v, e = .returned v ∧ Has w' v (firsts ls n) ∧ Below w.heap.size w w' := by
  obtain ⟨i0, hi, hz0, hz1, hz2⟩ := info_parts info9
  have hmk := fun w => run_make_row' (P := Try.prog) 59 4 (.bool false) 1 Try.underlying59 info4 rfl .i64 .i64 n (by omega) (by omega) w
  have hbl := hl.lt
  have HL := hide hl
  have HN := hide hn
  clear hl hn
  go_enter Try.func15, Try.ntmps15
  go_wp2_with fail
  refine (sorted_some bl n cap ls HN.out h1 h2 w HL.out).mono ?_
  rintro e w1 ⟨bA, A, rfl, hbA, hA, hAl, hRun, hbel⟩
  have hAlt := hA.lt
  have hFM : FM w (w1.alloc (.cells (madeCells #[.bool false] n) 4)) bl ls bA w1.heap.size A (List.replicate n false) := by
    have hk := Blk.new w1 (madeCells #[.bool false] n) 4
    rw [made_bools] at hk
    exact ⟨(HL.out.below hbel hbl).alloc _, hA.alloc _, hk, hbA, hbel.size, by omega, hbel.alloc hbel.size _⟩
  have hrun' : Run ls A 0 A.length := by rw [hAl]; exact hRun
  have HFM := hide hFM
  have HR := hide hrun'
  have HAL := hide hAl
  have HBEL := hide hbel
  have zz1 := hbel.size
  clear hA hAl hRun hbel hFM hrun'
  go_wp2
  go_loopw [6] (fun i wr => ∃ (k : Nat) (K : List Bool), k ≤ n ∧ i = .int .i64 k ∧ KeepIs ls A K k n ∧ FM w wr bl ls bA w1.heap.size A K) (fun i _ => n - (intOf i).toNat)
  case atStart => exact ⟨0, _, Nat.zero_le _, rfl, keepIs_start ls A n, HFM.out⟩
  case round =>
    obtain ⟨k, K, hk, rfl, hK, hM⟩ := hrel
    have HK := hide hK
    have HM := hide hM
    clear hK hM
    by_cases hkn : k < n
    · obtain ⟨x, hx⟩ : ∃ x, x = A.getD k 0 := ⟨_, rfl⟩
      obtain ⟨y, hy⟩ : ∃ y, y = A.getD (k - 1) 0 := ⟨_, rfl⟩
      have bx : x < n := by have := run_lt HR.out k (by have := HAL.out; omega); have := HAL.out; omega
      have by' : y < n := by have := run_lt HR.out (k - 1) (by have := HAL.out; omega); have := HAL.out; omega
      obtain ⟨s, hs⟩ : ∃ s, s = lab ls x := ⟨_, rfl⟩
      obtain ⟨t, ht⟩ : ∃ s, s = lab ls y := ⟨_, rfl⟩
      have q1 : wr.cell? ⟨bA, k, none⟩ = some (.int .i64 (x : Int)) := by rw [HM.out.ha.nat k (by have := HAL.out; omega), hx]
      have q2 : wr.cell? ⟨bA, k - 1, none⟩ = some (.int .i64 (y : Int)) := by rw [HM.out.ha.nat (k - 1) (by have := HAL.out; omega), hy]
      have q3 : wr.cell? ⟨bl, x, none⟩ = some (.string s) := by rw [HM.out.hl.str x (by have := HN.out; omega), hs]; rfl
      have q4 : wr.cell? ⟨bl, y, none⟩ = some (.string t) := by rw [HM.out.hl.str y (by have := HN.out; omega), ht]; rfl
      obtain ⟨c5, q5⟩ : ∃ c, wr.cell? ⟨w1.heap.size, x, none⟩ = some (.bool c) := ⟨_, HM.out.hk.boolAt x (by have := HK.out.1; omega)⟩
      have q6 := HM.out.hk.frozen x
      have i1 : (k : Int) < (n : Int) := by omega
      have i2 : (k : Int) - 1 < (n : Int) := by omega
      have i3 : (x : Int) < (n : Int) := by omega
      have i4 : (y : Int) < (n : Int) := by omega
      have hd := head_iff HR.out (by rw [HAL.out, HN.out]) k (by have := HAL.out; omega)
      rw [← hx, ← hy, ← hs, ← ht] at hd
      by_cases h0 : k = 0
      · have e0 : ((k : Int) == 0) = true := by simp [h0]
        have HK' := hide (keepIs_yes HK.out hx.symm bx (hd.2 (.inl h0)))
        clear hx hy hs ht hd h0
        go_wp2
        go_quiet (fail)
        have HM' := hide ((HM.out.drewN nq).setK hbl x true)
        go_wp2
        go_roundw
        case rel => exact ⟨k + 1, _, by omega, by go_num, HK'.out, HM'.out⟩
        case measure => simp [intOf]; omega
      · have e0 : ((k : Int) == 0) = false := by simp [h0]
        have hk1 : 1 ≤ k := by omega
        by_cases he : s.toList = t.toList
        · have heb : (!s.toList == t.toList) = false := by simp [he]
          have HK' := hide (keepIs_no HK.out hx.symm (by rw [hd]; rintro (h | h); exact h0 h; exact h (bytes_eq he)))
          clear hx hy hs ht hd h0 he
          go_wp2
          go_quiet (fail)
          go_wp2
          go_roundw
          case rel => exact ⟨k + 1, K, by omega, by go_num, HK'.out, HM.out.drewN _⟩
          case measure => simp [intOf]; omega
        · have heb : (!s.toList == t.toList) = true := by simp [he]
          have HK' := hide (keepIs_yes HK.out hx.symm bx (hd.2 (.inr (fun h => he (by rw [h])))))
          clear hx hy hs ht hd h0 he
          go_wp2
          go_quiet (fail)
          have HM' := hide ((HM.out.drewN nq).setK hbl x true)
          go_wp2
          go_roundw
          case rel => exact ⟨k + 1, _, by omega, by go_num, HK'.out, HM'.out⟩
          case measure => simp [intOf]; omega
    · have e4 : k = n := by omega
      have hend : ∀ i, i < n → K.getD i false = isFirst ls i := by
        have h5 := HK.out
        rw [e4] at h5
        exact keepIs_end h5 HR.out HAL.out
      have HE := hide hend
      have HKL := hide HK.out.1
      clear HK hend e4
      obtain ⟨wS, hwS⟩ : ∃ x, x = wr := ⟨_, rfl⟩
      subst hwS
      have zb := HM.out.bel.size
      go_wp2
      go_loopw [7, 8] (fun v i wr => ∃ k : Nat, k ≤ n ∧ i = .int .i64 k ∧ wr.ownsRow wS.heap.size 9 1 v (firsts ls k).length (strs (firsts ls k)) ∧ Below wS.heap.size wS wr) (fun _ i _ => n - (intOf i).toNat)
      case atStart => exact ⟨0, Nat.zero_le _, rfl, World.ownsRow_nil _ _ _ _, Below.refl _ _⟩
      case round =>
        obtain ⟨j, hj, rfl, hrow, hbel⟩ := hrel
        have HRow := hide hrow
        have HBel := hide hbel
        clear hrow hbel
        by_cases hjn : j < n
        · obtain ⟨s, hs⟩ : ∃ s, s = lab ls j := ⟨_, rfl⟩
          obtain ⟨c, hc⟩ : ∃ c, c = isFirst ls j := ⟨_, rfl⟩
          have q1 : wr.cell? ⟨bl, j, none⟩ = some (.string s) := by rw [HBel.out.cell (show bl < wS.heap.size by omega), HM.out.hl.str j (by have := HN.out; omega), hs]; rfl
          have q2 : wr.cell? ⟨w1.heap.size, j, none⟩ = some (.bool c) := by rw [HBel.out.cell HM.out.hk.lt, HM.out.hk.boolAt j (by have := HKL.out; omega), HE.out j hjn, hc]
          have i1 : (j : Int) < (n : Int) := by omega
          have fl := firsts_len ls j
          cases c with
          | false =>
            have HF : Hid (firsts ls (j + 1) = firsts ls j) := by
              unfold Hid
              rw [firsts, ← hc]
              simp
            clear hs hc
            go_wp2
            go_roundw
            case rel => exact ⟨j + 1, by omega, by go_num, by rw [HF.out]; exact HRow.out, HBel.out⟩
            case measure => simp [intOf]; omega
          | true =>
            have HF : Hid (firsts ls (j + 1) = firsts ls j ++ [s]) := by
              unfold Hid
              rw [firsts, ← hc, hs]
              simp
            clear hs hc
            go_wp2_with (at_builtin; refine wpList_append_own _ rfl _ _ 22 rfl wS.heap.size 9 i0 (.string ByteArray.empty) 1 16 Try.underlying22 hi hz0 hz1 hz2 rfl (by decide) _ _ _ rfl (HRow.out.alloc _) ⟨wr.heap.size, 0, none⟩ 1 1 [.string s] rfl rfl (cell_one_new _ _ _) (one_str s) (by unfold maxLen; omega) (by omega) (by have := HBel.out.size; simp; omega) ?_; intro v3 w3 hown3 hgrow3 hnil3)
            go_roundw
            case rel =>
              refine ⟨j + 1, by omega, by go_num, row_snoc hown3 HF.out, ?_⟩
              refine ((HBel.out.alloc HBel.out.size _).grown hgrow3 ?_ ?_)
              · have := HBel.out.size; simp; omega
              · intro i hi
                have := (HRow.out.lt i hi).1
                omega
            case measure => simp [intOf]; omega
        · have e4 : j = n := by omega
          have h5 := HRow.out
          rw [e4] at h5
          have HH := hide (has_of_own h5 (firsts_pos ls n h1))
          clear h5 e4
          go_wp2
          go_ret
          exact ⟨_, rfl, HH.out, HM.out.bel.trans (HBel.out.mono zb)⟩
end Go.Proofs.Qxb6602784a.grf
