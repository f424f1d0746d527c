import Derived.Test.Qxb6602784aGrfQ
import Derived.Maps.AppendAt
namespace Go.Proofs.Qxb6602784a.grf
open Go.ChangeShapes Go.WideShapes Go.ChangeAt Go.RowKit Go.Maps
set_option linter.unusedSimpArgs false
set_option linter.unusedVariables false

/-! ### The labels that no earlier label equals -/
def isFirst (ls : List ByteArray) (k : Nat) : Bool := (List.range k).all (fun j => !((lab ls j).toList == (lab ls k).toList))
def firsts (ls : List ByteArray) : Nat → List ByteArray
  | 0 => []
  | k + 1 => firsts ls k ++ (if isFirst ls k then [lab ls k] else [])

theorem isFirst_iff (ls : List ByteArray) (k : Nat) : isFirst ls k = true ↔ ∀ j, j < k → lab ls j ≠ lab ls k := by
  unfold isFirst
  simp only [List.all_eq_true, List.mem_range, Bool.not_eq_true', beq_eq_false_iff_ne]
  constructor
  · intro h j hj e
    exact h j hj (by rw [e])
  · intro h j hj e
    exact h j hj (bytes_eq e)

theorem firsts_len (ls : List ByteArray) (k : Nat) : (firsts ls k).length ≤ k := by
  induction k with
  | zero => simp [firsts]
  | succ k ih => unfold firsts; split <;> simp <;> omega

theorem firsts_pos (ls : List ByteArray) (k : Nat) (h : 1 ≤ k) : 1 ≤ (firsts ls k).length := by
  induction k with
  | zero => omega
  | succ k ih =>
    by_cases c : k = 0
    · subst c
      have : isFirst ls 0 = true := by simp [isFirst]
      simp [firsts, this]
    · have := ih (by omega)
      unfold firsts
      simp
      omega

/-- Where no label repeats, all are kept. -/
theorem firsts_all (ls : List ByteArray) (h : ¬ Dup ls) (k : Nat) (hk : k ≤ ls.length) : firsts ls k = ls.take k := by
  induction k with
  | zero => simp [firsts]
  | succ k ih =>
    have hf : isFirst ls k = true := (isFirst_iff ls k).2 fun j hj e => h ⟨j, k, hj, by omega, e⟩
    unfold firsts
    rw [hf, ih (by omega), List.take_succ_eq_append_getElem (by omega)]
    simp [lab, show k < ls.length by omega]

theorem mem_take_iff (ls : List ByteArray) (k : Nat) (hk : k < ls.length) : lab ls k ∈ ls.take k ↔ ¬ isFirst ls k = true := by
  rw [isFirst_iff]
  constructor
  · intro h hn
    obtain ⟨j, hj, he⟩ := List.getElem_of_mem h
    have hj' : j < k := by simp at hj; omega
    refine hn j hj' ?_
    rw [← he]
    simp [lab, show j < ls.length by omega]
  · intro h
    apply Classical.byContradiction
    intro hn
    apply h
    intro j hj e
    apply hn
    rw [← e]
    have hj' : j < (ls.take k).length := by simp; omega
    have := List.getElem_mem hj'
    simpa [lab, show j < ls.length by omega] using this

/-! ### A slice of strings as it reads -/
def Has (w : World) (v : Value) (out : List ByteArray) : Prop :=
  ∃ g cap, v = .slice (some ⟨g, 0, none⟩) out.length cap ∧ g < w.heap.size ∧ ∀ i, i < out.length → w.cell? ⟨g, i, none⟩ = some (.string (out.getD i ByteArray.empty))

theorem has_below {w w' : World} {v : Value} {out : List ByteArray} (h : Has w v out) (hb : Below w.heap.size w w') : Has w' v out := by
  obtain ⟨g, cap, h1, h2, h3⟩ := h
  exact ⟨g, cap, h1, Nat.lt_of_lt_of_le h2 hb.size, fun i hi => by rw [hb.cell h2]; exact h3 i hi⟩

theorem has_of_own {w : World} {base : Nat} {v : Value} {out : List ByteArray} (h : w.ownsRow base 9 1 v out.length (strs out)) (hp : 1 ≤ out.length) : Has w v out := by
  rcases h.2 with ⟨_, h0⟩ | ⟨g, cap, cur, hv, hg, hh, h1, h2, h3, h4⟩
  · omega
  · refine ⟨g, cap, hv, (Array.getElem?_eq_some_iff.1 hh).1, fun i hi => ?_⟩
    have hx := h
    rw [hv] at hx
    rw [hx.cellAt i (by omega)]
    exact strs_at out i hi

theorem one_str (s : ByteArray) : ∀ u ∈ [Value.string s], u.oneCell' = true := by
  intro u hu
  simp at hu
  subst hu
  rfl

theorem strs_snoc (xs : List ByteArray) (s : ByteArray) : strs xs ++ [.string s] = strs (xs ++ [s]) := by simp [strs]

theorem row_kept {w w' : World} {base b : Nat} {e : TypeId} {size : Nat} {v : Value} {n : Nat} {xs : List Value} (h : w.ownsRow base e size v n xs) (hg : w.grownBy w' (some b)) (hb : b < base) : w'.ownsRow base e size v n xs := by
  refine h.kept hg ?_
  cases hv : v.ownBlock with
  | none => exact .inl rfl
  | some k =>
    refine .inr ?_
    have := (h.lt k hv).1
    intro e
    cases e
    omega

theorem own_ne {w : World} {base b : Nat} {e : TypeId} {size : Nat} {v : Value} {n : Nat} {xs : List Value} (h : w.ownsRow base e size v n xs) (hb : b < base) : some b ≠ v.ownBlock := by
  intro e
  have := (h.lt b e.symm).1
  omega

theorem row_snoc {w : World} {base : Nat} {v : Value} {fs gs : List ByteArray} {s : ByteArray} (h : w.ownsRow base 9 1 v (fs.length + 1) (strs fs ++ [.string s])) (hg : gs = fs ++ [s]) : w.ownsRow base 9 1 v gs.length (strs gs) := by
  rw [hg, ← strs_snoc]
  simpa using h

/-! ### distinct -/
theorem keep_all (bl n cap : Nat) (ls : List ByteArray) (hn : ls.length = n) (h1 : 1 ≤ n) (h2 : n ≤ 65536) (hcap : n ≤ cap) (hcap2 : cap ≤ 65536) (hsz : ∀ i, (lab ls i).size ≤ maxLen) (hd : ¬ Dup ls) (w : World) (hl : Blk w bl 9 (strs ls)) :
    Calls Try.prog 44 #[.slice (some ⟨bl, 0, none⟩) n cap] w fun e w' => ∃ v, e = .returned v ∧ Has w' v (firsts ls n) ∧ Below w.heap.size w w' := by
  have h0 : ((n : Int) == 0) = false := by simp; omega
  have HL := hide hl
  have HN := hide hn
  have HR := hide (rep_some bl n cap ls hn h2 hcap hcap2 hsz w hl)
  have HD := hide hd
  clear hl hn hsz hd
  go_enter Try.func44, Try.ntmps44
  go_wp2_with fail
  refine HR.out.mono ?_
  rintro e w' ⟨⟨r, rfl, hr⟩, hb⟩
  have hrf : r = false := by
    cases r
    · rfl
    · exact absurd (hr.1 rfl) HD.out
  subst hrf
  have HB := hide hb
  clear hr hb
  go_wp2
  go_ret
  refine ⟨.slice (some ⟨bl, 0, none⟩) n n, rfl, ?_, HB.out⟩
  have hf : firsts ls n = ls := by rw [firsts_all ls HD.out n (by have := HN.out; omega), ← HN.out, List.take_length]
  rw [hf]
  have hb2 := HL.out.below HB.out HL.out.lt
  exact ⟨bl, _, by rw [HN.out], hb2.lt, fun i hi => hb2.str i hi⟩

set_option maxHeartbeats 1000000 in
theorem keep_first (bl n cap : Nat) (ls : List ByteArray) (hn : ls.length = n) (h1 : 1 ≤ n) (h2 : n ≤ 65536) (hcap : n ≤ cap) (hcap2 : cap ≤ 65536) (hsz : ∀ i, (lab ls i).size ≤ maxLen) (hd : Dup ls) (w : World) (hl : Blk w bl 9 (strs ls)) :
    Calls Try.prog 44 #[.slice (some ⟨bl, 0, none⟩) n cap] w fun e w' => ∃ v, e = .returned v ∧ Has w' v (firsts ls n) ∧ Below w.heap.size w w' := by
  have h0 : ((n : Int) == 0) = false := by simp; omega
  obtain ⟨i0, hi, hz0, hz1, hz2⟩ := info_parts info9
  have hbl := hl.lt
  have hmm := fun w => mkmap n w
  have HL := hide hl
  have HN := hide hn
  have HSZ := hide hsz
  have HR := hide (rep_some bl n cap ls hn h2 hcap hcap2 hsz w hl)
  have HD := hide hd
  clear hl hn hsz hd
  go_enter Try.func44, Try.ntmps44
  go_wp2_with fail
  refine HR.out.mono ?_
  rintro e w1 ⟨⟨r, rfl, hr⟩, hb⟩
  have hrf : r = true := by
    cases r
    · exact absurd (hr.2 HD.out) (by simp)
    · rfl
  subst hrf
  have HB := hide hb
  have z1 := hb.size
  clear hr hb HR
  go_wp2
  go_loopw [4, 24] (fun v i wr => ∃ k : Nat, ∃ D : DataW Unit, k ≤ n ∧ i = .int .i64 k ∧ wr.ownsRow (w1.heap.size + 1) 9 1 v (firsts ls k).length (strs (firsts ls k)) ∧ wr.ownsMap Try.prog 9 (plainElem Try.prog 4) w1.heap.size k D ∧ SetIs D (ls.take k) ∧ Below w1.heap.size w1 wr ∧ w1.heap.size + 1 ≤ wr.heap.size) (fun _ i _ => n - (intOf i).toNat)
  case atStart => exact ⟨0, .map [], by omega, rfl, World.ownsRow_nil _ _ _ _, World.ownsMap_made _ _ _ _, by simpa using setIs_empty, (Below.refl _ _).alloc (Nat.le_refl _) _, by simp⟩
  case round =>
    obtain ⟨k, D, hk, rfl, hrow, hown, hset, hbel, hws⟩ := hrel
    have HRow := hide hrow
    have HO := hide hown
    have HSet := hide hset
    have HBel := hide hbel
    clear hrow hown hset hbel
    by_cases hkn : k < n
    · obtain ⟨s, hs⟩ : ∃ s, s = lab ls k := ⟨_, rfl⟩
      have q1 : wr.cell? ⟨bl, k, none⟩ = some (.string s) := by rw [HBel.out.cell (show bl < w1.heap.size by omega), HB.out.cell hbl, HL.out.str k (by have := HN.out; omega), hs]; rfl
      have hss : s.size ≤ maxLen := by rw [hs]; exact HSZ.out k
      obtain ⟨c, hrun, hat⟩ := lookup_bool HO.out keyed9 Try.underlying64 Try.underlying4 (zero4 _) (WideMaps.keyOf_string_mk Try.underlying9 hss)
      obtain ⟨c', e1, e2⟩ := HSet.out s
      have hcc : c = c' := by rw [hat] at e1; simpa using e1
      subst hcc
      have HT : Hid (ls.take (k + 1) = ls.take k ++ [s]) := by
        unfold Hid
        rw [List.take_succ_eq_append_getElem (by have := HN.out; omega), hs]
        unfold lab
        simp [show k < ls.length by have := HN.out; omega]
      have hmem := mem_take_iff ls k (by have := HN.out; omega)
      rw [← hs, ← e2] at hmem
      have HMem := hide hmem
      have HS := hide hs
      have HE2 := hide e2
      clear e1 hat hmem e2 hs
      have fl := firsts_len ls k
      cases c with
      | true =>
        have HF : Hid (firsts ls (k + 1) = firsts ls k) := by
          have hf : isFirst ls k = false := by have := HMem.out.1 rfl; simpa using this
          unfold Hid
          rw [firsts, hf]
          simp
        have HSet' : Hid (SetIs D (ls.take (k + 1))) := by
          intro x
          obtain ⟨c, a1, a2⟩ := HSet.out x
          refine ⟨c, a1, ?_⟩
          rw [a2, HT.out, List.mem_append]
          constructor
          · exact .inl
          · rintro (h | h)
            · exact h
            · simp at h
              rw [h]; exact HE2.out.1 rfl
        go_wp2
        go_roundw
        case rel => exact ⟨k + 1, D, by omega, by go_num, by rw [HF.out]; exact HRow.out, HO.out.mono (by omega), HSet'.out, HBel.out, hws⟩
        case measure => simp [intOf]; omega
      | false =>
        have HF : Hid (firsts ls (k + 1) = firsts ls k ++ [s]) := by
          have hf : isFirst ls k = true := by
            have := HMem.out
            apply Classical.byContradiction
            intro hc
            exact absurd (this.2 hc) (by simp)
          unfold Hid
          rw [firsts, hf, HS.out]
          simp
        go_wp2_with (first | (at_mapUpdate; refine wpList_mapUpdate_own _ rfl _ _ _ 64 rfl 9 4 keyed9 Try.underlying64 _ w1.heap.size k _ rfl HO.out (by unfold maxLen; omega) _ _ _ rfl rfl (WideMaps.keyOf_string_mk Try.underlying9 hss) _ [] (plainElem_bool Try.underlying4 true) ?_; intro w2 hown2 hgrow2) | (at_builtin; refine wpList_append_own _ rfl _ _ 22 rfl (w1.heap.size + 1) 9 i0 (.string ByteArray.empty) 1 16 Try.underlying22 hi hz0 hz1 hz2 rfl (by decide) _ _ _ rfl ((row_kept HRow.out hgrow2 (Nat.lt_succ_self _)).alloc _) ⟨w2.heap.size, 0, none⟩ 1 1 [.string s] rfl rfl (cell_one_new _ _ _) (one_str s) (by unfold maxLen; omega) (by omega) (by have := hgrow2.size; simp; omega) ?_; intro v3 w3 hown3 hgrow3 hnil3))
        go_roundw
        case rel =>
          refine ⟨k + 1, _, by omega, by go_num, row_snoc hown3 HF.out, (hown2.alloc _).kept hgrow3 (own_ne HRow.out (Nat.lt_succ_self _)), by rw [HT.out]; exact setIs_put HSet.out HO.out.isMap s, ?_, ?_⟩
          · refine (((HBel.out.grown hgrow2 HBel.out.size (fun j hj => by cases hj; exact Nat.le_refl _)).alloc (Nat.le_trans HBel.out.size hgrow2.size) _).grown hgrow3 ?_ ?_)
            · have := HBel.out.size; have := hgrow2.size; simp; omega
            · intro j hj
              have := (HRow.out.lt j hj).1
              omega
          · have := hgrow2.size; have := hgrow3.size; simp at this; omega
        case measure => simp [intOf]; omega
    · have e4 : k = n := by omega
      have h5 := HRow.out
      rw [e4] at h5
      have HH := hide (has_of_own h5 (firsts_pos ls n h1))
      clear h5 e4
      go_wp2
      go_ret
      exact ⟨_, rfl, HH.out, HB.out.trans (HBel.out.mono z1)⟩

theorem dist_some (bl n cap : Nat) (ls : List ByteArray) (hn : ls.length = n) (h1 : 1 ≤ n) (h2 : n ≤ 65536) (hcap : n ≤ cap) (hcap2 : cap ≤ 65536) (hsz : ∀ i, (lab ls i).size ≤ maxLen) (w : World) (hl : Blk w bl 9 (strs ls)) :
    Calls Try.prog 44 #[.slice (some ⟨bl, 0, none⟩) n cap] w fun e w' => ∃ v, e = .returned v ∧ Has w' v (firsts ls n) ∧ Below w.heap.size w w' := by
  by_cases hd : Dup ls
  · exact keep_first bl n cap ls hn h1 h2 hcap hcap2 hsz hd w hl
  · exact keep_all bl n cap ls hn h1 h2 hcap hcap2 hsz hd w hl

theorem dist_none (a : Option Addr) (cap : Nat) (w : World) : Calls Try.prog 44 #[.slice a 0 cap] w fun e w' => e = .returned (.slice none 0 0) ∧ w = w' := by
  go_enter Try.func44, Try.ntmps44
  go_wp2
  go_ret
  exact ⟨rfl, rfl⟩

theorem zz_dist_none (a : Option Addr) (cap : Nat) (w : World) : Calls Try.prog 13 #[.slice a 0 cap] w fun e w' => e = .returned (.slice none 0 0) ∧ w = w' := by
  go_enter Try.func13, Try.ntmps13
  go_wp2_with fail
  refine (dist_none a cap _).mono ?_
  rintro e w' ⟨rfl, rfl⟩
  go_wp2
  go_ret
  exact ⟨rfl, rfl⟩

theorem zz_dist_some (v : Value) (out : List ByteArray) (w : World) (h : Calls Try.prog 44 #[v] w fun e w' => ∃ v, e = .returned v ∧ Has w' v out ∧ Below w.heap.size w w') :
    Calls Try.prog 13 #[v] w fun e w' => ∃ v, e = .returned v ∧ Has w' v out ∧ Below w.heap.size w w' := by
  have HC := hide h
  clear h
  go_enter Try.func13, Try.ntmps13
  go_wp2_with fail
  refine HC.out.mono ?_
  rintro e w' ⟨u, rfl, hb⟩
  have HB := hide hb
  clear hb
  go_wp2
  go_ret
  exact ⟨u, rfl, HB.out⟩

/-! ### sameStrings: equal strings are the same -/
theorem same_strs (g g' cap cap' : Nat) (out : List ByteArray) (hlen : out.length ≤ 65536) (w : World) (h : ∀ i, i < out.length → w.cell? ⟨g, i, none⟩ = some (.string (out.getD i ByteArray.empty))) (h' : ∀ i, i < out.length → w.cell? ⟨g', i, none⟩ = some (.string (out.getD i ByteArray.empty))) :
    Calls Try.prog 14 #[.slice (some ⟨g, 0, none⟩) out.length cap, .slice (some ⟨g', 0, none⟩) out.length cap'] w fun e w' => e = .returned (.bool true) ∧ ∃ n, w' = w.drewN n := by
  have hq : ((out.length : Int) != (out.length : Int)) = false := by simp
  have H1 := hide h
  have H2 := hide h'
  clear h h'
  go_enter Try.func14, Try.ntmps14
  go_wp2
  go_loopw [5] (fun i wr => ∃ k : Nat, k ≤ out.length ∧ i = .int .i64 k ∧ ∃ n, wr = w.drewN n) (fun i _ => out.length - (intOf i).toNat)
  case atStart => exact ⟨0, Nat.zero_le _, rfl, 0, rfl⟩
  case round =>
    obtain ⟨k, hk, rfl, n, rfl⟩ := hrel
    by_cases hlt : k < out.length
    · obtain ⟨s, hs⟩ : ∃ s, s = out.getD k ByteArray.empty := ⟨_, rfl⟩
      have c1 : w.cell? ⟨g, k, none⟩ = some (.string s) := by rw [H1.out k hlt, hs]
      have c2 : w.cell? ⟨g', k, none⟩ = some (.string s) := by rw [H2.out k hlt, hs]
      have hi : (k : Int) < (out.length : Int) := by omega
      clear hs
      go_wp2
      go_quiet (fail)
      go_wp2
      go_roundw
      case rel => exact ⟨k + 1, by omega, by go_num, n + nq, rfl⟩
      case measure => simp [intOf]; omega
    · go_wp2
      go_ret
      exact ⟨rfl, n, rfl⟩
end Go.Proofs.Qxb6602784a.grf
