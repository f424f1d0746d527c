import Derived.Test.Qxb6602784aGrfA
import Derived.Maps.OwnOps
import Derived.Maps.OwnSet
namespace Go.Proofs.Qxb6602784a.grf
open Go.ChangeShapes Go.WideShapes Go.ChangeAt Go.RowKit Go.Maps
set_option linter.unusedSimpArgs false
set_option linter.unusedVariables false

theorem mkmap (n : Nat) (w : World) : (Instr.makeMap 64 (some (.int .i64 (n : Int)))).run Try.prog w = .ok (.map (some w.heap.size)) (w.alloc (.map #[] 0)) := by
  simp [Instr.makeMap, run_underlying Try.underlying64, asInt, asIntOf]

theorem bytes_eq {x y : ByteArray} (h : x.toList = y.toList) : x = y := by
  rw [ByteArray.toList_eq, ByteArray.toList_eq] at h
  exact bytes_inj h

/-! ### A look-up in a map of bools that the call makes -/
section
variable {H : Type} {P : Program} {k : TypeId} {w : World} {b n : Nat} {D : DataW H}
theorem plainElem_bool_inv {e : TypeId} (he : P.underlying e = some .bool) {v : Value} {z : DataW H × List MemPlace} (h : plainElem P e v = some z) : ∃ a, v = .bool a ∧ z = (.lit (.bool a), []) := by
  unfold plainElem at h
  rw [he] at h
  cases v <;> simp at h
  exact ⟨_, rfl, h.symm⟩

theorem lookup_bool {t e : TypeId} (h : w.ownsMap P k (plainElem P e) b n D) (K : Keyed P k) (ht : P.underlying t = some (.map k e)) (he : P.underlying e = some .bool) (hz : (zeroValue e).run P w = .ok (.bool false) w)
    {key : Value} {kl : Lit} (hkey : keyOf P k key = some kl) : ∃ c, (Instr.lookup t (.map (some b)) key false).run P w = .ok (.bool c) w ∧ D.atKey kl (.lit (.bool false)) = .lit (.bool c) := by
  obtain ⟨v, ps, hrun, hv⟩ := h.lookup K ht hz (plainElem_bool he false) hkey
  obtain ⟨c, rfl, hc⟩ := plainElem_bool_inv he hv
  simp only [Prod.mk.injEq] at hc
  exact ⟨c, hrun, hc.1⟩
end

/-- The map reads as the set of these labels. -/
def SetIs (D : DataW Unit) (ls : List ByteArray) : Prop := ∀ s : ByteArray, ∃ c : Bool, D.atKey (.string s.data.toList) (.lit (.bool false)) = .lit (.bool c) ∧ (c = true ↔ s ∈ ls)

theorem setIs_empty : SetIs (.map []) [] := by
  intro s
  exact ⟨false, rfl, by simp⟩

theorem setIs_put {D : DataW Unit} {ls : List ByteArray} (h : SetIs D ls) (hD : IsMap D) (x : ByteArray) : SetIs (D.put (.string x.data.toList) (.lit (.bool true))) (ls ++ [x]) := by
  intro s
  by_cases e : s = x
  · subst e
    exact ⟨true, atKey_put_same hD (by simp [WideAt.IsKeyLit]) _ _, by simp⟩
  · obtain ⟨c, h1, h2⟩ := h s
    refine ⟨c, ?_, by rw [h2]; simp [e]⟩
    rw [atKey_put_other (by intro h; exact e (bytes_inj (by simpa using h)))]
    exact h1

theorem zero4 (w : World) : (zeroValue 4).run Try.prog w = .ok (.bool false) w := by kernel_rfl
theorem keyed9 : Keyed Try.prog 9 := string_keyed Try.underlying9

/-! ### repeats -/
def Dup (ls : List ByteArray) : Prop := ∃ i j, i < j ∧ j < ls.length ∧ lab ls i = lab ls j
def RepAns (ls : List ByteArray) (e : Ending) : Prop := ∃ r : Bool, e = .returned (.bool r) ∧ (r = true ↔ Dup ls)

theorem few (bl n cap : Nat) (ls : List ByteArray) (hn : ls.length = n) (h8 : n ≤ 8) (hcap : n ≤ cap) (hcap2 : cap ≤ 65536) (w : World) (hl : Blk w bl 9 (strs ls)) :
    Calls Try.prog 45 #[.slice (some ⟨bl, 0, none⟩) n cap] w fun e w' => RepAns ls e ∧ w = w' := by
  have HL := hide hl
  have HN := hide hn
  clear hl hn
  go_enter Try.func45, Try.ntmps45
  go_wp2
  go_loop [15] (fun i => ∃ k : Nat, k ≤ n ∧ i = .int .i64 k ∧ ∀ a b, a < b → b < k → lab ls a ≠ lab ls b) (fun i => n - (intOf i).toNat)
  case atStart => exact ⟨0, by omega, rfl, fun a b h1 h2 => by omega⟩
  case round =>
    obtain ⟨k, hk, rfl, hd⟩ := hrel
    have HD := hide hd
    clear hd
    by_cases hkn : k < n
    · have hkb : decide ((k : Int) < (n : Int)) = true := by simp; omega
      obtain ⟨s, hs⟩ : ∃ s, s = lab ls k := ⟨_, rfl⟩
      have q1 : w.cell? ⟨bl, k, none⟩ = some (.string s) := by rw [HL.out.str k (by have := HN.out; omega), hs]; rfl
      have HS := hide hs
      clear hs
      go_wp2
      go_loop [24] (fun c => ∃ j : Nat, j ≤ k ∧ c = .int .i64 j ∧ ∀ a, a < j → lab ls a ≠ lab ls k) (fun c => k - (intOf c).toNat)
      case atStart => exact ⟨0, by omega, rfl, fun a h => by omega⟩
      case round =>
        obtain ⟨j, hj, rfl, hd⟩ := hrel
        have HJ := hide hd
        clear hd
        by_cases hjk : j < k
        · obtain ⟨t, ht⟩ : ∃ t, t = lab ls j := ⟨_, rfl⟩
          have q2 : w.cell? ⟨bl, j, none⟩ = some (.string t) := by rw [HL.out.str j (by have := HN.out; omega), ht]; rfl
          by_cases he : s.toList = t.toList
          · have heb : (s.toList == t.toList) = true := by simp [he]
            have HE : Hid (Dup ls) := ⟨j, k, hjk, by have := HN.out; omega, by rw [← ht, ← HS.out]; exact (bytes_eq he).symm⟩
            clear ht he
            go_wp2
            go_ret
            first | exact ⟨⟨_, rfl, fun _ => HE.out, fun _ => rfl⟩, rfl⟩ | exact ⟨_, rfl, fun _ => HE.out, fun _ => rfl⟩
          · have heb : (s.toList == t.toList) = false := by simp [he]
            have HE : Hid (∀ a, a < j + 1 → lab ls a ≠ lab ls k) := by
              intro a ha
              by_cases e : a = j
              · rw [e, ← ht, ← HS.out]
                intro hc
                exact he (by rw [hc])
              · exact HJ.out a (by omega)
            clear ht he
            go_wp2
            go_round
            case rel => exact ⟨j + 1, by omega, by go_num, HE.out⟩
            case measure => simp [intOf]; omega
        · have HE : Hid (∀ a b, a < b → b < k + 1 → lab ls a ≠ lab ls b) := by
            intro a b h1 h2
            by_cases e : b = k
            · rw [e]; exact HJ.out a (by omega)
            · exact HD.out a b h1 (by omega)
          go_wp2
          go_round
          case rel =>
            refine ⟨_, _, _, _, _, ?_, rfl, rfl, rfl, rfl, rfl⟩
            exact ⟨k + 1, by omega, by go_num, HE.out⟩
          case measure => simp [intOf]; omega
    · have HE : Hid (false = true ↔ Dup ls) := by
        constructor
        · intro h; cases h
        · rintro ⟨a, b, h1, h2, h3⟩
          exact absurd h3 (HD.out a b h1 (by have := HN.out; omega))
      go_wp2
      go_ret
      first | exact ⟨⟨_, rfl, HE.out⟩, rfl⟩ | exact ⟨_, rfl, HE.out⟩

set_option maxHeartbeats 400000 in
theorem many (bl n cap : Nat) (ls : List ByteArray) (hn : ls.length = n) (h8 : 8 < n) (h2 : n ≤ 65536) (hsz : ∀ i, (lab ls i).size ≤ maxLen) (w : World) (hl : Blk w bl 9 (strs ls)) :
    Calls Try.prog 45 #[.slice (some ⟨bl, 0, none⟩) n cap] w fun e w' => RepAns ls e ∧ Below w.heap.size w w' := by
  have hmm := fun w => mkmap n w
  have h8b : decide ((n : Int) ≤ 8) = false := by simp; omega
  have hbl := hl.lt
  have HL := hide hl
  have HN := hide hn
  have HSZ := hide hsz
  clear hl hn hsz
  go_enter Try.func45, Try.ntmps45
  go_wp2
  go_loopw [38] (fun i wr => ∃ k : Nat, ∃ D : DataW Unit, k ≤ n ∧ i = .int .i64 k ∧ (∀ a b, a < b → b < k → lab ls a ≠ lab ls b) ∧ wr.ownsMap Try.prog 9 (plainElem Try.prog 4) w.heap.size k D ∧ SetIs D (ls.take k) ∧ Below w.heap.size w wr) (fun i _ => n - (intOf i).toNat)
  case atStart => exact ⟨0, .map [], by omega, rfl, fun a b h1 h2 => by omega, World.ownsMap_made _ _ _ _, by simpa using setIs_empty, (Below.refl _ _).alloc (Nat.le_refl _) _⟩
  case round =>
    obtain ⟨k, D, hk, rfl, hd, hown, hset, hbel⟩ := hrel
    have HD := hide hd
    have HO := hide hown
    have HSet := hide hset
    have HBel := hide hbel
    clear hd hown hset hbel
    by_cases hkn : k < n
    · obtain ⟨s, hs⟩ : ∃ s, s = lab ls k := ⟨_, rfl⟩
      have q1 : wr.cell? ⟨bl, k, none⟩ = some (.string s) := by rw [HBel.out.cell hbl, HL.out.str k (by have := HN.out; omega), hs]; rfl
      have hss : s.size ≤ maxLen := by rw [hs]; exact HSZ.out k
      obtain ⟨c, hrun, hat⟩ := lookup_bool HO.out keyed9 Try.underlying64 Try.underlying4 (zero4 _) (WideMaps.keyOf_string_mk Try.underlying9 hss)
      obtain ⟨c', e1, e2⟩ := HSet.out s
      have hcc : c = c' := by rw [hat] at e1; simpa using e1
      subst hcc
      clear e1 hat
      have HC := hide e2
      clear e2
      cases c with
      | true =>
        have HE : Hid (Dup ls) := by
          obtain ⟨j, hj, he⟩ := List.getElem_of_mem (HC.out.1 rfl)
          have hj' : j < k := by simp at hj; omega
          refine ⟨j, k, hj', by have := HN.out; omega, ?_⟩
          rw [← hs, ← he]
          unfold lab
          simp [show j < ls.length by have := HN.out; omega]
        clear hs
        go_wp2
        go_ret
        exact ⟨⟨_, rfl, fun _ => HE.out, fun _ => rfl⟩, HBel.out⟩
      | false =>
        have hlk : lab ls k = ls.getD k ByteArray.empty := rfl
        have HT : Hid (ls.take (k + 1) = ls.take k ++ [s]) := by
          unfold Hid
          rw [List.take_succ_eq_append_getElem (by have := HN.out; omega), hs]
          unfold lab
          simp [show k < ls.length by have := HN.out; omega]
        have HE : Hid (∀ a b, a < b → b < k + 1 → lab ls a ≠ lab ls b) := by
          intro a b h1 h2
          by_cases e : b = k
          · rw [e, ← hs]
            intro hc
            have : s ∈ ls.take k := by
              rw [← hc]
              unfold lab
              have ha : a < (ls.take k).length := by simp; have := HN.out; omega
              have := List.getElem_mem ha
              simpa [show a < ls.length by have := HN.out; omega] using this
            exact absurd (HC.out.2 this) (by simp)
          · exact HD.out a b h1 (by omega)
        clear hs hlk
        go_wp2_with (at_mapUpdate; refine wpList_mapUpdate_own _ rfl _ _ _ 64 rfl 9 4 keyed9 Try.underlying64 _ w.heap.size k _ rfl HO.out (by unfold maxLen; omega) _ _ _ rfl rfl (WideMaps.keyOf_string_mk Try.underlying9 hss) _ [] (plainElem_bool Try.underlying4 true) ?_; intro w1 hown1 hgrow1)
        go_roundw
        case rel => exact ⟨k + 1, _, by omega, by go_num, HE.out, hown1, by rw [HT.out]; exact setIs_put HSet.out HO.out.isMap s, HBel.out.grown hgrow1 HBel.out.size (fun j hj => by cases hj; exact Nat.le_refl _)⟩
        case measure => simp [intOf]; omega
    · have HE : Hid (false = true ↔ Dup ls) := by
        constructor
        · intro h; cases h
        · rintro ⟨a, b, h1, h2, h3⟩
          exact absurd h3 (HD.out a b h1 (by have := HN.out; omega))
      go_wp2
      go_ret
      exact ⟨⟨_, rfl, HE.out⟩, HBel.out⟩

theorem none_at_all (a : Option Addr) (cap : Nat) (w : World) : Calls Try.prog 45 #[.slice a 0 cap] w fun e w' => RepAns [] e ∧ Below w.heap.size w w' := by
  have HE : Hid (false = true ↔ Dup []) := by
    constructor
    · intro h; cases h
    · rintro ⟨a, b, h1, h2, h3⟩
      simp at h2
  go_enter Try.func45, Try.ntmps45
  go_wp2
  refine wp_loop_rounds 1 ?_
  rw [rounds_succ]
  go_wp2
  go_ret
  exact ⟨⟨_, rfl, HE.out⟩, Below.refl _ _⟩

/-- repeats and its shim, over labels that the law has copied. -/
theorem rep_some (bl n cap : Nat) (ls : List ByteArray) (hn : ls.length = n) (h2 : n ≤ 65536) (hcap : n ≤ cap) (hcap2 : cap ≤ 65536) (hsz : ∀ i, (lab ls i).size ≤ maxLen) (w : World) (hl : Blk w bl 9 (strs ls)) :
    Calls Try.prog 45 #[.slice (some ⟨bl, 0, none⟩) n cap] w fun e w' => RepAns ls e ∧ Below w.heap.size w w' := by
  by_cases h8 : n ≤ 8
  · refine (few bl n cap ls hn h8 hcap hcap2 w hl).mono ?_
    rintro e w' ⟨h, rfl⟩
    exact ⟨h, Below.refl _ _⟩
  · exact many bl n cap ls hn (by omega) h2 hsz w hl

theorem zz_rep (v : Value) (ls : List ByteArray) (w : World) (h : Calls Try.prog 45 #[v] w fun e w' => RepAns ls e ∧ Below w.heap.size w w') :
    Calls Try.prog 17 #[v] w fun e w' => RepAns ls e ∧ Below w.heap.size w w' := by
  have HC := hide h
  clear h
  go_enter Try.func17, Try.ntmps17
  go_wp2_with fail
  refine HC.out.mono ?_
  rintro e w' ⟨⟨r, rfl, hr⟩, hb⟩
  have HR := hide hr
  have HB := hide hb
  clear hr hb
  go_wp2
  go_ret
  exact ⟨⟨r, rfl, HR.out⟩, HB.out⟩
end Go.Proofs.Qxb6602784a.grf
