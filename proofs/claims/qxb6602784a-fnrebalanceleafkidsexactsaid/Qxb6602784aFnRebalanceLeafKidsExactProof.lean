/- The proof of 'Rows.FnRebalanceLeafKidsExactSaid': the frame is made after the other seat's shell for slices; the walk is ours. -/
import Derived.Test.Qxb6602784aRows
import Derived.WalkKit
import Derived.ProofKit
import Derived.OpenShut
import Derived.ChangeOld
import Derived.Below
import Derived.Deep.Matrix
import Derived.Test.Qxb6602784aRebS
import Derived.Test.Qxb6602784aRebalanceFacts
namespace Go.Proofs.Qxb6602784a.fnRebalanceLeafKidsExact
open Go.ChangeShapes Go.WideShapes Go.ChangeAt Go.RowKit Go.Deep
set_option linter.unusedVariables false
set_option linter.unusedSimpArgs false

theorem own : ownKnob Try.prog.godebug = none := by kernel_rfl
theorem laidOut : laidOutB Try.prog = true := by kernel_rfl

theorem row_of {k : IntKind} {w : World} {x : Addr} {len cap : Nat} {zs : List Int} (hl : len ≤ cap) (hm : cap ≤ maxLen) (hz : zs.length = cap) (hc : ∀ i, i < cap → w.cell? (x.add i) = some (.int k (zs.getD i 0))) : grf.Row w (.slice (some x) len cap) (grf.ints k (zs.take len)) := by
  have hlen : (grf.ints k (zs.take len)).length = len := by rw [grf.ints_len, List.length_take]; omega
  refine .inr ⟨x, cap, by rw [hlen], by omega, hm, fun i y hi => ?_⟩
  have hi2 : i < len := by rw [← hlen]; exact (List.getElem?_eq_some_iff.1 hi).1
  rw [grf.ints_at _ _ _ (by rw [List.length_take]; omega)] at hi
  rw [hc i (by omega), ← hi]
  simp [List.getD_eq_getElem?_getD, List.getElem?_take, hi2]

set_option maxRecDepth 100000 in
theorem lifted (os : Os) (started : os.Started) (H : Type) (enc : TypeId × Value → H) :
    ReturnsInHanded {} Try.checked os 8 .any (Rows.fnRebalanceLeafKidsExactSpec.pre6 enc Try.prog Try.f8 Rows.fnRebalanceLeafKidsExactRow.domain false) (Rows.fnRebalanceLeafKidsExactSpec.post enc Try.prog Try.f8 false true false false) := by
  refine returnsInHanded_of_change (C := Try.checked) own started (by kernel_rfl) Try.func8
    (ChangeSpec.witness6 (enc := enc) (C := Try.checked) false ⟨#[], #[.slice none 0 0, .slice none 0 0, .slice none 0 0, .int .u64 0, .int .i64 0], []⟩ 8 (by kernel_rfl) (by kernel_rfl) (by kernel_rfl) (by kernel_rfl)) ?_
  intro W base args ds gs before hval0 hW hcnd _
  have hval : ∀ (j : Nat) t v, Try.f8.params[j]? = some t → args[j]? = some v → Value.okWide Try.prog W .any base t v := hval0
  have hW' := hW
  obtain ⟨p, q, hA0, hV, rfl, hfz, hnd⟩ := hW
  have hA : DataW.TrodAll enc Try.prog W 0 (fun _ => true) true Try.f8.params.toList args.toList ds p := hA0
  rw [Try.params8] at hA hval
  obtain ⟨v0, vs0, d0, ds0, p0, q0, hargs, rfl, rfl, h0, r0⟩ := trodAll_cons hA
  obtain ⟨v1, vs1, d1, ds1, p1, q1, rfl, rfl, rfl, h1, r1⟩ := trodAll_cons r0
  obtain ⟨v2, vs2, d2, ds2, p2, q2, rfl, rfl, rfl, h2, r2⟩ := trodAll_cons r1
  obtain ⟨v3, vs3, d3, ds3, p3, q3, rfl, rfl, rfl, h3, r3⟩ := trodAll_cons r2
  obtain ⟨v4, vs4, d4, ds4, p4, q4, rfl, rfl, rfl, h4, r4⟩ := trodAll_cons r3
  obtain ⟨rfl, rfl, rfl⟩ := trodAll_nil r4
  obtain rfl : args = #[v0, v1, v2, v3, v4] := by cases args; simp_all
  obtain ⟨rfl, rfl⟩ := trodVars_none hV
  obtain ⟨a0, len0, cap0, rfl⟩ := okWide_slice Try.underlying30 (hval 0 30 v0 rfl rfl)
  have k0 := h0
  have lt0 : ∀ x ∈ p0, x.block < W.heap.size := by obtain ⟨m, hm⟩ := k0; exact DataW.trod_lt m _ _ _ hm
  obtain ⟨z0, w0⟩ : ∃ zs, grf.Row W (.slice a0 len0 cap0) (grf.ints .i64 zs) := by
    obtain ⟨fuel, hf⟩ := h0
    rcases open_ints Try.underlying30 Try.underlying2 (by kernel_rfl) hf with ⟨hcs, _⟩ | ⟨x, l, c, zs, hcs, _, hl, hm, hz, _, hcell, hwz⟩
    · simp [Value.cells] at hcs
      obtain ⟨rfl, rfl, rfl⟩ := hcs
      exact ⟨[], .inl ⟨rfl, rfl⟩⟩
    · simp [Value.cells] at hcs
      obtain ⟨rfl, rfl, rfl⟩ := hcs
      have hz' : zs.length = cap0 := by simpa using hz
      exact ⟨_, row_of hl hm hz' (fun i hi => hcell i (by omega))⟩
  obtain ⟨a1, len1, cap1, rfl⟩ := okWide_slice Try.underlying31 (hval 1 31 v1 rfl rfl)
  have k1 := h1
  have lt1 : ∀ x ∈ p1, x.block < W.heap.size := by obtain ⟨m, hm⟩ := k1; exact DataW.trod_lt m _ _ _ hm
  have w1 : grf.LRow W (.slice a1 len1 cap1) := by
    obtain ⟨fuel, hf⟩ := h1
    rcases open_int_rows Try.underlying31 Try.underlying30 Try.underlying2 (by kernel_rfl) (by kernel_rfl) hf with ⟨hcs, _⟩ | ⟨x, l, c, A, L, C, Z, hcs, _, hl, hm, _, hx⟩
    · simp [Value.cells] at hcs
      obtain ⟨rfl, rfl, rfl⟩ := hcs
      exact .inl ⟨_, _, rfl⟩
    · simp [Value.cells] at hcs
      obtain ⟨rfl, rfl, rfl⟩ := hcs
      by_cases hz : len1 = 0
      · subst hz
        exact .inl ⟨_, _, rfl⟩
      · obtain ⟨b, off, spot⟩ := x
        have hsp : spot = none := by simpa [Addr.add] using World.cell?_spot (hx 0 (by omega)).1
        subst hsp
        refine .inr ⟨b, off, len1, cap1, (List.range len1).map fun r => .slice (A r) (L r) (C r), (List.range len1).map fun r => (Z r).take (L r), by omega, by omega, rfl, ⟨?_, fun i hi => ?_, fun i hi => ?_⟩⟩
        · have := World.block_lt_of_cell? W _ (hx 0 (by omega)).1
          rw [grf.add_block] at this
          exact this
        · have := (hx i (by omega)).1
          rw [add_plain] at this
          rw [this]
          simp [List.getD_eq_getElem?_getD, hi]
        · obtain ⟨_, g1, g2, g3, _, g5, g6⟩ := hx i (by omega)
          have e1 : ((List.range len1).map fun r => Value.slice (A r) (L r) (C r)).getD i (.slice none 0 0) = .slice (A i) (L i) (C i) := by simp [List.getD_eq_getElem?_getD, hi]
          have e2 : ((List.range len1).map fun r => (Z r).take (L r)).getD i [] = (Z i).take (L i) := by simp [List.getD_eq_getElem?_getD, hi]
          rw [e1, e2]
          cases hA : A i with
          | none =>
            have hc0 := g5 hA
            refine .inl ⟨?_, ?_⟩
            · rw [show L i = 0 by omega, hc0]
            · rw [show L i = 0 by omega]; rfl
          | some a' => exact row_of g1 g2 g3 (g6 a' hA).2
  obtain ⟨a2, len2, cap2, rfl⟩ := okWide_slice Try.underlying32 (hval 2 32 v2 rfl rfl)
  have k2 := h2
  have lt2 : ∀ x ∈ p2, x.block < W.heap.size := by obtain ⟨m, hm⟩ := k2; exact DataW.trod_lt m _ _ _ hm
  obtain ⟨z2, w2⟩ : ∃ zs, grf.Row W (.slice a2 len2 cap2) (grf.ints .u64 zs) := by
    obtain ⟨fuel, hf⟩ := h2
    rcases open_ints Try.underlying32 Try.underlying33 (by kernel_rfl) hf with ⟨hcs, _⟩ | ⟨x, l, c, zs, hcs, _, hl, hm, hz, _, hcell, hwz⟩
    · simp [Value.cells] at hcs
      obtain ⟨rfl, rfl, rfl⟩ := hcs
      exact ⟨[], .inl ⟨rfl, rfl⟩⟩
    · simp [Value.cells] at hcs
      obtain ⟨rfl, rfl, rfl⟩ := hcs
      have hz' : zs.length = cap2 := by simpa using hz
      exact ⟨_, row_of hl hm hz' (fun i hi => hcell i (by omega))⟩
  obtain ⟨a3, rfl, rfl, rfl, w3⟩ := open_int Try.underlying33 (hval 3 33 v3 rfl rfl) h3
  obtain ⟨a4, rfl, rfl, rfl, w4⟩ := open_int Try.underlying3 (hval 4 3 v4 rfl rfl) h4
  clear hA0 hval0
  refine (grf.law8 _ _ _ a3 a4 z0 z2 W w0 w1 w2).mono fun e W' ⟨he, bel⟩ => ?_
  subst he
  exact ⟨_, rfl, _, _, _, [], _, [], hW', trodAll_mk1 (shut_bool Try.underlying4 _), (trodAll_cons_mk (Below.trod laidOut (by kernel_rfl) (of_decide_eq_true (by kernel_rfl)) k0 bel lt0) (trodAll_cons_mk (Below.trod laidOut (by kernel_rfl) (of_decide_eq_true (by kernel_rfl)) k1 bel lt1) (trodAll_cons_mk (Below.trod laidOut (by kernel_rfl) (of_decide_eq_true (by kernel_rfl)) k2 bel lt2) (trodAll_cons_mk (shut_int Try.underlying33 w3) (trodAll_cons_mk (shut_int Try.underlying3 w4) trodAll_mk0))))), rfl, bel.frame _, fun h => by cases h⟩

theorem over : Rows.fnRebalanceLeafKidsExactRow.holds Try.pinned (OpenSpec.ofChange Rows.fnRebalanceLeafKidsExactSpec) :=
  OpenClaim.holds_of_wide 8 Try.f8 rfl rfl rfl rfl rfl rfl rfl ⟨rfl, rfl, rfl, rfl, rfl⟩ rfl rfl rfl rfl rfl (by kernel_rfl) Try.func8 closed
    (of_decide_eq_true (by kernel_rfl)) (by unfold Func.isWrapper; first | (rw [if_pos (by decide +kernel)]; kernel_rfl) | (rw [if_neg (by decide +kernel)]; exact ⟨rfl, rfl⟩))
    (fun os started H enc _ => lifted os started H enc)

theorem proved : Rows.FnRebalanceLeafKidsExactSaid := over
#print axioms proved
end Go.Proofs.Qxb6602784a.fnRebalanceLeafKidsExact
