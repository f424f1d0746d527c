import Derived.Test.Qxb6602784aRows
import Derived.ProofKit
import Derived.Test.Qxb6602784aMem
import Derived.Test.Qxb6602784aSortP
import Derived.Deep.QuietTactic
import Derived.BigQuiet
import Derived.RegionTactic
import Derived.BigRegion
import Derived.Deep.DeepCutAuto
import Derived.Lib.SliceRun
namespace Go.Proofs.Qxb6602784a.grf
open Go.ChangeShapes Go.WideShapes Go.ChangeAt Go.RowKit
set_option linter.unusedSimpArgs false
set_option linter.unusedVariables false

theorem info3 : (Try.prog.info? 3).map (fun i => (i.zero, i.size, i.bytes)) = some (some (.int .i64 0), 1, 8) := by kernel_rfl

/-- The sort's memory: the labels, the two rows of places. -/
structure SM (w wr : World) (bl : Nat) (ls : List ByteArray) (ba bb : Nat) (A B : List Nat) : Prop where
  hl : Blk wr bl 9 (strs ls)
  ha : Blk wr ba 3 (nats A)
  hb : Blk wr bb 3 (nats B)
  la : w.heap.size ≤ ba
  lb : w.heap.size ≤ bb
  ne : ba ≠ bb
  bel : Below w.heap.size w wr

section
variable {w wr : World} {bl : Nat} {ls : List ByteArray} {ba bb : Nat} {A B : List Nat}
theorem SM.setB (h : SM w wr bl ls ba bb A B) (hbl : bl < w.heap.size) (i v : Nat) : SM w (wr.setCell ⟨bb, i, none⟩ (.int .i64 (v : Int))) bl ls ba bb A (B.set i v) :=
  ⟨h.hl.set_ne _ (by have := h.lb; simp; omega) _, h.ha.set_ne _ (by have := h.ne; simpa using this) _, h.hb.setNat i v, h.la, h.lb, h.ne, h.bel.setCell h.lb _⟩
theorem SM.setA (h : SM w wr bl ls ba bb A B) (hbl : bl < w.heap.size) (i v : Nat) : SM w (wr.setCell ⟨ba, i, none⟩ (.int .i64 (v : Int))) bl ls ba bb (A.set i v) B :=
  ⟨h.hl.set_ne _ (by have := h.la; simp; omega) _, h.ha.setNat i v, h.hb.set_ne _ (by have := h.ne; simpa using Ne.symm this) _, h.la, h.lb, h.ne, h.bel.setCell h.la _⟩
theorem SM.drewN (h : SM w wr bl ls ba bb A B) (n : Nat) : SM w (wr.drewN n) bl ls ba bb A B :=
  ⟨h.hl, h.ha, h.hb, h.la, h.lb, h.ne, h.bel.trans ⟨rfl, rfl, rfl, Nat.le_refl _, fun _ _ => rfl⟩⟩
theorem SM.swap (h : SM w wr bl ls ba bb A B) : SM w wr bl ls bb ba B A := ⟨h.hl, h.hb, h.ha, h.lb, h.la, Ne.symm h.ne, h.bel⟩
end

set_option maxRecDepth 100000 in
set_option maxHeartbeats 1000000 in
theorem sorted_some (bl n cap : Nat) (ls : List ByteArray) (hn : ls.length = n) (h1 : 1 ≤ n) (h2 : n ≤ 65536) (w : World) (hl : Blk w bl 9 (strs ls)) :
    Calls Try.prog 20 #[.slice (some ⟨bl, 0, none⟩) n cap] w fun e w' => ∃ b A, e = .returned (.slice (some ⟨b, 0, none⟩) n n) ∧ w.heap.size ≤ b ∧ Blk w' b 3 (nats A) ∧ A.length = n ∧ Run ls A 0 n ∧ Below w.heap.size w w' := by
  have hmk := fun w => run_make_row' (P := Try.prog) 27 3 (.int .i64 0) 8 Try.underlying27 info3 rfl .i64 .i64 n (by omega) (by omega) w
  have hbl := hl.lt
  have HL := hide hl
  have HN := hide hn
  clear hl hn
  go_enter Try.func20, Try.ntmps20
  go_wp2
  go_loopw [6] (fun i wr => ∃ k : Nat, k ≤ n ∧ i = .int .i64 k ∧ SM w wr bl ls w.heap.size (w.heap.size + 1) (List.range k ++ List.replicate (n - k) 0) (List.replicate n 0)) (fun i _ => n - (intOf i).toNat)
  case atStart =>
    refine ⟨0, Nat.zero_le _, rfl, ⟨(HL.out.alloc _).alloc _, ?_, ?_, Nat.le_refl _, by omega, by omega, ((Below.refl _ _).alloc (Nat.le_refl _) _).alloc (by simp) _⟩⟩
    · have := (Blk.new w (madeCells #[.int .i64 0] n) 3).alloc (.cells (madeCells #[.int .i64 0] n) 3)
      rw [made_nats] at this
      simpa using this
    · have := Blk.new (w.alloc (.cells (madeCells #[.int .i64 0] n) 3)) (madeCells #[.int .i64 0] n) 3
      rw [made_nats, World.size_alloc] at this
      exact this
  case round =>
    obtain ⟨k, hk, rfl, hm⟩ := hrel
    have HM := hide hm
    clear hm
    by_cases hkn : k < n
    · have q1 : ∃ v, wr.cell? ⟨w.heap.size, k, none⟩ = some v := ⟨_, HM.out.ha.nat k (by simp; omega)⟩
      obtain ⟨v, q1⟩ := q1
      have q2 := HM.out.ha.frozen k
      have HM2 : Hid (SM w (wr.setCell ⟨w.heap.size, k, none⟩ (.int .i64 (k : Int))) bl ls w.heap.size (w.heap.size + 1) (List.range (k + 1) ++ List.replicate (n - (k + 1)) 0) (List.replicate n 0)) := by
        have := HM.out.setA hbl k k
        rw [range_step n k hkn] at this
        exact this
      go_wp2
      go_roundw
      case rel => exact ⟨k + 1, by omega, by go_num, HM2.out⟩
      case measure => simp [intOf]; omega
    · have HM2 : Hid (SM w wr bl ls w.heap.size (w.heap.size + 1) (List.range n) (List.replicate n 0)) := by
        have e : k = n := by omega
        have := HM.out
        rw [e, Nat.sub_self] at this
        unfold Hid
        simpa using this
      clear HM
      go_wp2
      go_loopw [4, 5, 7] (fun a b wd wr => ∃ W ba bb : Nat, ∃ A B : List Nat, 1 ≤ W ∧ W ≤ 131072 ∧ wd = .int .i64 W ∧ a = .slice (some ⟨ba, 0, none⟩) n n ∧ b = .slice (some ⟨bb, 0, none⟩) n n ∧ A.length = n ∧ B.length = n ∧ Runs ls A W n ∧ SM w wr bl ls ba bb A B) (fun _ _ wd _ => n - (intOf wd).toNat)
      case atStart => exact ⟨1, w.heap.size, w.heap.size + 1, _, _, by omega, by omega, rfl, rfl, rfl, by simp, by simp, runs_one ls n, HM2.out⟩
      case round =>
        clear HM2
        obtain ⟨W, ba, bb, A, B, hW1, hW2, rfl, rfl, rfl, hA, hB, hR, hm⟩ := hrel
        have HM := hide hm
        have HA := hide hA
        have HB := hide hB
        have HR := hide hR
        clear hm hA hB hR
        by_cases hWn : W < n
        · have hWb : decide ((W : Int) < (n : Int)) = true := by simp; omega
          go_wp2
          go_loopw [8] (fun lo wr => ∃ m l : Nat, ∃ B : List Nat, l = m * (2 * W) ∧ l ≤ n + 2 * W ∧ lo = .int .i64 l ∧ B.length = n ∧ (∀ m', m' < m → m' * (2 * W) < n → Run ls B (m' * (2 * W)) (min (m' * (2 * W) + 2 * W) n)) ∧ SM w wr bl ls ba bb A B) (fun lo _ => n - (intOf lo).toNat)
          case atStart => exact ⟨0, 0, B, by omega, by omega, rfl, HB.out, fun m' h => by omega, HM.out⟩
          case round =>
            clear HM HB B
            obtain ⟨m, l, B0, hl, hl2, rfl, hB, hR, hm⟩ := hrel
            have HM := hide hm
            have HB := hide hB
            have HRB := hide hR
            have HLo := hide hl
            clear hm hB hR hl
            by_cases hln : l < n
            · have hlb : decide ((l : Int) < (n : Int)) = true := by simp; omega
              obtain ⟨mid, hmid⟩ : ∃ mid, mid = min (l + W) n := ⟨_, rfl⟩
              obtain ⟨hi, hhi⟩ : ∃ hi, hi = min (mid + W) n := ⟨_, rfl⟩
              have HMid := hide hmid
              have HHi := hide hhi
              clear hmid hhi
              go_upto_if 47 with fail
              go_cut [9] (fun x wx => x = .int .i64 mid ∧ wr = wx)
              case first =>
                by_cases c : (n : Int) < (l : Int) + W
                · go_wp2
                  go_meet
                  case rel => exact ⟨congrArg (Value.int .i64) (by have := HMid.out; omega), rfl⟩
                · go_wp2
                  go_meet
                  case rel => exact ⟨congrArg (Value.int .i64) (by have := HMid.out; omega), rfl⟩
              case rest =>
                obtain ⟨rfl, rfl⟩ := hcut
                have m1 : l ≤ mid ∧ mid ≤ n := by have := HMid.out; omega
                go_upto_if 54 with fail
                go_cut [10] (fun x wx => x = .int .i64 hi ∧ wr = wx)
                case first =>
                  by_cases c : (n : Int) < (mid : Int) + W
                  · go_wp2
                    go_meet
                    case rel => exact ⟨congrArg (Value.int .i64) (by have := HHi.out; omega), rfl⟩
                  · go_wp2
                    go_meet
                    case rel => exact ⟨congrArg (Value.int .i64) (by have := HHi.out; omega), rfl⟩
                case rest =>
                  obtain ⟨rfl, rfl⟩ := hcut
                  have m2 : mid ≤ hi ∧ hi ≤ n := by have := HHi.out; omega
                  have R2 := hide (two_runs HR.out HLo.out hln HMid.out HHi.out)
                  go_wp2
                  go_loopw [11, 12, 13] (fun xi xj xt wr => ∃ i j t : Nat, ∃ B : List Nat, l ≤ i ∧ i ≤ mid ∧ mid ≤ j ∧ j ≤ hi ∧ t + mid = i + j ∧ xi = .int .i64 i ∧ xj = .int .i64 j ∧ xt = .int .i64 t ∧ B.length = n ∧ B.take t ++ List.merge (seg A i mid) (seg A j hi) (le ls) = List.take l B0 ++ List.merge (seg A l mid) (seg A mid hi) (le ls) ∧ SM w wr bl ls ba bb A B) (fun xi xj _ _ => (mid - (intOf xi).toNat) + (hi - (intOf xj).toNat))
                  case atStart => exact ⟨l, mid, l, B0, by omega, by omega, by omega, by omega, by omega, rfl, rfl, rfl, HB.out, rfl, HM.out⟩
                  case round =>
                    clear HM
                    obtain ⟨i, j, t, B, i1, i2, j1, j2, htt, rfl, rfl, rfl, hBl, hT, hm⟩ := hrel
                    have HM := hide hm
                    have HBl := hide hBl
                    have HT := hide hT
                    have HTT := hide htt
                    have t1 : t ≤ n := by omega
                    clear hm hBl hT
                    by_cases ci : i < mid
                    · by_cases cj : j < hi
                      · obtain ⟨y, hy⟩ : ∃ y, y = A.getD i 0 := ⟨_, rfl⟩
                        obtain ⟨x, hx⟩ : ∃ x, x = A.getD j 0 := ⟨_, rfl⟩
                        have by1 : l ≤ y ∧ y < mid := by rw [hy]; exact R2.out.1.mem (getD_seg i1 ci (by have := HA.out; omega))
                        have bx1 : mid ≤ x ∧ x < hi := by rw [hx]; exact R2.out.2.mem (getD_seg j1 cj (by have := HA.out; omega))
                        obtain ⟨Ly, hLy⟩ : ∃ s, s = lab ls y := ⟨_, rfl⟩
                        obtain ⟨Lx, hLx⟩ : ∃ s, s = lab ls x := ⟨_, rfl⟩
                        have q1 : wr.cell? ⟨ba, i, none⟩ = some (.int .i64 (y : Int)) := by rw [HM.out.ha.nat i (by have := HA.out; omega), hy]
                        have q2 : wr.cell? ⟨ba, j, none⟩ = some (.int .i64 (x : Int)) := by rw [HM.out.ha.nat j (by have := HA.out; omega), hx]
                        have q3 : wr.cell? ⟨bl, y, none⟩ = some (.string Ly) := by rw [HM.out.hl.str y (by have := HN.out; omega), hLy]; rfl
                        have q4 : wr.cell? ⟨bl, x, none⟩ = some (.string Lx) := by rw [HM.out.hl.str x (by have := HN.out; omega), hLx]; rfl
                        have htn : t < n := by omega
                        obtain ⟨v5, q5⟩ : ∃ v, wr.cell? ⟨bb, t, none⟩ = some v := ⟨_, HM.out.hb.nat t (by have := HBl.out; omega)⟩
                        have q6 := HM.out.hb.frozen t
                        have hle := le_test ls y x (by omega)
                        rw [← hLy, ← hLx] at hle
                        have hi1 : (i : Int) < (n : Int) := by omega
                        have hi2 : (j : Int) < (n : Int) := by omega
                        have hi3 : (y : Int) < (n : Int) := by omega
                        have hi4 : (x : Int) < (n : Int) := by omega
                        have hi5 : (t : Int) < (n : Int) := by omega
                        have cib : decide ((i : Int) < (mid : Int)) = true := by simp; omega
                        have cjb : decide ((j : Int) < (hi : Int)) = true := by simp; omega
                        by_cases hb : Op.bytesLess Lx.toList Ly.toList = true
                        · have HN5 : Hid (∀ nq, SM w ((wr.drewN nq).setCell ⟨bb, t, none⟩ (.int .i64 (x : Int))) bl ls ba bb A (B.set t x)) := fun nq => (HM.out.drewN nq).setB hbl t x
                          have HT5 : Hid ((B.set t x).take (t + 1) ++ List.merge (seg A i mid) (seg A (j + 1) hi) (le ls) = List.take l B0 ++ List.merge (seg A l mid) (seg A mid hi) (le ls)) := by
                            unfold Hid
                            rw [take_put (by have := HBl.out; omega), ← HT.out, merge_right ci cj (by have := HA.out; omega) (by have := HA.out; omega) (by rw [← hy, ← hx, hle, hb]; simp), hx]
                            simp
                          clear hle hLx hLy hx hy htt
                          go_wp2
                          go_quiet (fail)
                          go_wp2
                          go_roundw
                          case rel => exact ⟨i, j + 1, t + 1, B.set t x, i1, i2, by omega, by omega, by have := HTT.out; omega, rfl, by go_num, by go_num, by simp [HBl.out], HT5.out, HN5.out nq⟩
                          case measure => simp [intOf]; omega
                        · have hbf : Op.bytesLess Lx.toList Ly.toList = false := by simpa using hb
                          have HN5 : Hid (∀ nq, SM w ((wr.drewN nq).setCell ⟨bb, t, none⟩ (.int .i64 (y : Int))) bl ls ba bb A (B.set t y)) := fun nq => (HM.out.drewN nq).setB hbl t y
                          have HT5 : Hid ((B.set t y).take (t + 1) ++ List.merge (seg A (i + 1) mid) (seg A j hi) (le ls) = List.take l B0 ++ List.merge (seg A l mid) (seg A mid hi) (le ls)) := by
                            unfold Hid
                            rw [take_put (by have := HBl.out; omega), ← HT.out, merge_left ci cj (by have := HA.out; omega) (by have := HA.out; omega) (by rw [← hy, ← hx, hle, hbf]; rfl), hy]
                            simp
                          clear hle hLx hLy hx hy htt hb
                          go_wp2
                          go_quiet (fail)
                          go_wp2
                          go_roundw
                          case rel => exact ⟨i + 1, j, t + 1, B.set t y, by omega, by omega, j1, j2, by have := HTT.out; omega, by go_num, rfl, by go_num, by simp [HBl.out], HT5.out, HN5.out nq⟩
                          case measure => simp [intOf]; omega
                      · have cib : decide ((i : Int) < (mid : Int)) = true := by simp; omega
                        have cjb : decide ((j : Int) < (hi : Int)) = false := by simp; omega
                        have HT0 : Hid (B.take t ++ (seg A i mid ++ seg A j hi) = List.take l B0 ++ List.merge (seg A l mid) (seg A mid hi) (le ls)) := by
                          unfold Hid
                          rw [← HT.out, merge_out (by omega)]
                        clear HT
                        go_wp2
                        go_loopw [11, 13] (fun xi xt wr => ∃ i' t' : Nat, ∃ B : List Nat, l ≤ i' ∧ i' ≤ mid ∧ t' + mid = i' + j ∧ xi = .int .i64 i' ∧ xt = .int .i64 t' ∧ B.length = n ∧ B.take t' ++ (seg A i' mid ++ seg A j hi) = List.take l B0 ++ List.merge (seg A l mid) (seg A mid hi) (le ls) ∧ SM w wr bl ls ba bb A B) (fun xi _ _ => mid - (intOf xi).toNat)
                        case atStart => exact ⟨i, t, B, i1, i2, HTT.out, rfl, rfl, HBl.out, HT0.out, HM.out⟩
                        case round =>
                          clear HM HBl HT0 HTT B
                          obtain ⟨i', t', B, k1, k2, htt, rfl, rfl, hBl, hT, hm⟩ := hrel
                          have HM := hide hm
                          have HBl := hide hBl
                          have HT := hide hT
                          have HTT := hide htt
                          have t2 : t' ≤ n := by omega
                          clear hm hBl hT
                          by_cases ci5 : i' < mid
                          · obtain ⟨y, hy⟩ : ∃ y, y = A.getD i' 0 := ⟨_, rfl⟩
                            have q1 : wr.cell? ⟨ba, i', none⟩ = some (.int .i64 (y : Int)) := by rw [HM.out.ha.nat i' (by have := HA.out; omega), hy]
                            have htn : t' < n := by omega
                            obtain ⟨v5, q5⟩ : ∃ v, wr.cell? ⟨bb, t', none⟩ = some v := ⟨_, HM.out.hb.nat t' (by have := HBl.out; omega)⟩
                            have q6 := HM.out.hb.frozen t'
                            have hi1 : (i' : Int) < (n : Int) := by omega
                            have hi5 : (t' : Int) < (n : Int) := by omega
                            have HN5 : Hid (SM w (wr.setCell ⟨bb, t', none⟩ (.int .i64 (y : Int))) bl ls ba bb A (B.set t' y)) := HM.out.setB hbl t' y
                            have HT5 : Hid ((B.set t' y).take (t' + 1) ++ (seg A (i' + 1) mid ++ seg A j hi) = List.take l B0 ++ List.merge (seg A l mid) (seg A mid hi) (le ls)) := by
                              unfold Hid
                              rw [take_put (by have := HBl.out; omega), ← HT.out, seg_cons A i' mid ci5 (by have := HA.out; omega), hy]
                              simp
                            clear hy htt
                            go_wp2
                            go_roundw
                            case rel => exact ⟨i' + 1, t' + 1, B.set t' y, by omega, by omega, by have := HTT.out; omega, by go_num, by go_num, by simp [HBl.out], HT5.out, HN5.out⟩
                            case measure => simp [intOf]; omega
                          · have HT6 : Hid (B.take j ++ seg A j hi = List.take l B0 ++ List.merge (seg A l mid) (seg A mid hi) (le ls)) := by
                              unfold Hid
                              rw [← HT.out, seg_nil A i' mid (by omega), show t' = j by omega]
                              simp
                            have htj : t' = j := by omega
                            clear HT HTT htt
                            go_wp2
                            go_loopw [12, 13] (fun xj xt wr => ∃ j' : Nat, ∃ B : List Nat, mid ≤ j' ∧ j' ≤ hi ∧ xj = .int .i64 j' ∧ xt = .int .i64 j' ∧ B.length = n ∧ B.take j' ++ seg A j' hi = List.take l B0 ++ List.merge (seg A l mid) (seg A mid hi) (le ls) ∧ SM w wr bl ls ba bb A B) (fun xj _ _ => hi - (intOf xj).toNat)
                            case atStart => exact ⟨j, B, j1, j2, rfl, by rw [htj], HBl.out, HT6.out, HM.out⟩
                            case round =>
                              clear HM HBl HT6 htj B
                              obtain ⟨j', B, k3, k4, rfl, rfl, hBl, hT, hm⟩ := hrel
                              have HM := hide hm
                              have HBl := hide hBl
                              have HT := hide hT
                              clear hm hBl hT
                              by_cases cj6 : j' < hi
                              · obtain ⟨x, hx⟩ : ∃ x, x = A.getD j' 0 := ⟨_, rfl⟩
                                have q1 : wr.cell? ⟨ba, j', none⟩ = some (.int .i64 (x : Int)) := by rw [HM.out.ha.nat j' (by have := HA.out; omega), hx]
                                obtain ⟨v5, q5⟩ : ∃ v, wr.cell? ⟨bb, j', none⟩ = some v := ⟨_, HM.out.hb.nat j' (by have := HBl.out; omega)⟩
                                have q6 := HM.out.hb.frozen j'
                                have hi1 : (j' : Int) < (n : Int) := by omega
                                have HN5 : Hid (SM w (wr.setCell ⟨bb, j', none⟩ (.int .i64 (x : Int))) bl ls ba bb A (B.set j' x)) := HM.out.setB hbl j' x
                                have HT5 : Hid ((B.set j' x).take (j' + 1) ++ seg A (j' + 1) hi = List.take l B0 ++ List.merge (seg A l mid) (seg A mid hi) (le ls)) := by
                                  unfold Hid
                                  rw [take_put (by have := HBl.out; omega), ← HT.out, seg_cons A j' hi cj6 (by have := HA.out; omega), hx]
                                  simp
                                clear hx
                                go_wp2
                                go_roundw
                                case rel => exact ⟨j' + 1, B.set j' x, by omega, by omega, by go_num, by go_num, by simp [HBl.out], HT5.out, HN5.out⟩
                                case measure => simp [intOf]; omega
                              · have HE : Hid (∀ m', m' < m + 1 → m' * (2 * W) < n → Run ls B (m' * (2 * W)) (min (m' * (2 * W) + 2 * W) n)) := by
                                  have hj : j' = hi := by omega
                                  have hT := HT.out
                                  rw [hj, seg_nil A hi hi (Nat.le_refl _), List.append_nil] at hT
                                  exact next_runs HLo.out hln HMid.out HHi.out HB.out hT R2.out.1 R2.out.2 HRB.out
                                clear HT
                                go_wp2
                                go_roundw
                                case rel => exact ⟨m + 1, l + 2 * W, B, by rw [HLo.out, Nat.add_mul, Nat.one_mul], by omega, by go_num, HBl.out, HE.out, HM.out⟩
                                case measure => simp [intOf]; omega
                    · have cib : decide ((i : Int) < (mid : Int)) = false := by simp; omega
                      have HT0 : Hid (B.take t ++ (seg A i mid ++ seg A j hi) = List.take l B0 ++ List.merge (seg A l mid) (seg A mid hi) (le ls)) := by
                        unfold Hid
                        rw [← HT.out, merge_out (by omega)]
                      clear HT
                      go_wp2
                      go_loopw [11, 13] (fun xi xt wr => ∃ i' t' : Nat, ∃ B : List Nat, l ≤ i' ∧ i' ≤ mid ∧ t' + mid = i' + j ∧ xi = .int .i64 i' ∧ xt = .int .i64 t' ∧ B.length = n ∧ B.take t' ++ (seg A i' mid ++ seg A j hi) = List.take l B0 ++ List.merge (seg A l mid) (seg A mid hi) (le ls) ∧ SM w wr bl ls ba bb A B) (fun xi _ _ => mid - (intOf xi).toNat)
                      case atStart => exact ⟨i, t, B, i1, i2, HTT.out, rfl, rfl, HBl.out, HT0.out, HM.out⟩
                      case round =>
                        clear HM HBl HT0 HTT B
                        obtain ⟨i', t', B, k1, k2, htt, rfl, rfl, hBl, hT, hm⟩ := hrel
                        have HM := hide hm
                        have HBl := hide hBl
                        have HT := hide hT
                        have HTT := hide htt
                        have t2 : t' ≤ n := by omega
                        clear hm hBl hT
                        by_cases ci5 : i' < mid
                        · obtain ⟨y, hy⟩ : ∃ y, y = A.getD i' 0 := ⟨_, rfl⟩
                          have q1 : wr.cell? ⟨ba, i', none⟩ = some (.int .i64 (y : Int)) := by rw [HM.out.ha.nat i' (by have := HA.out; omega), hy]
                          have htn : t' < n := by omega
                          obtain ⟨v5, q5⟩ : ∃ v, wr.cell? ⟨bb, t', none⟩ = some v := ⟨_, HM.out.hb.nat t' (by have := HBl.out; omega)⟩
                          have q6 := HM.out.hb.frozen t'
                          have hi1 : (i' : Int) < (n : Int) := by omega
                          have hi5 : (t' : Int) < (n : Int) := by omega
                          have HN5 : Hid (SM w (wr.setCell ⟨bb, t', none⟩ (.int .i64 (y : Int))) bl ls ba bb A (B.set t' y)) := HM.out.setB hbl t' y
                          have HT5 : Hid ((B.set t' y).take (t' + 1) ++ (seg A (i' + 1) mid ++ seg A j hi) = List.take l B0 ++ List.merge (seg A l mid) (seg A mid hi) (le ls)) := by
                            unfold Hid
                            rw [take_put (by have := HBl.out; omega), ← HT.out, seg_cons A i' mid ci5 (by have := HA.out; omega), hy]
                            simp
                          clear hy htt
                          go_wp2
                          go_roundw
                          case rel => exact ⟨i' + 1, t' + 1, B.set t' y, by omega, by omega, by have := HTT.out; omega, by go_num, by go_num, by simp [HBl.out], HT5.out, HN5.out⟩
                          case measure => simp [intOf]; omega
                        · have HT6 : Hid (B.take j ++ seg A j hi = List.take l B0 ++ List.merge (seg A l mid) (seg A mid hi) (le ls)) := by
                            unfold Hid
                            rw [← HT.out, seg_nil A i' mid (by omega), show t' = j by omega]
                            simp
                          have htj : t' = j := by omega
                          clear HT HTT htt
                          go_wp2
                          go_loopw [12, 13] (fun xj xt wr => ∃ j' : Nat, ∃ B : List Nat, mid ≤ j' ∧ j' ≤ hi ∧ xj = .int .i64 j' ∧ xt = .int .i64 j' ∧ B.length = n ∧ B.take j' ++ seg A j' hi = List.take l B0 ++ List.merge (seg A l mid) (seg A mid hi) (le ls) ∧ SM w wr bl ls ba bb A B) (fun xj _ _ => hi - (intOf xj).toNat)
                          case atStart => exact ⟨j, B, j1, j2, rfl, by rw [htj], HBl.out, HT6.out, HM.out⟩
                          case round =>
                            clear HM HBl HT6 htj B
                            obtain ⟨j', B, k3, k4, rfl, rfl, hBl, hT, hm⟩ := hrel
                            have HM := hide hm
                            have HBl := hide hBl
                            have HT := hide hT
                            clear hm hBl hT
                            by_cases cj6 : j' < hi
                            · obtain ⟨x, hx⟩ : ∃ x, x = A.getD j' 0 := ⟨_, rfl⟩
                              have q1 : wr.cell? ⟨ba, j', none⟩ = some (.int .i64 (x : Int)) := by rw [HM.out.ha.nat j' (by have := HA.out; omega), hx]
                              obtain ⟨v5, q5⟩ : ∃ v, wr.cell? ⟨bb, j', none⟩ = some v := ⟨_, HM.out.hb.nat j' (by have := HBl.out; omega)⟩
                              have q6 := HM.out.hb.frozen j'
                              have hi1 : (j' : Int) < (n : Int) := by omega
                              have HN5 : Hid (SM w (wr.setCell ⟨bb, j', none⟩ (.int .i64 (x : Int))) bl ls ba bb A (B.set j' x)) := HM.out.setB hbl j' x
                              have HT5 : Hid ((B.set j' x).take (j' + 1) ++ seg A (j' + 1) hi = List.take l B0 ++ List.merge (seg A l mid) (seg A mid hi) (le ls)) := by
                                unfold Hid
                                rw [take_put (by have := HBl.out; omega), ← HT.out, seg_cons A j' hi cj6 (by have := HA.out; omega), hx]
                                simp
                              clear hx
                              go_wp2
                              go_roundw
                              case rel => exact ⟨j' + 1, B.set j' x, by omega, by omega, by go_num, by go_num, by simp [HBl.out], HT5.out, HN5.out⟩
                              case measure => simp [intOf]; omega
                            · have HE : Hid (∀ m', m' < m + 1 → m' * (2 * W) < n → Run ls B (m' * (2 * W)) (min (m' * (2 * W) + 2 * W) n)) := by
                                have hj : j' = hi := by omega
                                have hT := HT.out
                                rw [hj, seg_nil A hi hi (Nat.le_refl _), List.append_nil] at hT
                                exact next_runs HLo.out hln HMid.out HHi.out HB.out hT R2.out.1 R2.out.2 HRB.out
                              clear HT
                              go_wp2
                              go_roundw
                              case rel => exact ⟨m + 1, l + 2 * W, B, by rw [HLo.out, Nat.add_mul, Nat.one_mul], by omega, by go_num, HBl.out, HE.out, HM.out⟩
                              case measure => simp [intOf]; omega
            · have HR2 : Hid (Runs ls B0 (2 * W) n) := by
                intro m' hm'
                refine HRB.out m' ?_ hm'
                have h1 := HLo.out
                apply Decidable.byContradiction
                intro hc
                have := Nat.mul_le_mul_right (2 * W) (show m ≤ m' by omega)
                omega
              go_wp2
              go_roundw
              case rel => exact ⟨2 * W, bb, ba, B0, A, by omega, by omega, by go_num, rfl, rfl, HB.out, HA.out, HR2.out, HM.out.swap⟩
              case measure => simp [intOf]; omega
        · have HF : Hid (Run ls A 0 n) := by
            have := HR.out 0 (by omega)
            rw [Nat.zero_mul, Nat.zero_add, show min W n = n by omega] at this
            exact this
          go_wp2
          go_ret
          exact ⟨ba, A, rfl, HM.out.la, HM.out.ha, HA.out, HF.out, HM.out.bel⟩
end Go.Proofs.Qxb6602784a.grf
#print axioms Go.Proofs.Qxb6602784a.grf.sorted_some
