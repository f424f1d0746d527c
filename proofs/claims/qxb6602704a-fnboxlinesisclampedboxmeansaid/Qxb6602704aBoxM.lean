import Derived.Test.Qxb6602704aBoxA
import Derived.Test.Qxb6602704aBoxP
import Derived.RegionTactic
import Derived.BigRegion
namespace Go.Proofs.Qxb6602704a.box
open Go.ChangeShapes Go.WideShapes Go.ChangeAt Go.RowKit
set_option linter.unusedSimpArgs false
set_option linter.unusedVariables false

theorem pre0 {P : List Int} (h : P.getD 0 0 = 0) (p : Nat → Int) : ∀ q, q ≤ 0 → P.getD q 0 = pre p q := by
  intro q hq
  have : q = 0 := by omega
  subst this
  rw [h]; rfl

theorem pre_bd {p : Nat → Int} (h : ∀ k, 0 ≤ p k ∧ p k ≤ 255) (k : Nat) : 0 ≤ pre p k ∧ pre p k ≤ 255 * k := by
  induction k with
  | zero => simp [pre]
  | succ k ih => have := h k; simp only [pre]; omega

theorem pre_set {P : List Int} {p : Nat → Int} {k : Nat} {X Y : Int} (h : ∀ q, q ≤ k → P.getD q 0 = pre p q) (hX : X = pre p k) (hY : Y = p k) (hl : k + 1 < P.length) :
    ∀ q, q ≤ k + 1 → (P.set (k + 1) (X + Y)).getD q 0 = pre p q := by
  intro q hq
  by_cases c : q = k + 1
  · subst c
    simp [hl, pre, hX, hY]
  · have := h q (by omega)
    rw [List.getD_eq_getElem?_getD, List.getElem?_set_ne (by omega), ← List.getD_eq_getElem?_getD]
    exact this

theorem line_bd {src : List Int} (h : ∀ x ∈ src, 0 ≤ x ∧ x ≤ 255) (b T : Nat) : ∀ k, 0 ≤ lineOf src b T k ∧ lineOf src b T k ≤ 255 := fun k => src_bd h _

theorem q_set {Q : List Int} {len c j : Nat} {v : Nat → Nat → Int} (hQ : Q.length = 4 * len) (hc : c < 4) (hj : j < len) (h1 : ∀ c'' j, c'' < c → j < len → Q.getD (4 * j + c'') 0 = v j c'') (h2 : ∀ j', j' < j → Q.getD (4 * j' + c) 0 = v j' c) :
    (Q.set (4 * j + c) (v j c)).length = 4 * len ∧ (∀ c'' j', c'' < c → j' < len → (Q.set (4 * j + c) (v j c)).getD (4 * j' + c'') 0 = v j' c'') ∧ (∀ j', j' < j + 1 → (Q.set (4 * j + c) (v j c)).getD (4 * j' + c) 0 = v j' c) := by
  refine ⟨by simp [hQ], ?_, ?_⟩
  · intro c'' j' hc'' hj'
    rw [List.getD_eq_getElem?_getD, List.getElem?_set_ne (by omega), ← List.getD_eq_getElem?_getD]
    exact h1 c'' j' hc'' hj'
  · intro j' hj'
    by_cases e : j' = j
    · subst e
      simp [show 4 * j' + c < Q.length by omega]
    · rw [List.getD_eq_getElem?_getD, List.getElem?_set_ne (by omega), ← List.getD_eq_getElem?_getD]
      exact h2 j' (by omega)

theorem close_val {Sv V0 U : Int} {reach : Nat} (hT : U = Sv) (hv : V0 = mean Sv reach) (hb : 0 ≤ mean Sv reach ∧ mean Sv reach ≤ 255) : (2 * U + (2 * (reach : Int) + 1)) / (2 * (2 * (reach : Int) + 1)) % 256 = V0 := by
  rw [hT, hv]
  show mean Sv reach % 256 = mean Sv reach
  omega

theorem sum1 {p : Nat → Int} {len reach j : Nat} {F G X1 : Int} (h : j < len) (ca : (j : Int) - reach < 0) (cb : (len : Int) - 1 < (j : Int) + reach) (hF : p 0 = F) (hG : p (len - 1) = G) (h1 : X1 = pre p len) :
    X1 + -((j : Int) - reach) * F + ((j : Int) + reach - ((len : Int) - 1)) * G = S p len reach j := by
  have hm := model_sum p len reach j h
  rw [if_pos ca, if_pos ca, if_pos cb, if_pos cb, show ((len : Int) - 1 + 1).toNat = len by omega, hF, hG, ← h1, show pre p (0 : Int).toNat = 0 from rfl] at hm
  rw [← hm]; omega
theorem sum2 {p : Nat → Int} {len reach j : Nat} {F X1 : Int} (h : j < len) (ca : (j : Int) - reach < 0) (cb : ¬ (len : Int) - 1 < (j : Int) + reach) (hF : p 0 = F) (h1 : X1 = pre p (j + reach + 1)) :
    X1 + -((j : Int) - reach) * F = S p len reach j := by
  have hm := model_sum p len reach j h
  rw [if_pos ca, if_pos ca, if_neg cb, if_neg cb, show ((j : Int) + reach + 1).toNat = j + reach + 1 by omega, hF, ← h1, show pre p (0 : Int).toNat = 0 from rfl] at hm
  rw [← hm]; omega
theorem sum3 {p : Nat → Int} {len reach j : Nat} {G X0 X1 : Int} (h : j < len) (ca : ¬ (j : Int) - reach < 0) (cb : (len : Int) - 1 < (j : Int) + reach) (hG : p (len - 1) = G) (h0 : X0 = pre p (j - reach)) (h1 : X1 = pre p len) :
    X1 - X0 + ((j : Int) + reach - ((len : Int) - 1)) * G = S p len reach j := by
  have hm := model_sum p len reach j h
  rw [if_neg ca, if_neg ca, if_pos cb, if_pos cb, show ((len : Int) - 1 + 1).toNat = len by omega, show ((j : Int) - reach).toNat = j - reach by omega, hG, ← h1, ← h0] at hm
  rw [← hm]; omega
theorem sum4 {p : Nat → Int} {len reach j : Nat} {X0 X1 : Int} (h : j < len) (ca : ¬ (j : Int) - reach < 0) (cb : ¬ (len : Int) - 1 < (j : Int) + reach) (h0 : X0 = pre p (j - reach)) (h1 : X1 = pre p (j + reach + 1)) :
    X1 - X0 = S p len reach j := by
  have hm := model_sum p len reach j h
  rw [if_neg ca, if_neg ca, if_neg cb, if_neg cb, show ((j : Int) + reach + 1).toNat = j + reach + 1 by omega, show ((j : Int) - reach).toNat = j - reach by omega, ← h1, ← h0] at hm
  rw [← hm]; omega

theorem val_of {src : List Int} {L T len reach i j c A : Nat} (hA : A = i * L) (hb : 0 ≤ mean (S (lineOf src (A + c) T) len reach j) reach ∧ mean (S (lineOf src (A + c) T) len reach j) reach ≤ 255) {U : Int} (hU : U = S (lineOf src (A + c) T) len reach j) :
    (2 * U + (2 * (reach : Int) + 1)) / (2 * (2 * (reach : Int) + 1)) % 256 = val src L T len reach i j c :=
  close_val hU (by unfold val; rw [hA]) hb

/-- The model's memory: the source, what it makes: the wanted bytes, the prefix sums, the line's values. -/
structure MS (w wr : World) (bs : Nat) (src D P Q : List Int) : Prop where
  hs : Blk wr bs 5 (ints .u8 src)
  hd : Blk wr w.heap.size 5 (ints .u8 D)
  hp : Blk wr (w.heap.size + 1) 2 (ints .i64 P)
  hq : Blk wr (w.heap.size + 1 + 1) 5 (ints .u8 Q)
  bel : Below w.heap.size w wr

section
variable {w wr : World} {bs : Nat} {src D P Q : List Int}
theorem MS.setD (h : MS w wr bs src D P Q) (hb : bs < w.heap.size) (i : Nat) (v : Int) : MS w (wr.setCell ⟨w.heap.size, i, none⟩ (.int .u8 v)) bs src (D.set i v) P Q :=
  ⟨h.hs.set_ne _ (by simp; omega) _, h.hd.setInt i v, h.hp.set_ne _ (by simp; try omega) _, h.hq.set_ne _ (by simp; try omega) _, h.bel.setCell (Nat.le_refl _) _⟩
theorem MS.setP (h : MS w wr bs src D P Q) (hb : bs < w.heap.size) (i : Nat) (v : Int) : MS w (wr.setCell ⟨w.heap.size + 1, i, none⟩ (.int .i64 v)) bs src D (P.set i v) Q :=
  ⟨h.hs.set_ne _ (by simp; omega) _, h.hd.set_ne _ (by simp; try omega) _, h.hp.setInt i v, h.hq.set_ne _ (by simp; try omega) _, h.bel.setCell (by simp; try omega) _⟩
theorem MS.setQ (h : MS w wr bs src D P Q) (hb : bs < w.heap.size) (i : Nat) (v : Int) : MS w (wr.setCell ⟨w.heap.size + 1 + 1, i, none⟩ (.int .u8 v)) bs src D P (Q.set i v) :=
  ⟨h.hs.set_ne _ (by simp; omega) _, h.hd.set_ne _ (by simp; try omega) _, h.hp.set_ne _ (by simp; try omega) _, h.hq.setInt i v, h.bel.setCell (by simp; try omega) _⟩
theorem MS.drewN (h : MS w wr bs src D P Q) (n : Nat) : MS w (wr.drewN n) bs src D P Q :=
  ⟨h.hs, h.hd, h.hp, h.hq, h.bel.trans ⟨rfl, rfl, rfl, Nat.le_refl _, fun _ _ => rfl⟩⟩
theorem MS.drew (h : MS w wr bs src D P Q) : MS w wr.drew bs src D P Q :=
  ⟨h.hs, h.hd, h.hp, h.hq, h.bel.drew⟩
end

set_option maxRecDepth 100000 in
/-- Fewer than one line: a copy of dst. -/
theorem model_none (v : Value) (sv : Value) (dl ds sl ss n len reach : Int) (hn : n < 1) (w : World) (R : Ending → World → Prop) (hcl : ∀ w, Calls Try.prog 12 #[v] w R) (R' : Value → World → Prop) (hR : ∀ e w', R e w' → ∃ u, e = .returned u ∧ R' u w') :
    Calls Try.prog 13 #[v, sv, .int .i64 dl, .int .i64 ds, .int .i64 sl, .int .i64 ss, .int .i64 n, .int .i64 len, .int .i64 reach] w fun e w' => ∃ u, e = .returned u ∧ R' u w' := by
  have HC := hide hcl
  have HR := hide hR
  clear hcl hR
  go_enter Try.func13, Try.ntmps13
  go_wp2_with fail
  refine (HC.out _).mono ?_
  intro e w' he
  obtain ⟨u, rfl, hu⟩ := HR.out e w' he
  have HU := hide hu
  clear he hu
  go_wp2
  go_ret
  exact ⟨u, rfl, HU.out⟩

set_option maxRecDepth 100000 in
set_option maxHeartbeats 1000000 in
theorem model_some (bd bs dcap scap n len reach L T DL DT : Nat) (src d : List Int) (dl ds sl ss : Int) (hn : 1 ≤ n) (hn2 : n ≤ 65536) (hl : 1 ≤ len) (hl2 : len ≤ 65536) (hr : reach ≤ 65536)
    (hds : d.length ≤ 1048576) (hss : src.length ≤ 1048576) (gd : Geo d.length dl ds n len DL DT) (gs : Geo src.length sl ss n len L T) (hsb : ∀ x ∈ src, 0 ≤ x ∧ x ≤ 255)
    (w : World) (hbd : Blk w bd 5 (ints .u8 d)) (hbs : Blk w bs 5 (ints .u8 src)) :
    Calls Try.prog 13 #[.slice (some ⟨bd, 0, none⟩) d.length dcap, .slice (some ⟨bs, 0, none⟩) src.length scap, .int .i64 dl, .int .i64 ds, .int .i64 sl, .int .i64 ss, .int .i64 n, .int .i64 len, .int .i64 reach] w
      fun e w' => e = .returned (.slice (some ⟨w.heap.size, 0, none⟩) d.length d.length) ∧ Blk w' w.heap.size 5 (ints .u8 (result src d L T DL DT n len reach)) ∧ Below w.heap.size w w' := by
  have hnz : decide ((n : Int) < 1) = false := by simp; omega
  have hbs1 := hbs.lt
  have hbd1 := hbd.lt
  have hmk1 : ∀ w : World, Sem.run Try.prog (Instr.makeSlice 45 (.int .i64 ((len : Int) + 1)) (.int .i64 ((len : Int) + 1))) w = .ok (.slice (some ⟨w.heap.size, 0, none⟩) (len + 1) (len + 1)) (w.alloc (.cells (madeCells #[.int .i64 0] (len + 1)) 2)) := fun w => by
    have := run_make_row' (P := Try.prog) 45 2 (.int .i64 0) 8 Try.underlying45 info2 rfl .i64 .i64 (len + 1) (by omega) (by omega) w
    simpa using this
  have hmk2 : ∀ w : World, Sem.run Try.prog (Instr.makeSlice 22 (.int .i64 (4 * (len : Int))) (.int .i64 (4 * (len : Int)))) w = .ok (.slice (some ⟨w.heap.size, 0, none⟩) (4 * len) (4 * len)) (w.alloc (.cells (madeCells #[.int .u8 0] (4 * len)) 5)) := fun w => by
    have := run_make_row' (P := Try.prog) 22 5 (.int .u8 0) 1 Try.underlying22 info5 rfl .i64 .i64 (4 * len) (by omega) (by omega) w
    simpa using this
  have HBD := hide hbd
  have HBS := hide hbs
  have GD := hide gd
  have GS := hide gs
  have SB := hide hsb
  clear hbd hbs gd gs hsb
  go_enter Try.func13, Try.ntmps13
  go_wp2_with fail
  refine (clone_some bd 0 d.length dcap d rfl hds _ hbd1 (fun i hi => by simpa using HBD.out.int i hi)).mono ?_
  rintro e w1 ⟨rfl, hb1, hbel1, hsz1⟩
  have H1 := hide (And.intro hb1 (And.intro hbel1 hsz1))
  clear hb1 hbel1
  go_wp2
  go_loopw [23] (fun i wr => ∃ k : Nat, k ≤ n ∧ i = .int .i64 k ∧ ∃ P Q, P.length = len + 1 ∧ P.getD 0 0 = 0 ∧ Q.length = 4 * len ∧ MS w wr bs src (result src d L T DL DT k len reach) P Q) (fun i _ => n - (intOf i).toNat)
  case atStart => 
    obtain ⟨hb1, hbel1, _⟩ := H1.out
    refine ⟨0, Nat.zero_le _, rfl, List.replicate (len + 1) 0, List.replicate (4 * len) 0, by simp, by simp, by simp, ⟨?_, ?_, ?_, ?_, ?_⟩⟩
    · exact ((HBS.out.below hbel1 hbs1).alloc _).alloc _
    · exact (hb1.alloc _).alloc _
    · have := (Blk.new w1 (madeCells #[.int .i64 0] (len + 1)) 2).alloc (.cells (madeCells #[.int .u8 0] (4 * len)) 5)
      rw [made_ints, hsz1] at this
      exact this
    · have := Blk.new (w1.alloc (.cells (madeCells #[.int .i64 0] (len + 1)) 2)) (madeCells #[.int .u8 0] (4 * len)) 5
      rw [made_ints] at this
      simpa [hsz1] using this
    · exact (hbel1.alloc (by omega) _).alloc (by simp; omega) _
  case round =>
    obtain ⟨i, hi, rfl, P, Q, hP, hP0, hQ, hms⟩ := hrel
    have HM := hide hms
    have HP := hide (And.intro hP (And.intro hP0 hQ))
    clear hms hP hP0 hQ H1 hsz1
    by_cases hlt : i < n
    · obtain ⟨A, hA⟩ : ∃ A, A = i * L := ⟨_, rfl⟩
      have eA : wrap64 ((i : Int) * sl) = (A : Int) := by rw [GS.out.hl i hlt, hA]
      have hA2 : A + 4 ≤ src.length := by have := GS.out.fit i 0 hlt (by omega); rw [hA]; omega
      have HA := hide hA
      clear hA
      go_wp2
      go_loopw [24] (fun c wr => ∃ c' : Nat, c' ≤ 4 ∧ c = .int .i64 c' ∧ ∃ P Q, P.length = len + 1 ∧ P.getD 0 0 = 0 ∧ Q.length = 4 * len ∧ (∀ c'' j, c'' < c' → j < len → Q.getD (4 * j + c'') 0 = val src L T len reach i j c'') ∧ MS w wr bs src (result src d L T DL DT i len reach) P Q) (fun c _ => 4 - (intOf c).toNat)
      case atStart => exact ⟨0, by omega, rfl, P, Q, HP.out.1, HP.out.2.1, HP.out.2.2, fun c'' j h => by omega, HM.out⟩
      case round =>
        clear HM HP P Q
        obtain ⟨c, hc, rfl, P, Q, hP, hP0, hQ, hqv, hms⟩ := hrel
        have HM := hide hms
        have HP := hide (And.intro hP (And.intro hP0 hQ))
        have HQ := hide hqv
        have HQL := hide hQ
        clear hms hP hP0 hQ hqv
        by_cases hc4 : c < 4
        · have hc4b : decide ((c : Int) < 4) = true := by simp; omega
          go_wp2
          clear eA
          go_loopw [26] (fun kk wr => ∃ k : Nat, k ≤ len ∧ kk = .int .i64 k ∧ ∃ P, P.length = len + 1 ∧ (∀ q, q ≤ k → P.getD q 0 = pre (lineOf src (A + c) T) q) ∧ MS w wr bs src (result src d L T DL DT i len reach) P Q) (fun kk _ => len - (intOf kk).toNat)
          case atStart => exact ⟨0, by omega, rfl, P, HP.out.1, pre0 HP.out.2.1 _, HM.out⟩
          case round =>
            clear HM HP P
            obtain ⟨k, hk, rfl, P, hP, hpv, hms⟩ := hrel
            have HM := hide hms
            have HP := hide hP
            have HV := hide hpv
            clear hms hP hpv
            by_cases hkl : k < len
            · obtain ⟨K, hK⟩ : ∃ K, K = k * T := ⟨_, rfl⟩
              have eK : wrap64 ((k : Int) * ss) = (K : Int) := by rw [GS.out.hs k hkl, hK]
              have hK2 : A + K + 4 ≤ src.length := by have := GS.out.fit i k hlt hkl; rw [HA.out, hK]; omega
              have HK := hide hK
              clear hK
              obtain ⟨X, hX⟩ : ∃ X, X = pre (lineOf src (A + c) T) k := ⟨_, rfl⟩
              obtain ⟨Y, hY⟩ : ∃ Y, Y = src.getD (A + c + K) 0 := ⟨_, rfl⟩
              have bX : 0 ≤ X ∧ X ≤ 255 * k := by rw [hX]; exact pre_bd (line_bd SB.out _ _) k
              have bY : 0 ≤ Y ∧ Y ≤ 255 := by rw [hY]; exact src_bd SB.out _
              have q1 : wr.cell? ⟨w.heap.size + 1, k, none⟩ = some (.int .i64 X) := by
                rw [HM.out.hp.int k (by have := HP.out; omega), HV.out k (by omega), hX]
              have q2 : wr.cell? ⟨bs, A + c + K, none⟩ = some (.int .u8 Y) := by
                rw [HM.out.hs.int (A + c + K) (by omega), hY]
              have q3 : ∃ v, wr.cell? ⟨w.heap.size + 1, k + 1, none⟩ = some v := ⟨_, HM.out.hp.int (k + 1) (by have := HP.out; omega)⟩
              obtain ⟨v3, q3⟩ := q3
              have q4 := HM.out.hp.frozen (k + 1)
              have hi1 : (k : Int) < (len : Int) + 1 := by omega
              have hi2 : (k : Int) + 1 < (len : Int) + 1 := by omega
              have hi3 : (A : Int) + c + K < (src.length : Int) := by omega
              have HX := hide hX
              have HY := hide hY
              clear hX hY
              go_wp2
              go_region
              go_wp2
              go_roundw
              case rel => exact ⟨k + 1, by omega, by go_num, P.set (k + 1) (X + Y), by simp [HP.out], pre_set HV.out HX.out (by rw [HY.out, HK.out]; rfl) (by have := HP.out; omega), (HM.out.setP hbs1 _ _).drew⟩
              case measure => simp [intOf]; omega
            · obtain ⟨F, hF⟩ : ∃ F, F = src.getD (A + c) 0 := ⟨_, rfl⟩
              obtain ⟨K, hK⟩ : ∃ K, K = (len - 1) * T := ⟨_, rfl⟩
              obtain ⟨G, hG⟩ : ∃ G, G = src.getD (A + c + K) 0 := ⟨_, rfl⟩
              have eK : wrap64 (((len : Int) - 1) * ss) = (K : Int) := by rw [show (len : Int) - 1 = ((len - 1 : Nat) : Int) by omega, GS.out.hs (len - 1) (by omega), hK]
              have hK2 : A + K + 4 ≤ src.length := by have := GS.out.fit i (len - 1) hlt (by omega); rw [HA.out, hK]; omega
              have bF : 0 ≤ F ∧ F ≤ 255 := by rw [hF]; exact src_bd SB.out _
              have bG : 0 ≤ G ∧ G ≤ 255 := by rw [hG]; exact src_bd SB.out _
              have q1 : wr.cell? ⟨bs, A + c, none⟩ = some (.int .u8 F) := by
                rw [HM.out.hs.int (A + c) (by omega), hF]
              have q2 : wr.cell? ⟨bs, A + c + K, none⟩ = some (.int .u8 G) := by
                rw [HM.out.hs.int (A + c + K) (by omega), hG]
              have hi1 : (A : Int) + c < (src.length : Int) := by omega
              have hi3 : (A : Int) + c + K < (src.length : Int) := by omega
              have HF := hide hF
              have HG := hide (And.intro hK hG)
              clear hF hG hK
              go_wp2
              have HV' : Hid (∀ q, q ≤ len → P.getD q 0 = pre (lineOf src (A + c) T) q) := fun q hq => HV.out q (by omega)
              clear q1 q2 eK hK2 hi1 hi3 HV
              go_loopw [29] (fun jj wr => ∃ j : Nat, j ≤ len ∧ jj = .int .i64 j ∧ ∃ Q, Q.length = 4 * len ∧ (∀ c'' j, c'' < c → j < len → Q.getD (4 * j + c'') 0 = val src L T len reach i j c'') ∧ (∀ j', j' < j → Q.getD (4 * j' + c) 0 = val src L T len reach i j' c) ∧ MS w wr bs src (result src d L T DL DT i len reach) P Q) (fun jj _ => len - (intOf jj).toNat)
              case atStart => exact ⟨0, by omega, rfl, Q, HQL.out, HQ.out, fun j' h => by omega, HM.out⟩
              case round =>
                clear HM
                obtain ⟨j, hj, rfl, Q, hQ, hq1, hq2, hms⟩ := hrel
                have HM := hide hms
                have HQ2 := hide (And.intro hQ (And.intro hq1 hq2))
                clear hms hQ hq1 hq2 
                by_cases hjl : j < len
                · have bS := S_bd (lineOf src (A + c) T) len reach j hl (fun k => (line_bd SB.out _ _ k).1) (fun k => (line_bd SB.out _ _ k).2)
                  have HMB := hide (mean_bd _ reach bS.1 bS.2)
                  have HF0 : Hid (lineOf src (A + c) T 0 = F) := by unfold Hid; rw [HF.out]; simp [lineOf]
                  have HG0 : Hid (lineOf src (A + c) T (len - 1) = G) := by unfold Hid; rw [HG.out.2, HG.out.1]; rfl
                  have BS := hide bS
                  clear bS
                  have HQ3 : Hid ((Q.set (4 * j + c) (val src L T len reach i j c)).length = 4 * len ∧ (∀ c'' j', c'' < c → j' < len → (Q.set (4 * j + c) (val src L T len reach i j c)).getD (4 * j' + c'') 0 = val src L T len reach i j' c'') ∧ (∀ j', j' < j + 1 → (Q.set (4 * j + c) (val src L T len reach i j c)).getD (4 * j' + c) 0 = val src L T len reach i j' c)) :=
                    q_set (v := fun j c => val src L T len reach i j c) HQ2.out.1 hc4 hjl HQ2.out.2.1 HQ2.out.2.2
                  obtain ⟨v5, q5⟩ : ∃ v, wr.cell? ⟨w.heap.size + 1 + 1, 4 * j + c, none⟩ = some v := ⟨_, HM.out.hq.int (4 * j + c) (by have := HQ2.out.1; omega)⟩
                  have q4 := HM.out.hq.frozen (4 * j + c)
                  by_cases ca : (j : Int) - reach < 0
                  · have hp1 := prod_bd (show 0 ≤ -((j : Int) - reach) by omega) (show -((j : Int) - reach) ≤ 65536 by omega) bF.1 bF.2
                    have q2 : wr.cell? ⟨w.heap.size + 1, 0, none⟩ = some (.int .i64 0) := by
                      rw [HM.out.hp.int 0 (by have := HP.out; omega), HV'.out 0 (by omega)]; rfl
                    by_cases cb : (len : Int) - 1 < (j : Int) + reach
                    · have hp2 := prod_bd (show 0 ≤ (j : Int) + reach - ((len : Int) - 1) by omega) (show (j : Int) + reach - ((len : Int) - 1) ≤ 131072 by omega) bG.1 bG.2
                      obtain ⟨X1, hX1⟩ : ∃ X, X = pre (lineOf src (A + c) T) len := ⟨_, rfl⟩
                      have q1 : wr.cell? ⟨w.heap.size + 1, len, none⟩ = some (.int .i64 X1) := by
                        rw [HM.out.hp.int len (by have := HP.out; omega), HV'.out len (by omega), hX1]
                      have bX1 : 0 ≤ X1 ∧ X1 ≤ 255 * len := by rw [hX1]; exact pre_bd (line_bd SB.out _ _) len
                      have HX1 := hide hX1
                      clear hX1
                      have bU : 0 ≤ X1 + -((j : Int) - reach) * F + ((j : Int) + reach - ((len : Int) - 1)) * G ∧ X1 + -((j : Int) - reach) * F + ((j : Int) + reach - ((len : Int) - 1)) * G ≤ 255 * (2 * (reach : Int) + 1) := by rw [sum1 hjl ca cb HF0.out HG0.out HX1.out]; exact BS.out
                      have HE : Hid ((2 * (X1 + -((j : Int) - reach) * F + ((j : Int) + reach - ((len : Int) - 1)) * G) + (2 * (reach : Int) + 1)) / (2 * (2 * (reach : Int) + 1)) % 256 = val src L T len reach i j c) := val_of HA.out HMB.out (sum1 hjl ca cb HF0.out HG0.out HX1.out)
                      have HM5 : Hid (∀ nq, MS w ((wr.drewN nq).setCell ⟨w.heap.size + 1 + 1, 4 * j + c, none⟩ (.int .u8 ((2 * (X1 + -((j : Int) - reach) * F + ((j : Int) + reach - ((len : Int) - 1)) * G) + (2 * (reach : Int) + 1)) / (2 * (2 * (reach : Int) + 1)) % 256))) bs src (result src d L T DL DT i len reach) P (Q.set (4 * j + c) (val src L T len reach i j c))) := by
                        intro nq; rw [HE.out]; exact (HM.out.drewN nq).setQ hbs1 _ _
                      clear HE
                      clear HX1
                      go_wp2
                      go_quiet (fail)
                      go_wp2
                      go_roundw
                      case rel =>
                        exact ⟨j + 1, by omega, by go_num, Q.set (4 * j + c) (val src L T len reach i j c), HQ3.out.1, HQ3.out.2.1, HQ3.out.2.2, HM5.out nq⟩
                      case measure => simp [intOf]; omega
                    · obtain ⟨X1, hX1⟩ : ∃ X, X = pre (lineOf src (A + c) T) (j + reach + 1) := ⟨_, rfl⟩
                      have q1 : wr.cell? ⟨w.heap.size + 1, j + reach + 1, none⟩ = some (.int .i64 X1) := by
                        rw [HM.out.hp.int (j + reach + 1) (by have := HP.out; omega), HV'.out (j + reach + 1) (by omega), hX1]
                      have bX1 : 0 ≤ X1 ∧ X1 ≤ 255 * (j + reach + 1 : Nat) := by rw [hX1]; exact pre_bd (line_bd SB.out _ _) _
                      have HX1 := hide hX1
                      clear hX1
                      have bU : 0 ≤ X1 + -((j : Int) - reach) * F ∧ X1 + -((j : Int) - reach) * F ≤ 255 * (2 * (reach : Int) + 1) := by rw [sum2 hjl ca cb HF0.out HX1.out]; exact BS.out
                      have HE : Hid ((2 * (X1 + -((j : Int) - reach) * F) + (2 * (reach : Int) + 1)) / (2 * (2 * (reach : Int) + 1)) % 256 = val src L T len reach i j c) := val_of HA.out HMB.out (sum2 hjl ca cb HF0.out HX1.out)
                      have HM5 : Hid (∀ nq, MS w ((wr.drewN nq).setCell ⟨w.heap.size + 1 + 1, 4 * j + c, none⟩ (.int .u8 ((2 * (X1 + -((j : Int) - reach) * F) + (2 * (reach : Int) + 1)) / (2 * (2 * (reach : Int) + 1)) % 256))) bs src (result src d L T DL DT i len reach) P (Q.set (4 * j + c) (val src L T len reach i j c))) := by
                        intro nq; rw [HE.out]; exact (HM.out.drewN nq).setQ hbs1 _ _
                      clear HE
                      clear HX1
                      go_wp2
                      go_quiet (fail)
                      go_wp2
                      go_roundw
                      case rel =>
                        exact ⟨j + 1, by omega, by go_num, Q.set (4 * j + c) (val src L T len reach i j c), HQ3.out.1, HQ3.out.2.1, HQ3.out.2.2, HM5.out nq⟩
                      case measure => simp [intOf]; omega
                  · obtain ⟨X0, hX0⟩ : ∃ X, X = pre (lineOf src (A + c) T) (j - reach) := ⟨_, rfl⟩
                    have q2 : wr.cell? ⟨w.heap.size + 1, j - reach, none⟩ = some (.int .i64 X0) := by
                      rw [HM.out.hp.int (j - reach) (by have := HP.out; omega), HV'.out (j - reach) (by omega), hX0]
                    have bX0 : 0 ≤ X0 ∧ X0 ≤ 255 * (j - reach : Nat) := by rw [hX0]; exact pre_bd (line_bd SB.out _ _) _
                    have HX0 := hide hX0
                    clear hX0
                    by_cases cb : (len : Int) - 1 < (j : Int) + reach
                    · have hp2 := prod_bd (show 0 ≤ (j : Int) + reach - ((len : Int) - 1) by omega) (show (j : Int) + reach - ((len : Int) - 1) ≤ 131072 by omega) bG.1 bG.2
                      obtain ⟨X1, hX1⟩ : ∃ X, X = pre (lineOf src (A + c) T) len := ⟨_, rfl⟩
                      have q1 : wr.cell? ⟨w.heap.size + 1, len, none⟩ = some (.int .i64 X1) := by
                        rw [HM.out.hp.int len (by have := HP.out; omega), HV'.out len (by omega), hX1]
                      have bX1 : 0 ≤ X1 ∧ X1 ≤ 255 * len := by rw [hX1]; exact pre_bd (line_bd SB.out _ _) len
                      have HX1 := hide hX1
                      clear hX1
                      have bU : 0 ≤ X1 - X0 + ((j : Int) + reach - ((len : Int) - 1)) * G ∧ X1 - X0 + ((j : Int) + reach - ((len : Int) - 1)) * G ≤ 255 * (2 * (reach : Int) + 1) := by rw [sum3 hjl ca cb HG0.out HX0.out HX1.out]; exact BS.out
                      have HE : Hid ((2 * (X1 - X0 + ((j : Int) + reach - ((len : Int) - 1)) * G) + (2 * (reach : Int) + 1)) / (2 * (2 * (reach : Int) + 1)) % 256 = val src L T len reach i j c) := val_of HA.out HMB.out (sum3 hjl ca cb HG0.out HX0.out HX1.out)
                      have HM5 : Hid (∀ nq, MS w ((wr.drewN nq).setCell ⟨w.heap.size + 1 + 1, 4 * j + c, none⟩ (.int .u8 ((2 * (X1 - X0 + ((j : Int) + reach - ((len : Int) - 1)) * G) + (2 * (reach : Int) + 1)) / (2 * (2 * (reach : Int) + 1)) % 256))) bs src (result src d L T DL DT i len reach) P (Q.set (4 * j + c) (val src L T len reach i j c))) := by
                        intro nq; rw [HE.out]; exact (HM.out.drewN nq).setQ hbs1 _ _
                      clear HE
                      clear HX1
                      go_wp2
                      go_quiet (fail)
                      go_wp2
                      go_roundw
                      case rel =>
                        exact ⟨j + 1, by omega, by go_num, Q.set (4 * j + c) (val src L T len reach i j c), HQ3.out.1, HQ3.out.2.1, HQ3.out.2.2, HM5.out nq⟩
                      case measure => simp [intOf]; omega
                    · obtain ⟨X1, hX1⟩ : ∃ X, X = pre (lineOf src (A + c) T) (j + reach + 1) := ⟨_, rfl⟩
                      have q1 : wr.cell? ⟨w.heap.size + 1, j + reach + 1, none⟩ = some (.int .i64 X1) := by
                        rw [HM.out.hp.int (j + reach + 1) (by have := HP.out; omega), HV'.out (j + reach + 1) (by omega), hX1]
                      have bX1 : 0 ≤ X1 ∧ X1 ≤ 255 * (j + reach + 1 : Nat) := by rw [hX1]; exact pre_bd (line_bd SB.out _ _) _
                      have HX1 := hide hX1
                      clear hX1
                      have bU : 0 ≤ X1 - X0 ∧ X1 - X0 ≤ 255 * (2 * (reach : Int) + 1) := by rw [sum4 hjl ca cb HX0.out HX1.out]; exact BS.out
                      have HE : Hid ((2 * (X1 - X0) + (2 * (reach : Int) + 1)) / (2 * (2 * (reach : Int) + 1)) % 256 = val src L T len reach i j c) := val_of HA.out HMB.out (sum4 hjl ca cb HX0.out HX1.out)
                      have HM5 : Hid (∀ nq, MS w ((wr.drewN nq).setCell ⟨w.heap.size + 1 + 1, 4 * j + c, none⟩ (.int .u8 ((2 * (X1 - X0) + (2 * (reach : Int) + 1)) / (2 * (2 * (reach : Int) + 1)) % 256))) bs src (result src d L T DL DT i len reach) P (Q.set (4 * j + c) (val src L T len reach i j c))) := by
                        intro nq; rw [HE.out]; exact (HM.out.drewN nq).setQ hbs1 _ _
                      clear HE
                      clear HX1
                      go_wp2
                      go_quiet (fail)
                      go_wp2
                      go_roundw
                      case rel =>
                        exact ⟨j + 1, by omega, by go_num, Q.set (4 * j + c) (val src L T len reach i j c), HQ3.out.1, HQ3.out.2.1, HQ3.out.2.2, HM5.out nq⟩
                      case measure => simp [intOf]; omega
                · go_wp2
                  go_roundw
                  case rel =>
                    refine ⟨c + 1, by omega, by go_num, P, Q, HP.out, by rw [HV'.out 0 (by omega)]; rfl, HQ2.out.1, ?_, HM.out⟩
                    intro c'' j' hc'' hj'
                    by_cases e : c'' = c
                    · rw [e]; exact HQ2.out.2.2 j' (by omega)
                    · exact HQ2.out.2.1 c'' j' (by omega) hj'
                  case measure => simp [intOf]; omega
        · have HQ4 : Hid (∀ c'' j, c'' < 4 → j < len → Q.getD (4 * j + c'') 0 = val src L T len reach i j c'') := fun c'' j h1 h2 => HQ.out c'' j (by omega) h2
          clear HQ eA
          obtain ⟨A2, hA2'⟩ : ∃ A, A = i * DL := ⟨_, rfl⟩
          have eA : wrap64 ((i : Int) * dl) = (A2 : Int) := by rw [GD.out.hl i hlt, hA2']
          have HA2 := hide hA2'
          clear hA2'
          go_wp2
          go_loopw [35] (fun jj wr => ∃ j : Nat, j ≤ len ∧ jj = .int .i64 j ∧ MS w wr bs src (putJ (result src d L T DL DT i len reach) (fun j => i * DL + j * DT) (fun j c => val src L T len reach i j c) j) P Q) (fun jj _ => len - (intOf jj).toNat)
          case atStart => exact ⟨0, by omega, rfl, HM.out⟩
          case round =>
            clear HM
            obtain ⟨j, hj, rfl, hms⟩ := hrel
            have HM := hide hms
            clear hms
            by_cases hjl : j < len
            · obtain ⟨K, hK⟩ : ∃ K, K = j * DT := ⟨_, rfl⟩
              have eK : wrap64 ((j : Int) * ds) = (K : Int) := by rw [GD.out.hs j hjl, hK]
              have hK2 : A2 + K + 4 ≤ d.length := by have := GD.out.fit i j hlt hjl; rw [HA2.out, hK]; omega
              have HK := hide hK
              clear hK
              go_wp2
              clear eA eK
              go_loopw [37] (fun cc wr => ∃ c : Nat, c ≤ 4 ∧ cc = .int .i64 c ∧ MS w wr bs src (putC (putJ (result src d L T DL DT i len reach) (fun j => i * DL + j * DT) (fun j c => val src L T len reach i j c) j) (i * DL + j * DT) (fun c => val src L T len reach i j c) c) P Q) (fun cc _ => 4 - (intOf cc).toNat)
              case atStart => exact ⟨0, by omega, rfl, HM.out⟩
              case round =>
                clear HM
                obtain ⟨c, hc, rfl, hms⟩ := hrel
                have HM := hide hms
                clear hms
                by_cases hc4 : c < 4
                · obtain ⟨Y, hY⟩ : ∃ Y, Y = val src L T len reach i j c := ⟨_, rfl⟩
                  have hDl : (putC (putJ (result src d L T DL DT i len reach) (fun j => i * DL + j * DT) (fun j c => val src L T len reach i j c) j) (i * DL + j * DT) (fun c => val src L T len reach i j c) c).length = d.length := by
                    rw [putC_len, putJ_len]; unfold result; rw [putI_len]
                  have q1 : wr.cell? ⟨w.heap.size + 1 + 1, 4 * j + c, none⟩ = some (.int .u8 Y) := by
                    rw [HM.out.hq.int (4 * j + c) (by have := HQL.out; omega), HQ4.out c j hc4 hjl, hY]
                  obtain ⟨v2, q2⟩ : ∃ v, wr.cell? ⟨w.heap.size, A2 + K + c, none⟩ = some v := ⟨_, HM.out.hd.int (A2 + K + c) (by rw [hDl]; omega)⟩
                  have q3 := HM.out.hd.frozen (A2 + K + c)
                  have hi1 : (4 : Int) * j + c < 4 * (len : Int) := by omega
                  have hi2 : (A2 : Int) + K + c < (d.length : Int) := by omega
                  have HM5 : Hid (MS w (wr.setCell ⟨w.heap.size, A2 + K + c, none⟩ (.int .u8 Y)) bs src (putC (putJ (result src d L T DL DT i len reach) (fun j => i * DL + j * DT) (fun j c => val src L T len reach i j c) j) (i * DL + j * DT) (fun c => val src L T len reach i j c) (c + 1)) P Q) := by
                    have h5 := HM.out.setD hbs1 (A2 + K + c) Y
                    rw [hY, HA2.out, HK.out] at h5 ⊢
                    exact h5
                  clear hY hDl
                  go_wp2
                  go_roundw
                  case rel => exact ⟨c + 1, by omega, by go_num, HM5.out⟩
                  case measure => simp [intOf]; omega
                · go_wp2
                  go_roundw
                  case rel =>
                    refine ⟨j + 1, by omega, by go_num, ?_⟩
                    have e4 : c = 4 := by omega
                    have h5 := HM.out
                    rw [e4] at h5
                    exact h5
                  case measure => simp [intOf]; omega
            · go_wp2
              go_roundw
              case rel =>
                refine ⟨i + 1, by omega, by go_num, P, Q, HP.out.1, HP.out.2.1, HQL.out, ?_⟩
                have e4 : j = len := by omega
                have h5 := HM.out
                rw [e4] at h5
                exact h5
              case measure => simp [intOf]; omega
    · go_wp2
      go_ret
      have e4 : i = n := by omega
      have h5 := HM.out
      rw [e4] at h5
      exact ⟨rfl, h5.hd, h5.bel⟩
end Go.Proofs.Qxb6602704a.box
