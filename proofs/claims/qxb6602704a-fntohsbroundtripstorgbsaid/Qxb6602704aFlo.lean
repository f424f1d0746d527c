import Derived.Laws.FloatArith
namespace Go.Proofs.Qxb6602704a.flo
open Ieee

/-- The number that a datum stands for (0 where it is none). -/
def dv : Datum → Rat
  | .number neg m e => (if neg then -1 else 1) * (m : Rat) * (2 : Rat) ^ e
  | _ => 0

theorem two_ne : (2 : Rat) ≠ 0 := by decide
theorem two_pow_pos (e : Int) : (0 : Rat) < (2 : Rat) ^ e := Rat.zpow_pos (by decide)
theorem two_pow_nat (n : Nat) : (2 : Rat) ^ (n : Int) = ((2 ^ n : Nat) : Rat) := by
  rw [Rat.zpow_natCast]
  induction n with
  | zero => rfl
  | succ k ih => rw [Rat.pow_succ, ih, Nat.pow_succ]; simp [Rat.natCast_mul]

theorem two_pow_mono {a b : Int} (h : a ≤ b) : (2 : Rat) ^ a ≤ (2 : Rat) ^ b := by
  have e : b = a + ((b - a).toNat : Int) := by omega
  rw [e, Rat.zpow_add two_ne, two_pow_nat]
  have h1 : (1 : Rat) ≤ (((2 ^ (b - a).toNat : Nat)) : Rat) := by
    have : 1 ≤ 2 ^ (b - a).toNat := Nat.one_le_two_pow
    have := Rat.natCast_le_natCast.2 this
    simpa using this
  have := Rat.mul_le_mul_of_nonneg_left h1 (Rat.le_of_lt (two_pow_pos a))
  simpa using this

theorem two_pow_lt {a b : Int} (h : (2 : Rat) ^ a < (2 : Rat) ^ b) : a < b := by
  apply Decidable.byContradiction
  intro hn
  have := two_pow_mono (show b ≤ a by omega)
  exact absurd h (Rat.not_lt.2 this)

theorem shift_nat (m : Nat) (k : Nat) : ((m <<< k : Nat) : Rat) = (m : Rat) * (2 : Rat) ^ (k : Int) := by
  rw [Nat.shiftLeft_eq, two_pow_nat]; simp [Rat.natCast_mul]

theorem log2_le (m : Nat) (h : m ≠ 0) : (2 : Rat) ^ (m.log2 : Int) ≤ (m : Rat) := by
  rw [two_pow_nat]; exact Rat.natCast_le_natCast.2 (Nat.log2_self_le h)
theorem lt_log2 (m : Nat) : (m : Rat) < (2 : Rat) ^ ((m.log2 : Int) + 1) := by
  have := Nat.lt_log2_self (n := m)
  have h := two_pow_nat (m.log2 + 1)
  rw [show ((m.log2 : Int) + 1) = ((m.log2 + 1 : Nat) : Int) from by simp, h]
  exact Rat.natCast_lt_natCast.2 this

/-- Cutting to even is within half of what is dropped; it is exact where nothing is dropped. -/
theorem cut_even (neg : Bool) (n drop : Nat) :
    2 * (Toward.even.cut neg n drop * 2 ^ drop) ≤ 2 * n + 2 ^ drop ∧ 2 * n ≤ 2 * (Toward.even.cut neg n drop * 2 ^ drop) + 2 ^ drop := by
  unfold Toward.cut
  dsimp only
  by_cases hd : drop ≤ n.log2 + 2
  · rw [Nat.min_eq_left hd, Nat.one_shiftLeft]
    have h0 : 0 < 2 ^ drop := Nat.two_pow_pos _
    generalize 2 ^ drop = g at *
    have h1 := Nat.div_add_mod n g
    have h2 := Nat.mod_lt n h0
    generalize n / g = q at *
    generalize n % g = r at *
    subst h1
    by_cases hb : (decide (g < 2 * r) || (g == 2 * r && q % 2 == 1)) = true
    · rw [hb]
      have hr : g ≤ 2 * r := by
        simp at hb; omega
      simp only [Bool.toNat_true, Nat.add_mul, Nat.one_mul]
      rw [Nat.mul_comm q g]
      omega
    · rw [Bool.not_eq_true _ |>.mp hb]
      have hr : 2 * r ≤ g := by
        simp at hb; omega
      simp only [Bool.toNat_false, Nat.add_zero]
      rw [Nat.mul_comm q g]
      omega
  · have hd' : n.log2 + 2 ≤ drop := by omega
    rw [Nat.min_eq_right hd', Nat.one_shiftLeft]
    have h1 : n < 2 ^ (n.log2 + 1) := Nat.lt_log2_self
    have h2 : 2 ^ (n.log2 + 2) = 2 * 2 ^ (n.log2 + 1) := by rw [Nat.pow_succ]; omega
    have h3 : 2 ^ (n.log2 + 2) ≤ 2 ^ drop := Nat.pow_le_pow_right (by omega) hd'
    rw [Nat.div_eq_of_lt (by omega), Nat.mod_eq_of_lt (by omega)]
    have hb : (decide (2 ^ (n.log2 + 2) < 2 * n) || (2 ^ (n.log2 + 2) == 2 * n && 0 % 2 == 1)) = false := by
      simp; omega
    rw [hb]
    simp
    omega

theorem cut_even_zero (neg : Bool) (n : Nat) : Toward.even.cut neg n 0 = n := by
  have := cut_even neg n 0
  simp at this
  omega

theorem dbl_fb : double.fractionBits = 52 := rfl
theorem dbl_binade : double.binade = 4503599627370496 := by decide
theorem dbl_least : double.leastPlace = -1074 := by decide
theorem dbl_inf : double.infRung = 2047 * 4503599627370496 := by decide
theorem dbl_sign : double.signWeight = 9223372036854775808 := by decide

/-- What a word below infinity reads as. -/
theorem read_word (neg : Bool) (e kept : Nat) (h1 : e = 0 ∨ 4503599627370496 ≤ kept) (h2 : kept ≤ 9007199254740992) (h3 : e ≤ 2000) :
    ∃ m p, double.read (double.word neg (e * 4503599627370496 + kept)) = .number neg m p ∧ (m : Rat) * (2 : Rat) ^ p = (kept : Rat) * (2 : Rat) ^ ((e : Int) - 1074) := by
  have hneg : (double.word neg (e * 4503599627370496 + kept) / double.signWeight % 2 == 1) = neg := by
    rw [dbl_sign]; unfold Format.word; rw [dbl_sign]
    cases neg <;> simp <;> omega
  have hr : double.word neg (e * 4503599627370496 + kept) % double.signWeight = e * 4503599627370496 + kept := by
    rw [dbl_sign]; unfold Format.word; rw [dbl_sign]
    cases neg <;> simp <;> omega
  unfold Format.read
  dsimp only
  rw [hneg, hr, dbl_binade, dbl_least, dbl_inf]
  by_cases c1 : e * 4503599627370496 + kept < 4503599627370496
  · rw [if_pos c1]
    have he : e = 0 := by omega
    subst he
    refine ⟨_, _, rfl, ?_⟩
    rw [Nat.zero_mul, Nat.zero_add, show (((0 : Nat) : Int) - 1074) = -1074 from rfl]
  · rw [if_neg c1, if_pos (by omega)]
    by_cases c2 : kept = 9007199254740992
    · subst c2
      have hm : (e * 4503599627370496 + 9007199254740992) % 4503599627370496 = 0 := by omega
      have hd : (e * 4503599627370496 + 9007199254740992) / 4503599627370496 = e + 2 := by omega
      rw [hm, hd]
      refine ⟨_, _, rfl, ?_⟩
      have he : (-1074 + ((e + 2 - 1 : Nat) : Int)) = ((e : Int) - 1074) + 1 := by omega
      rw [he, Rat.zpow_add_one two_ne]
      grind
    · by_cases c3 : kept < 4503599627370496
      · omega
      · have hm : (e * 4503599627370496 + kept) % 4503599627370496 = kept - 4503599627370496 := by omega
        have hd : (e * 4503599627370496 + kept) / 4503599627370496 = e + 1 := by omega
        rw [hm, hd]
        refine ⟨_, _, rfl, ?_⟩
        have he : (-1074 + ((e + 1 - 1 : Nat) : Int)) = ((e : Int) - 1074) := by omega
        have hk : 4503599627370496 + (kept - 4503599627370496) = kept := by omega
        rw [he, hk]

/-- The unit of our bounds: no rounding of a number up to 512 errs by more. -/
def E : Rat := 1 / 17592186044416
theorem E_pow : (2 : Rat) ^ (-44 : Int) = E := by
  rw [show (-44 : Int) = -((44 : Nat) : Int) from rfl, Rat.zpow_neg, two_pow_nat]
  unfold E
  decide +kernel

theorem E_pow2 : (2 : Rat) ^ (-43 : Int) = 2 * E := by
  rw [show (-43 : Int) = -((43 : Nat) : Int) from rfl, Rat.zpow_neg, two_pow_nat]
  unfold E
  decide +kernel

theorem half_pow (a : Int) : (2 : Rat) ^ a = 2 * (2 : Rat) ^ (a - 1) := by
  rw [show a = (a - 1) + 1 from by omega, Rat.zpow_add_one two_ne, show a - 1 + 1 - 1 = a - 1 from by omega]
  grind

theorem below_inf (e kept : Nat) (he : e ≤ 2000) (hk : kept ≤ 9007199254740992) : min (e * 4503599627370496 + kept) double.infRung = e * 4503599627370496 + kept := by
  rw [dbl_inf]
  exact Nat.min_eq_left (by omega)

/-- ROUNDING: a number up to 512 is written to within E; with nothing to drop, exactly. -/
theorem near (neg : Bool) (mag : Nat) (place : Int) (hb : (mag : Rat) * (2 : Rat) ^ place ≤ 512) :
    ∃ m p, double.read (double.nearest neg mag place) = .number neg m p ∧ (m : Rat) * (2 : Rat) ^ p - (mag : Rat) * (2 : Rat) ^ place ≤ E ∧ (mag : Rat) * (2 : Rat) ^ place - (m : Rat) * (2 : Rat) ^ p ≤ E ∧
      ((mag : Int).toNat.log2 ≤ 52 → -1074 ≤ place → (m : Rat) * (2 : Rat) ^ p = (mag : Rat) * (2 : Rat) ^ place) := by
  have hE : (0 : Rat) ≤ E := by unfold E; decide +kernel
  by_cases h0 : mag = 0
  · subst h0
    obtain ⟨m, p, hr, hv⟩ := read_word neg 0 0 (.inl rfl) (by omega) (by omega)
    refine ⟨m, p, by simpa [Format.nearest] using hr, ?_⟩
    have hv' : (m : Rat) * (2 : Rat) ^ p = 0 := by rw [hv]; exact Rat.zero_mul _
    have hz : ((0 : Nat) : Rat) * (2 : Rat) ^ place = 0 := Rat.zero_mul _
    rw [hv', hz]
    exact ⟨by grind, by grind, fun _ _ => rfl⟩
  · have hl := log2_le mag h0
    have hg := lt_log2 mag
    have hpp := two_pow_pos place
    -- the leading digit stands at most at place 9
    have htop : (mag.log2 : Int) + place ≤ 9 := by
      apply Decidable.byContradiction
      intro hn
      have h1 : (2 : Rat) ^ (10 : Int) ≤ (2 : Rat) ^ ((mag.log2 : Int) + place) := two_pow_mono (by omega)
      rw [Rat.zpow_add two_ne] at h1
      have h2 := Rat.mul_le_mul_of_nonneg_right hl (Rat.le_of_lt hpp)
      have h3 : (2 : Rat) ^ (10 : Int) = 1024 := by rw [show (10 : Int) = ((10 : Nat) : Int) from rfl, two_pow_nat]; rfl
      grind
    unfold Format.nearest
    rw [if_neg h0]
    dsimp only
    rw [dbl_fb, dbl_least, dbl_binade]
    generalize hlast : max (place + (mag.log2 : Int) - (52 : Nat)) (-1074) = last
    have hlast1 : -1074 ≤ last := by omega
    have hlast2 : last ≤ -43 := by omega
    have hcut := cut_even neg (mag <<< (place - last).toNat) (last - place).toNat
    have hcz := cut_even_zero neg (mag <<< (place - last).toNat)
    generalize hk : Toward.even.cut neg (mag <<< (place - last).toNat) (last - place).toNat = kept at *
    -- what is kept, against the number
    have hs : ((mag <<< (place - last).toNat : Nat) : Rat) * (2 : Rat) ^ (last - ((last - place).toNat : Int)) = (mag : Rat) * (2 : Rat) ^ place := by
      rw [shift_nat, Rat.mul_assoc, ← Rat.zpow_add two_ne]
      congr 2
      omega
    have hkv : ((kept * 2 ^ (last - place).toNat : Nat) : Rat) * (2 : Rat) ^ (last - ((last - place).toNat : Int)) = (kept : Rat) * (2 : Rat) ^ last := by
      rw [Rat.natCast_mul, ← two_pow_nat, Rat.mul_assoc, ← Rat.zpow_add two_ne]
      congr 2
      omega
    have hgv : ((2 ^ (last - place).toNat : Nat) : Rat) * (2 : Rat) ^ (last - ((last - place).toNat : Int)) = (2 : Rat) ^ last := by
      rw [← two_pow_nat, ← Rat.zpow_add two_ne]
      congr 1
      omega
    have hup := two_pow_pos (last - ((last - place).toNat : Int))
    have c1 : (2 : Rat) * ((kept : Rat) * (2 : Rat) ^ last) ≤ 2 * ((mag : Rat) * (2 : Rat) ^ place) + (2 : Rat) ^ last := by
      have h := Rat.natCast_le_natCast.2 hcut.1
      have h' := Rat.mul_le_mul_of_nonneg_right h (Rat.le_of_lt hup)
      rw [← hs, ← hkv, ← hgv]
      simp only [Rat.natCast_add, Rat.natCast_mul] at h' ⊢
      grind
    have c2 : (2 : Rat) * ((mag : Rat) * (2 : Rat) ^ place) ≤ 2 * ((kept : Rat) * (2 : Rat) ^ last) + (2 : Rat) ^ last := by
      have h := Rat.natCast_le_natCast.2 hcut.2
      have h' := Rat.mul_le_mul_of_nonneg_right h (Rat.le_of_lt hup)
      rw [← hs, ← hkv, ← hgv]
      simp only [Rat.natCast_add, Rat.natCast_mul] at h' ⊢
      grind
    have hP := two_pow_pos last
    have hkle : kept ≤ 9007199254740992 := by
      have h1 : (mag : Rat) * (2 : Rat) ^ place < (2 : Rat) ^ (last + 53) := by
        have h2 := Rat.mul_lt_mul_of_pos_right hg hpp
        rw [← Rat.zpow_add two_ne] at h2
        have h3 : (2 : Rat) ^ ((mag.log2 : Int) + 1 + place) ≤ (2 : Rat) ^ (last + 53) := two_pow_mono (by omega)
        grind
      rw [Rat.zpow_add two_ne, show (2 : Rat) ^ (53 : Int) = 9007199254740992 from by rw [show (53 : Int) = ((53 : Nat) : Int) from rfl, two_pow_nat]; rfl] at h1
      apply Decidable.byContradiction
      intro hn
      have h4 : ((9007199254740993 : Nat) : Rat) ≤ (kept : Rat) := Rat.natCast_le_natCast.2 (by omega)
      have h5 := Rat.mul_le_mul_of_nonneg_right h4 (Rat.le_of_lt hP)
      rw [show ((9007199254740993 : Nat) : Rat) = 9007199254740993 from rfl] at h5
      grind
    have hkge : last = -1074 ∨ 4503599627370496 ≤ kept := by
      by_cases hl4 : last = -1074
      · exact .inl hl4
      · right
        have h1 : (2 : Rat) ^ (last + 52) ≤ (mag : Rat) * (2 : Rat) ^ place := by
          have h2 := Rat.mul_le_mul_of_nonneg_right hl (Rat.le_of_lt hpp)
          rw [← Rat.zpow_add two_ne] at h2
          have h3 : (2 : Rat) ^ (last + 52) = (2 : Rat) ^ ((mag.log2 : Int) + place) := by
            congr 1
            omega
          rw [h3]
          exact h2
        rw [Rat.zpow_add two_ne, show (2 : Rat) ^ (52 : Int) = 4503599627370496 from by rw [show (52 : Int) = ((52 : Nat) : Int) from rfl, two_pow_nat]; rfl] at h1
        apply Decidable.byContradiction
        intro hn
        have h4 : (kept : Rat) ≤ ((4503599627370495 : Nat) : Rat) := Rat.natCast_le_natCast.2 (by omega)
        have h5 := Rat.mul_le_mul_of_nonneg_right h4 (Rat.le_of_lt hP)
        rw [show ((4503599627370495 : Nat) : Rat) = 4503599627370495 from rfl] at h5
        grind
    have hmin : min ((last - -1074).toNat * 4503599627370496 + kept) double.infRung = (last - -1074).toNat * 4503599627370496 + kept := by
      exact below_inf _ _ (by clear hcut hcz hk hs hkv hgv; omega) hkle
    rw [hmin]
    obtain ⟨m, p, hr, hv⟩ := read_word neg (last - -1074).toNat kept (by rcases hkge with h | h; exact .inl (by rw [h]; rfl); exact .inr h) hkle (by clear hcut hcz hk hs hkv hgv; omega)
    rw [show (((last - -1074).toNat : Int) - 1074) = last from by clear hcut hcz hk hs hkv hgv; omega] at hv
    have hQ : (2 : Rat) ^ last ≤ 2 * E := by
      have h1 := two_pow_mono (show last ≤ -43 from hlast2)
      rw [E_pow2] at h1
      exact h1
    generalize (2 : Rat) ^ last = P at *
    generalize (2 : Rat) ^ place = PP at *
    generalize E = EE at *
    refine ⟨m, p, hr, ?_, ?_, ?_⟩
    · rw [hv]; grind
    · rw [hv]; grind
    · intro h52 hpl
      have h52' : mag.log2 ≤ 52 := h52
      have hd0 : (last - place).toNat = 0 := by clear hcut hcz hk hs hkv hgv; omega
      rw [hv, ← hkv, ← hs, hd0]
      rw [hd0] at hk
      rw [hcz] at hk
      rw [← hk]
      simp

/-- The number of a word; that it has one. -/
def V (x : Nat) : Rat := dv (double.read x)
def Fine (x : Nat) : Prop := ∃ s m p, double.read x = .number s m p

def sg (s : Bool) : Rat := if s then -1 else 1
theorem dv_number (s : Bool) (m : Nat) (p : Int) : dv (.number s m p) = sg s * ((m : Rat) * (2 : Rat) ^ p) := by
  show (if s then -1 else 1) * (m : Rat) * (2 : Rat) ^ p = _
  unfold sg; rw [Rat.mul_assoc]

/-- A number that is written: within E of itself. -/
theorem write_near (s : Bool) (m : Nat) (p : Int) (h1 : dv (.number s m p) ≤ 512) (h2 : -512 ≤ dv (.number s m p)) :
    Fine (double.write (.number s m p)) ∧ V (double.write (.number s m p)) - dv (.number s m p) ≤ E ∧ dv (.number s m p) - V (double.write (.number s m p)) ≤ E := by
  rw [dv_number] at h1 h2
  have hb : (m : Rat) * (2 : Rat) ^ p ≤ 512 := by
    unfold sg at h1 h2
    cases s <;> simp at h1 h2 <;> grind
  obtain ⟨m', p', hr, e1, e2, _⟩ := near s m p hb
  refine ⟨⟨s, m', p', hr⟩, ?_⟩
  show dv (double.read (double.nearest s m p)) - _ ≤ E ∧ _ - dv (double.read (double.nearest s m p)) ≤ E
  rw [hr, dv_number, dv_number]
  unfold sg
  cases s <;> simp <;> grind

theorem signed_rat (s : Bool) (m up : Nat) : ((signed s m up : Int) : Rat) = sg s * ((m : Rat) * (2 : Rat) ^ (up : Int)) := by
  unfold signed sg
  rw [← shift_nat]
  generalize m <<< up = k
  cases s
  · simp only [Bool.false_eq_true, if_false, Rat.one_mul]; rfl
  · simp only [if_true, Rat.intCast_neg]
    have : ((k : Int) : Rat) = (k : Rat) := rfl
    rw [this]; grind

theorem natAbs_rat (t : Int) (b : Bool) (h : b = true → t ≤ 0) (h' : b = false → 0 ≤ t) : sg b * ((t.natAbs : Nat) : Rat) = (t : Rat) := by
  unfold sg
  cases b
  · have := h' rfl
    have e : ((t.natAbs : Nat) : Int) = t := by omega
    simp
    rw [← e]; rfl
  · have := h rfl
    have e : -((t.natAbs : Nat) : Int) = t := by omega
    have e2 : ((t : Int) : Rat) = -(((t.natAbs : Nat) : Int) : Rat) := by rw [← Rat.intCast_neg, e]
    have e3 : (((t.natAbs : Nat) : Int) : Rat) = ((t.natAbs : Nat) : Rat) := rfl
    simp only [if_true]
    rw [e2, e3]; grind

/-- The sum is exact ahead of the writing. -/
theorem sum_dv (s t : Bool) (m n : Nat) (i j : Int) : ∃ r a b, Datum.sum (.number s m i) (.number t n j) = some (.number r a b) ∧ dv (.number r a b) = dv (.number s m i) + dv (.number t n j) := by
  refine ⟨_, _, _, rfl, ?_⟩
  rw [dv_number, dv_number, dv_number]
  generalize hbase : min i j = base
  generalize htot : signed s m (i - base).toNat + signed t n (j - base).toNat = total
  have h1 : sg (if total = 0 then s && t else decide (total < 0)) * ((total.natAbs : Nat) : Rat) = (total : Rat) := by
    apply natAbs_rat
    · intro h
      split at h
      · omega
      · simp at h; omega
    · intro h
      split at h
      · omega
      · simp at h; omega
  rw [← Rat.mul_assoc, h1, ← htot, Rat.intCast_add, signed_rat, signed_rat, Rat.add_mul]
  rw [Rat.mul_assoc, Rat.mul_assoc, Rat.mul_assoc, Rat.mul_assoc, ← Rat.zpow_add two_ne, ← Rat.zpow_add two_ne]
  rw [show ((i - base).toNat : Int) + base = i from by omega, show ((j - base).toNat : Int) + base = j from by omega]

theorem opp_dv (s : Bool) (m : Nat) (p : Int) : dv (Datum.opposite (.number s m p)) = - dv (.number s m p) := by
  show dv (.number (!s) m p) = _
  rw [dv_number, dv_number]; unfold sg
  cases s <;> simp <;> grind

theorem product_dv (s t : Bool) (m n : Nat) (i j : Int) : ∃ r a b, Datum.product (.number s m i) (.number t n j) = some (.number r a b) ∧ dv (.number r a b) = dv (.number s m i) * dv (.number t n j) := by
  refine ⟨_, _, _, rfl, ?_⟩
  rw [dv_number, dv_number, dv_number, Rat.natCast_mul, Rat.zpow_add two_ne]
  unfold sg
  cases s <;> cases t <;> simp <;> grind

theorem add_near {x y : Nat} (hx : Fine x) (hy : Fine y) (h1 : V x + V y ≤ 512) (h2 : -512 ≤ V x + V y) :
    ∃ r, double.add x y = some r ∧ Fine r ∧ V r - (V x + V y) ≤ E ∧ (V x + V y) - V r ≤ E := by
  obtain ⟨s, m, i, hx⟩ := hx
  obtain ⟨t, n, j, hy⟩ := hy
  unfold V at h1 h2 ⊢
  obtain ⟨r, a, b, hs, hd⟩ := sum_dv s t m n i j
  have := write_near r a b
  unfold Format.add
  rw [hx, hy] at h1 h2 ⊢
  rw [hs]
  rw [hd] at this
  exact ⟨_, rfl, this h1 h2⟩

theorem sub_near {x y : Nat} (hx : Fine x) (hy : Fine y) (h1 : V x - V y ≤ 512) (h2 : -512 ≤ V x - V y) :
    ∃ r, double.sub x y = some r ∧ Fine r ∧ V r - (V x - V y) ≤ E ∧ (V x - V y) - V r ≤ E := by
  obtain ⟨s, m, i, hx⟩ := hx
  obtain ⟨t, n, j, hy⟩ := hy
  unfold V at h1 h2 ⊢
  obtain ⟨r, a, b, hs, hd⟩ := sum_dv s (!t) m n i j
  have := write_near r a b
  unfold Format.sub
  have ho := opp_dv t n j
  have ho' : Datum.opposite (.number t n j) = .number (!t) n j := rfl
  rw [ho'] at ho
  rw [hx, hy] at h1 h2 ⊢
  rw [ho', hs]
  rw [hd, ho, ← Rat.sub_eq_add_neg] at this
  exact ⟨_, rfl, this h1 h2⟩

theorem mul_near {x y : Nat} (hx : Fine x) (hy : Fine y) (h1 : V x * V y ≤ 512) (h2 : -512 ≤ V x * V y) :
    ∃ r, double.mul x y = some r ∧ Fine r ∧ V r - (V x * V y) ≤ E ∧ (V x * V y) - V r ≤ E := by
  obtain ⟨s, m, i, hx⟩ := hx
  obtain ⟨t, n, j, hy⟩ := hy
  unfold V at h1 h2 ⊢
  obtain ⟨r, a, b, hs, hd⟩ := product_dv s t m n i j
  have := write_near r a b
  unfold Format.mul
  rw [hx, hy] at h1 h2 ⊢
  rw [hs]
  rw [hd] at this
  exact ⟨_, rfl, this h1 h2⟩

/-- The quotient ahead of the writing: within E, where it is at most 256. -/
theorem quotient_dv (s t : Bool) (m n : Nat) (i j : Int) (hn : n ≠ 0) (h1 : dv (.number s m i) / dv (.number t n j) ≤ 256) (h2 : -256 ≤ dv (.number s m i) / dv (.number t n j)) :
    ∃ r a b, Datum.quotient 54 (.number s m i) (.number t n j) = some (.number r a b) ∧ dv (.number r a b) - dv (.number s m i) / dv (.number t n j) ≤ E ∧ dv (.number s m i) / dv (.number t n j) - dv (.number r a b) ≤ E := by
  have hE : (0 : Rat) ≤ E := by unfold E; decide +kernel
  have hq : dv (.number s m i) / dv (.number t n j) = sg (s ^^ t) * ((m : Rat) / (n : Rat) * (2 : Rat) ^ (i - j)) := by
    rw [dv_number, dv_number, Int.sub_eq_add_neg, Rat.zpow_add two_ne, Rat.zpow_neg]
    have hn' : (n : Rat) ≠ 0 := by
      intro h
      exact hn (by have : (n : Rat) = ((0 : Nat) : Rat) := h; exact Rat.natCast_inj.1 this)
    have hj := Rat.ne_of_gt (two_pow_pos j)
    generalize (2 : Rat) ^ j = J at *
    generalize (2 : Rat) ^ i = I at *
    generalize (n : Rat) = N at *
    generalize (m : Rat) = M at *
    unfold sg
    cases s <;> cases t <;> simp <;> grind
  have hr : Datum.quotient 54 (.number s m i) (.number t n j) = some (.number (s ^^ t) (2 * ((m <<< (54 + n.log2 - m.log2)) / n) + ((m <<< (54 + n.log2 - m.log2)) % n != 0).toNat) (i - j - (54 + n.log2 - m.log2 : Nat) - 1)) := by
    show (if n = 0 then _ else _) = _
    rw [if_neg hn]
  refine ⟨_, _, _, hr, ?_⟩
  rw [hq] at h1 h2 ⊢
  rw [dv_number]
  generalize hmore : 54 + n.log2 - m.log2 = more
  have hnp : (0 : Rat) < (n : Rat) := Rat.natCast_pos.2 (by omega)
  have hmn : (0 : Rat) ≤ (m : Rat) / (n : Rat) := by
    rw [Rat.div_def]
    exact Rat.mul_nonneg Rat.natCast_nonneg (Rat.le_of_lt (Rat.inv_pos.2 hnp))
  -- the magnitude of the quotient
  have hmag : (m : Rat) / (n : Rat) * (2 : Rat) ^ (i - j) ≤ 256 := by
    have hp := two_pow_pos (i - j)
    have h0 := Rat.mul_nonneg hmn (Rat.le_of_lt hp)
    unfold sg at h1 h2
    cases hb : (s ^^ t) <;> rw [hb] at h1 h2 <;> simp at h1 h2 <;> grind
  by_cases hm : m = 0
  · subst hm
    have hz : ((0 : Nat) : Rat) = 0 := rfl
    rw [Nat.zero_shiftLeft, Nat.zero_div, Nat.zero_mod, hz]
    have e1 : (0 : Rat) / (n : Rat) = 0 := by rw [Rat.div_def]; exact Rat.zero_mul _
    rw [e1, Rat.zero_mul, Rat.mul_zero]
    have e2 : (((2 * 0 + (0 != 0).toNat : Nat)) : Rat) = 0 := rfl
    rw [e2, Rat.zero_mul, Rat.mul_zero]
    constructor <;> grind
  -- the unit of its last digit
  have hunit : (2 : Rat) ^ (i - j - (more : Int) - 1) ≤ E := by
    rw [← E_pow]
    apply two_pow_mono
    have a1 := log2_le m hm
    have a2 := lt_log2 n
    have hp := two_pow_pos (i - j)
    have a3 : (2 : Rat) ^ ((m.log2 : Int) + (i - j)) < (2 : Rat) ^ (8 + ((n.log2 : Int) + 1)) := by
      rw [Rat.zpow_add two_ne, Rat.zpow_add two_ne 8, show (2 : Rat) ^ (8 : Int) = 256 from by rw [show (8 : Int) = ((8 : Nat) : Int) from rfl, two_pow_nat]; rfl]
      have b1 := Rat.mul_le_mul_of_nonneg_right a1 (Rat.le_of_lt hp)
      have b2 : (m : Rat) * (2 : Rat) ^ (i - j) ≤ 256 * (n : Rat) := by
        have b3 := Rat.mul_le_mul_of_nonneg_right hmag (Rat.le_of_lt hnp)
        have b4 : (m : Rat) / (n : Rat) * (2 : Rat) ^ (i - j) * (n : Rat) = (m : Rat) * (2 : Rat) ^ (i - j) := by
          have := Rat.ne_of_gt hnp
          generalize (2 : Rat) ^ (i - j) = X
          grind
        rw [b4] at b3
        exact b3
      generalize (2 : Rat) ^ (i - j) = X at *
      generalize (2 : Rat) ^ (m.log2 : Int) = Y at *
      generalize (2 : Rat) ^ ((n.log2 : Int) + 1) = Z at *
      grind
    have := two_pow_lt a3
    omega
  have hval : (m : Rat) / (n : Rat) * (2 : Rat) ^ (i - j) = 2 * (((m <<< more : Nat) : Rat) / (n : Rat)) * (2 : Rat) ^ (i - j - (more : Int) - 1) := by
    have h3 := half_pow (i - j - (more : Int))
    have h4 : (2 : Rat) ^ (i - j) = (2 : Rat) ^ (more : Int) * (2 : Rat) ^ (i - j - (more : Int)) := by
      rw [← Rat.zpow_add two_ne]
      congr 1
      omega
    rw [h4, h3, shift_nat]
    generalize (2 : Rat) ^ (more : Int) = X
    generalize (2 : Rat) ^ (i - j - (more : Int) - 1) = Y
    have := Rat.ne_of_gt hnp
    grind
  rw [hval]
  have hup := two_pow_pos (i - j - (more : Int) - 1)
  generalize (2 : Rat) ^ (i - j - (more : Int) - 1) = u at *
  generalize m <<< more = D
  have hD := Nat.div_add_mod D n
  have hR := Nat.mod_lt D (Nat.pos_of_ne_zero hn)
  have hdn : (D : Rat) / (n : Rat) * (n : Rat) = (D : Rat) := Rat.div_mul_cancel (Rat.ne_of_gt hnp)
  have hDr : (D : Rat) = (n : Rat) * ((D / n : Nat) : Rat) + ((D % n : Nat) : Rat) := by
    rw [← Rat.natCast_mul, ← Rat.natCast_add, hD]
  have hRr : ((D % n : Nat) : Rat) + 1 ≤ (n : Rat) := by
    have h5 : D % n + 1 ≤ n := hR
    have := Rat.natCast_le_natCast.2 h5
    rw [Rat.natCast_add] at this
    exact this
  have hR0 : (0 : Rat) ≤ ((D % n : Nat) : Rat) := Rat.natCast_nonneg
  -- twice the quotient, within one
  have key : ((2 * (D / n) + (D % n != 0).toNat : Nat) : Rat) - 2 * ((D : Rat) / (n : Rat)) ≤ 1 ∧ 2 * ((D : Rat) / (n : Rat)) - ((2 * (D / n) + (D % n != 0).toNat : Nat) : Rat) ≤ 1 := by
    rw [Rat.natCast_add, Rat.natCast_mul]
    have two : ((2 : Nat) : Rat) = 2 := rfl
    rw [two]
    by_cases hz : D % n = 0
    · have b : ((D % n != 0).toNat : Rat) = 0 := by rw [hz]; rfl
      rw [b]
      have hz' : ((D % n : Nat) : Rat) = 0 := by rw [hz]; rfl
      have e : (D : Rat) / (n : Rat) = ((D / n : Nat) : Rat) := by
        have := Rat.ne_of_gt hnp
        rw [hDr, hz']
        generalize ((D / n : Nat) : Rat) = q
        grind
      rw [e]
      constructor <;> grind
    · have b : ((D % n != 0).toNat : Rat) = 1 := by
        have hb : (D % n != 0) = true := by simpa using hz
        rw [hb]; rfl
      rw [b]
      have h1r : (1 : Rat) ≤ ((D % n : Nat) : Rat) := by
        have : 1 ≤ D % n := by omega
        have := Rat.natCast_le_natCast.2 this
        exact this
      generalize ((D / n : Nat) : Rat) = q at *
      generalize ((D % n : Nat) : Rat) = rr at *
      generalize (D : Rat) / (n : Rat) = x at *
      generalize (D : Rat) = DD at *
      generalize (n : Rat) = nn at *
      have y1 : q * nn ≤ x * nn := by grind
      have y2 : x * nn ≤ (q + 1) * nn := by grind
      have z1 := Rat.le_of_mul_le_mul_right y1 hnp
      have z2 := Rat.le_of_mul_le_mul_right y2 hnp
      constructor <;> grind
  generalize ((2 * (D / n) + (D % n != 0).toNat : Nat) : Rat) = A at *
  generalize (D : Rat) / (n : Rat) = x at *
  have k1 := Rat.mul_le_mul_of_nonneg_right key.1 (Rat.le_of_lt hup)
  have k2 := Rat.mul_le_mul_of_nonneg_right key.2 (Rat.le_of_lt hup)
  unfold sg
  cases (s ^^ t) <;> simp <;> grind

theorem div_near {x y : Nat} (hx : Fine x) (hy : Fine y) (h0 : V y ≠ 0) (h1 : V x / V y ≤ 255) (h2 : -255 ≤ V x / V y) :
    ∃ r, double.div x y = some r ∧ Fine r ∧ V r - (V x / V y) ≤ 2 * E ∧ (V x / V y) - V r ≤ 2 * E := by
  obtain ⟨s, m, i, hx⟩ := hx
  obtain ⟨t, n, j, hy⟩ := hy
  unfold V at h0 h1 h2 ⊢
  rw [hx, hy] at h1 h2 ⊢
  rw [hy] at h0
  have hn : n ≠ 0 := by
    intro h
    subst h
    apply h0
    rw [dv_number]
    have hz : ((0 : Nat) : Rat) = 0 := rfl
    rw [hz, Rat.zero_mul, Rat.mul_zero]
  obtain ⟨r, a, b, hs, d1, d2⟩ := quotient_dv s t m n i j hn (by grind) (by grind)
  have hE : E ≤ 1 := by unfold E; decide +kernel
  obtain ⟨w1, w2, w3⟩ := write_near r a b (by grind) (by grind)
  unfold Format.div
  rw [hx, hy, dbl_fb, hs]
  refine ⟨_, rfl, w1, ?_⟩
  show V (double.write (.number r a b)) - _ ≤ _ ∧ _ - V (double.write (.number r a b)) ≤ _
  constructor <;> grind

theorem order_ints {x y : Nat} (hx : Fine x) (hy : Fine y) : ∃ (a b : Int) (u : Rat), 0 < u ∧ double.order x y = some (compare a b) ∧ V x = (a : Rat) * u ∧ V y = (b : Rat) * u := by
  obtain ⟨s, m, i, hx⟩ := hx
  obtain ⟨t, n, j, hy⟩ := hy
  unfold V Format.order
  rw [hx, hy, dv_number, dv_number]
  refine ⟨_, _, (2 : Rat) ^ (min i j), two_pow_pos _, rfl, ?_, ?_⟩
  · rw [signed_rat, Rat.mul_assoc, Rat.mul_assoc, ← Rat.zpow_add two_ne]
    congr 3
    omega
  · rw [signed_rat, Rat.mul_assoc, Rat.mul_assoc, ← Rat.zpow_add two_ne]
    congr 3
    omega

theorem scale_lt {a b : Int} {u : Rat} (hu : 0 < u) : (a : Rat) * u < (b : Rat) * u ↔ a < b := by
  rw [Rat.mul_lt_mul_right hu, Rat.intCast_lt_intCast]

theorem order_lt {x y : Nat} (hx : Fine x) (hy : Fine y) (h : V x < V y) : double.order x y = some .lt := by
  obtain ⟨a, b, u, hu, ho, e1, e2⟩ := order_ints hx hy
  rw [e1, e2, scale_lt hu] at h
  rw [ho]
  simp [compare, compareOfLessAndEq, h]
theorem order_gt {x y : Nat} (hx : Fine x) (hy : Fine y) (h : V y < V x) : double.order x y = some .gt := by
  obtain ⟨a, b, u, hu, ho, e1, e2⟩ := order_ints hx hy
  rw [e1, e2, scale_lt hu] at h
  rw [ho]
  have h1 : ¬ a < b := by omega
  have h2 : ¬ a = b := by omega
  simp [compare, compareOfLessAndEq, h1, h2]
theorem order_eq {x y : Nat} (hx : Fine x) (hy : Fine y) (h : V x = V y) : double.order x y = some .eq := by
  obtain ⟨a, b, u, hu, ho, e1, e2⟩ := order_ints hx hy
  have h1 : ¬ a < b := by
    intro h3
    have := (scale_lt hu).2 h3
    grind
  have h2 : ¬ b < a := by
    intro h3
    have := (scale_lt hu).2 h3
    grind
  have h3 : a = b := by omega
  rw [ho]
  subst h3
  simp [compare, compareOfLessAndEq]

theorem lt_word {x y : Nat} (hx : Fine x) (hy : Fine y) : (double.order x y == some .lt) = decide (V x < V y) := by
  by_cases h : V x < V y
  · rw [order_lt hx hy h]; simp [h]
  · by_cases h2 : V x = V y
    · rw [order_eq hx hy h2]; simp [h]
    · rw [order_gt hx hy (by grind)]; simp [h]
theorem gt_word {x y : Nat} (hx : Fine x) (hy : Fine y) : (double.order x y == some .gt) = decide (V y < V x) := by
  by_cases h : V y < V x
  · rw [order_gt hx hy h]; simp [h]
  · by_cases h2 : V x = V y
    · rw [order_eq hx hy h2]; simp [h]
    · rw [order_lt hx hy (by grind)]; simp [h]
theorem eq_word {x y : Nat} (hx : Fine x) (hy : Fine y) : (double.order x y == some .eq) = decide (V x = V y) := by
  by_cases h : V x = V y
  · rw [order_eq hx hy h]; simp [h]
  · by_cases h2 : V x < V y
    · rw [order_lt hx hy h2]; simp [h]
    · rw [order_gt hx hy (by grind)]; simp [h]

/-- Small whole numbers are written exactly. -/
theorem ofInt_exact (n : Int) (h1 : -512 ≤ n) (h2 : n ≤ 512) : Fine (floatOfInt .f64 n) ∧ V (floatOfInt .f64 n) = (n : Rat) := by
  have e0 : (2 : Rat) ^ (0 : Int) = 1 := rfl
  have hb : ((n.natAbs : Nat) : Rat) * (2 : Rat) ^ (0 : Int) ≤ 512 := by
    rw [e0, Rat.mul_one]
    have : n.natAbs ≤ 512 := by omega
    exact Rat.natCast_le_natCast.2 this
  obtain ⟨m, p, hr, _, _, hx⟩ := near (decide (n < 0)) n.natAbs 0 hb
  have hl : ((n.natAbs : Nat) : Int).toNat.log2 ≤ 52 := by
    show n.natAbs.log2 ≤ 52
    by_cases h0 : n.natAbs = 0
    · rw [h0]; decide
    · have : n.natAbs.log2 < 53 := (Nat.log2_lt h0).2 (by have : n.natAbs ≤ 512 := by omega
                                                          omega)
      omega
  have hv := hx hl (by omega)
  refine ⟨⟨_, m, p, hr⟩, ?_⟩
  show dv (double.read (double.nearest (decide (n < 0)) n.natAbs 0)) = _
  rw [hr, dv_number, hv, e0, Rat.mul_one]
  apply natAbs_rat
  · intro h; simp at h; omega
  · intro h; simp at h; omega

theorem cut_zero (neg : Bool) (n drop : Nat) : Toward.zero.cut neg n drop = n / 2 ^ drop := by
  unfold Toward.cut
  dsimp only
  by_cases hd : drop ≤ n.log2 + 2
  · rw [Nat.min_eq_left hd, Nat.one_shiftLeft]; rfl
  · have hd' : n.log2 + 2 ≤ drop := by omega
    rw [Nat.min_eq_right hd', Nat.one_shiftLeft]
    have h1 : n < 2 ^ (n.log2 + 1) := Nat.lt_log2_self
    have h3 : 2 ^ (n.log2 + 1) ≤ 2 ^ (n.log2 + 2) := Nat.pow_le_pow_right (by omega) (by omega)
    have h4 : 2 ^ (n.log2 + 1) ≤ 2 ^ drop := Nat.pow_le_pow_right (by omega) (by omega)
    rw [Nat.div_eq_of_lt (by omega), Nat.div_eq_of_lt (by omega)]
    rfl

/-- 'int(x)' of a number that is not below zero: its floor. -/
theorem toInt_floor {x : Nat} (hx : Fine x) (h0 : 0 ≤ V x) (h1 : V x ≤ 512) : ∃ n : Nat, floatToIntVal .f64 x .i64 = some (n : Int) ∧ (n : Rat) ≤ V x ∧ V x < (n : Rat) + 1 := by
  obtain ⟨s, m, i, hr⟩ := hx
  have hV : V x = sg s * ((m : Rat) * (2 : Rat) ^ i) := by unfold V; rw [hr, dv_number]
  have hp := two_pow_pos i
  have hm0 : (0 : Rat) ≤ (m : Rat) := Rat.natCast_nonneg
  have hmi := Rat.mul_nonneg hm0 (Rat.le_of_lt hp)
  have hV2 : V x = (m : Rat) * (2 : Rat) ^ i := by
    rw [hV] at h0 ⊢
    unfold sg at h0 ⊢
    cases s
    · simp
    · simp at h0 ⊢; grind
  have hneg : s = true → m = 0 := by
    intro hs
    rw [hV] at h0
    unfold sg at h0
    rw [hs] at h0
    simp at h0
    have hz : (m : Rat) * (2 : Rat) ^ i = 0 := by grind
    rcases Rat.mul_eq_zero.1 hz with h | h
    · exact Rat.natCast_inj.1 h
    · exact absurd h (Rat.ne_of_gt hp)
  have hq : (double.read x).toInt .zero = some (signed s ((m <<< i.toNat) / 2 ^ (-i).toNat) 0) := by
    rw [hr]
    show some (signed s (Toward.zero.cut s (m <<< i.toNat) (-i).toNat) 0) = _
    rw [cut_zero]
  have hsig : signed s ((m <<< i.toNat) / 2 ^ (-i).toNat) 0 = (((m <<< i.toNat) / 2 ^ (-i).toNat : Nat) : Int) := by
    unfold signed
    cases s
    · simp
    · rw [hneg rfl]; simp
  -- the quotient is the floor
  have hg := Nat.two_pow_pos ((-i).toNat)
  have hdm := Nat.div_add_mod (m <<< i.toNat) (2 ^ (-i).toNat)
  have hmod := Nat.mod_lt (m <<< i.toNat) hg
  have hval : V x * ((2 ^ (-i).toNat : Nat) : Rat) = ((m <<< i.toNat : Nat) : Rat) := by
    rw [hV2, shift_nat, ← two_pow_nat, Rat.mul_assoc, ← Rat.zpow_add two_ne]
    congr 2
    omega
  generalize (m <<< i.toNat) = A at *
  generalize 2 ^ (-i).toNat = G at *
  have hGp : (0 : Rat) < (G : Rat) := Rat.natCast_pos.2 hg
  have l1 : ((A / G : Nat) : Rat) ≤ V x := by
    apply Rat.le_of_mul_le_mul_right _ hGp
    rw [hval, ← Rat.natCast_mul]
    apply Rat.natCast_le_natCast.2
    rw [Nat.mul_comm]
    exact Nat.mul_div_le A G
  have l2 : V x < ((A / G : Nat) : Rat) + 1 := by
    apply Rat.lt_of_mul_lt_mul_right _ (Rat.le_of_lt hGp)
    have e : ((A / G : Nat) : Rat) + 1 = ((A / G + 1 : Nat) : Rat) := by rw [Rat.natCast_add]; rfl
    rw [hval, e, ← Rat.natCast_mul]
    apply Rat.natCast_lt_natCast.2
    rw [Nat.mul_comm, Nat.mul_add]
    omega
  refine ⟨A / G, ?_, l1, l2⟩
  have hle : A / G ≤ 512 := by
    have := Rat.le_trans l1 h1
    exact Rat.natCast_le_natCast.1 this
  unfold floatToIntVal
  show (match (double.read x).toInt .zero with | some n => if IntKind.i64.min ≤ n ∧ n ≤ IntKind.i64.max then some n else none | none => none) = _
  rw [hq, hsig]
  dsimp only
  rw [if_pos]
  have m1 : IntKind.i64.min = -9223372036854775808 := by decide
  have m2 : IntKind.i64.max = 9223372036854775807 := by decide
  rw [m1, m2]
  clear hdm hmod l1 l2 hq hsig
  generalize A / G = q at *
  omega
end Go.Proofs.Qxb6602704a.flo
