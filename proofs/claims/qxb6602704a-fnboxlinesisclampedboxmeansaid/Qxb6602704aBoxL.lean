import Derived.Test.Qxb6602704aBoxA
import Derived.Test.Qxb6602704aBoxP
import Derived.Test.Qxb6602704aBoxM
import Derived.RegionTactic
import Derived.BigRegion
namespace Go.Proofs.Qxb6602704a.box
open Go.ChangeShapes Go.WideShapes Go.ChangeAt Go.RowKit
set_option linter.unusedSimpArgs false
set_option linter.unusedVariables false

/-- The closure 'at': the four bytes of the pixel at place x, the ends repeated. -/
theorem at_any (x ss : Int) (bl bi bp bs A N M len T K : Nat) (hx1 : -131074 ≤ x) (hx2 : x ≤ 262146) (hl : 1 ≤ len) (hl2 : len ≤ 65536) (hK : wrap64 ((clampTo len x : Int) * ss) = (K : Int)) (hN : K + 4 ≤ N) (hN2 : N ≤ 1048576) (hM : N ≤ M) (w : World)
    (c1 : w.cell? ⟨bl, 0, none⟩ = some (.int .i64 len)) (c2 : w.cell? ⟨bi, 0, none⟩ = some (.slice (some ⟨bs, A, none⟩) N M)) (c3 : w.cell? ⟨bp, 2, none⟩ = some (.int .i64 ss)) :
    Calls Try.prog 31 #[.int .i64 x, .pointer (some ⟨bl, 0, none⟩), .pointer (some ⟨bi, 0, none⟩), .pointer (some ⟨bp, 0, none⟩)] w fun e w' => e = .returned (.slice (some ⟨bs, A + K, none⟩) 4 (M - K)) ∧ w = w' := by
  by_cases a : x < 0
  · have e : (clampTo len x : Int) = 0 := by unfold clampTo; omega
    rw [e] at hK
    have hK0 : K = 0 := by simp [wrap64] at hK; omega
    subst hK0
    have hlm : ¬ (len : Int) - 1 < 0 := by omega
    clear e hK
    go_enter Try.func31, Try.ntmps31
    go_wp2
    go_ret
    exact ⟨rfl, rfl⟩
  · by_cases b : (len : Int) - 1 < x
    · have e : (clampTo len x : Int) = (len : Int) - 1 := by unfold clampTo; omega
      rw [e] at hK
      clear e
      go_enter Try.func31, Try.ntmps31
      go_wp2
      go_ret
      exact ⟨rfl, rfl⟩
    · have e : (clampTo len x : Int) = x := by unfold clampTo; omega
      rw [e] at hK
      clear e
      go_enter Try.func31, Try.ntmps31
      go_wp2
      go_ret
      exact ⟨rfl, rfl⟩

/-- Nothing that was there has turned but block b. -/
structure Keep (b : Nat) (w w' : World) : Prop where
  os : w'.os = w.os
  tape : w'.tape = w.tape
  output : w'.output = w.output
  size : w.heap.size ≤ w'.heap.size
  block : ∀ k, k < w.heap.size → k ≠ b → w'.heap[k]? = w.heap[k]?

theorem Keep.refl (b : Nat) (w : World) : Keep b w w := ⟨rfl, rfl, rfl, Nat.le_refl _, fun _ _ _ => rfl⟩
theorem Keep.alloc {b : Nat} {w w' : World} (h : Keep b w w') (o : Obj) : Keep b w (w'.alloc o) :=
  ⟨h.os, h.tape, h.output, by have := h.size; simp; omega, fun k hk hb => by rw [Below.heap_alloc _ _ _ (by have := h.size; omega)]; exact h.block k hk hb⟩
theorem Keep.setCell {b : Nat} {w w' : World} (h : Keep b w w') (a : Addr) (ha : a.block = b ∨ w.heap.size ≤ a.block) (v : Value) : Keep b w (w'.setCell a v) :=
  ⟨h.os, h.tape, h.output, by have := h.size; simp [World.setCell]; omega, fun k hk hb => by rw [Below.heap_setCell _ _ _ _ (by omega)]; exact h.block k hk hb⟩
theorem Keep.drew {b : Nat} {w w' : World} (h : Keep b w w') : Keep b w w'.drew := ⟨h.os, h.tape, h.output, h.size, h.block⟩
theorem Keep.drewN {b : Nat} {w w' : World} (h : Keep b w w') (n : Nat) : Keep b w (w'.drewN n) := ⟨h.os, h.tape, h.output, h.size, h.block⟩
theorem Keep.blk {b : Nat} {w w' : World} (h : Keep b w w') {c : Nat} {t : TypeId} {xs : List Value} (hb : Blk w c t xs) (hne : c ≠ b) : Blk w' c t xs := by
  have hl := hb.lt
  unfold Blk at *
  rw [h.block c hl hne]; exact hb

/-- The lines' memory: both buffers, the two boxed structs, the boxed length. -/
structure LS (w wr : World) (bd bs len : Nat) (src D : List Int) (v0 v1 : List Value) : Prop where
  hd : Blk wr bd 5 (ints .u8 D)
  hs : Blk wr bs 5 (ints .u8 src)
  h0 : Blk wr w.heap.size 48 v0
  h1 : Blk wr (w.heap.size + 1) 48 v1
  h2 : Blk wr (w.heap.size + 1 + 1) 3 [.int .i64 len]
  keep : Keep bd w wr

section
variable {w wr : World} {bd bs len : Nat} {src D : List Int} {v0 v1 : List Value}
theorem LS.alloc (h : LS w wr bd bs len src D v0 v1) (o : Obj) : LS w (wr.alloc o) bd bs len src D v0 v1 :=
  ⟨h.hd.alloc o, h.hs.alloc o, h.h0.alloc o, h.h1.alloc o, h.h2.alloc o, h.keep.alloc o⟩
theorem LS.drew (h : LS w wr bd bs len src D v0 v1) : LS w wr.drew bd bs len src D v0 v1 := ⟨h.hd, h.hs, h.h0, h.h1, h.h2, h.keep.drew⟩
theorem LS.drewN (h : LS w wr bd bs len src D v0 v1) (n : Nat) : LS w (wr.drewN n) bd bs len src D v0 v1 := ⟨h.hd, h.hs, h.h0, h.h1, h.h2, h.keep.drewN n⟩
/-- A store into a block of the round's own. -/
theorem LS.setNew (h : LS w wr bd bs len src D v0 v1) (hbd : bd < w.heap.size) (hbs : bs < w.heap.size) (c i : Nat) (hc : w.heap.size + 3 ≤ c) (v : Value) : LS w (wr.setCell ⟨c, i, none⟩ v) bd bs len src D v0 v1 :=
  ⟨h.hd.set_ne _ (by simp; omega) _, h.hs.set_ne _ (by simp; omega) _, h.h0.set_ne _ (by simp; omega) _, h.h1.set_ne _ (by simp; omega) _, h.h2.set_ne _ (by simp; omega) _, h.keep.setCell _ (.inr (by simp; omega)) _⟩
/-- A store into dst. -/
theorem LS.setD (h : LS w wr bd bs len src D v0 v1) (hbd : bd < w.heap.size) (hbs : bs < w.heap.size) (hne : bd ≠ bs) (i : Nat) (v : Int) : LS w (wr.setCell ⟨bd, i, none⟩ (.int .u8 v)) bd bs len src (D.set i v) v0 v1 :=
  ⟨h.hd.setInt i v, h.hs.set_ne _ (by simp; omega) _, h.h0.set_ne _ (by simp; omega) _, h.h1.set_ne _ (by simp; omega) _, h.h2.set_ne _ (by simp; omega) _, h.keep.setCell _ (.inl rfl) _⟩
end

/-- The four sums. -/
def sumsOf (f : Nat → Int) : List Int := [f 0, f 1, f 2, f 3]
/-- The first c of them new, the others as they were. -/
def mix (c : Nat) (f g : Nat → Int) : List Int := sumsOf (fun q => if q < c then f q else g q)

theorem sumsOf_len (f : Nat → Int) : (sumsOf f).length = 4 := rfl
theorem sumsOf_at (f : Nat → Int) (c : Nat) (h : c < 4) : (sumsOf f).getD c 0 = f c := by
  rcases (show c = 0 ∨ c = 1 ∨ c = 2 ∨ c = 3 by omega) with rfl | rfl | rfl | rfl <;> rfl
theorem mix_len (c : Nat) (f g : Nat → Int) : (mix c f g).length = 4 := rfl
theorem mix_zero (f g : Nat → Int) : mix 0 f g = sumsOf g := by simp [mix, sumsOf]
theorem mix_four (f g : Nat → Int) : mix 4 f g = sumsOf f := by simp [mix, sumsOf]
theorem mix_at (c : Nat) (f g : Nat → Int) (h : c < 4) : (mix c f g).getD c 0 = g c := by
  unfold mix; rw [sumsOf_at _ c h]; simp
theorem mix_set (c : Nat) (f g : Nat → Int) (h : c < 4) : (mix c f g).set c (f c) = mix (c + 1) f g := by
  rcases (show c = 0 ∨ c = 1 ∨ c = 2 ∨ c = 3 by omega) with rfl | rfl | rfl | rfl <;> simp [mix, sumsOf]

/-- The round's own memory beside it: the captured cut of src, the sums. -/
structure LR (w wr : World) (bd bs len : Nat) (src D : List Int) (v0 v1 : List Value) (bi : Nat) (vi : Value) (Q : List Int) : Prop where
  ls : LS w wr bd bs len src D v0 v1
  hi : Blk wr bi 22 [vi]
  hq : Blk wr (bi + 1) 53 (ints .i32 Q)
  lo : w.heap.size + 3 ≤ bi

section
variable {w wr : World} {bd bs len : Nat} {src D : List Int} {v0 v1 : List Value} {bi : Nat} {vi : Value} {Q : List Int}
theorem LR.drew (h : LR w wr bd bs len src D v0 v1 bi vi Q) : LR w wr.drew bd bs len src D v0 v1 bi vi Q := ⟨h.ls.drew, h.hi, h.hq, h.lo⟩
theorem LR.drewN (h : LR w wr bd bs len src D v0 v1 bi vi Q) (n : Nat) : LR w (wr.drewN n) bd bs len src D v0 v1 bi vi Q := ⟨h.ls.drewN n, h.hi, h.hq, h.lo⟩
theorem LR.setQ (h : LR w wr bd bs len src D v0 v1 bi vi Q) (hbd : bd < w.heap.size) (hbs : bs < w.heap.size) (i : Nat) (v : Int) : LR w (wr.setCell ⟨bi + 1, i, none⟩ (.int .i32 v)) bd bs len src D v0 v1 bi vi (Q.set i v) :=
  ⟨h.ls.setNew hbd hbs (bi + 1) i (by have := h.lo; omega) _, h.hi.set_ne _ (by simp) _, h.hq.setInt i v, h.lo⟩
theorem LR.setD (h : LR w wr bd bs len src D v0 v1 bi vi Q) (hbd : bd < w.heap.size) (hbs : bs < w.heap.size) (hne : bd ≠ bs) (i : Nat) (v : Int) : LR w (wr.setCell ⟨bd, i, none⟩ (.int .u8 v)) bd bs len src (D.set i v) v0 v1 bi vi Q :=
  ⟨h.ls.setD hbd hbs hne i v, h.hi.set_ne _ (by have := h.lo; simp; omega) _, h.hq.set_ne _ (by have := h.lo; simp; omega) _, h.lo⟩
end

set_option maxRecDepth 100000 in
set_option maxHeartbeats 1000000 in
theorem lines_some (bd bs dcap scap n len reach L T DL DT : Nat) (src d : List Int) (dl ds sl ss : Int) (hn : 1 ≤ n) (hn2 : n ≤ 65536) (hl : 1 ≤ len) (hl2 : len ≤ 65536) (hr : reach ≤ 65536)
    (hds : d.length ≤ 1048576) (hss : src.length ≤ 1048576) (hdc : d.length ≤ dcap) (hsc : src.length ≤ scap) (hdc2 : dcap ≤ 1048576) (hsc2 : scap ≤ 1048576) (gd : Geo d.length dl ds n len DL DT) (gs : Geo src.length sl ss n len L T) (hsb : ∀ x ∈ src, 0 ≤ x ∧ x ≤ 255)
    (w : World) (hbd : Blk w bd 5 (ints .u8 d)) (hbs : Blk w bs 5 (ints .u8 src)) (hne : bd ≠ bs) :
    Calls Try.prog 27 #[.agg #[.slice (some ⟨bd, 0, none⟩) d.length dcap, .int .i64 dl, .int .i64 ds], .agg #[.slice (some ⟨bs, 0, none⟩) src.length scap, .int .i64 sl, .int .i64 ss], .int .i64 n, .int .i64 len, .int .i64 reach] w
      fun e w' => e = .returned (.tuple #[]) ∧ Blk w' bd 5 (ints .u8 (result src d L T DL DT n len reach)) ∧ Keep bd w w' := by
  have hbs1 := hbs.lt
  have hbd1 := hbd.lt
  have HBD := hide hbd
  have HBS := hide hbs
  have GD := hide gd
  have GS := hide gs
  have SB := hide hsb
  clear hbd hbs gd gs hsb
  go_enter Try.func27, Try.ntmps27
  go_wp2
  go_loopw [30] (fun i wr => ∃ k : Nat, k ≤ n ∧ i = .int .i64 k ∧ LS w wr bd bs len src (result src d L T DL DT k len reach) [.slice (some ⟨bd, 0, none⟩) d.length dcap, .int .i64 dl, .int .i64 ds] [.slice (some ⟨bs, 0, none⟩) src.length scap, .int .i64 sl, .int .i64 ss]) (fun i _ => n - (intOf i).toNat)
  case atStart =>
    refine ⟨0, Nat.zero_le _, rfl, ⟨((HBD.out.alloc _).alloc _).alloc _, ((HBS.out.alloc _).alloc _).alloc _, ?_, ?_, ?_, (((Keep.refl bd w).alloc _).alloc _).alloc _⟩⟩
    · exact ((Blk.new w #[.slice (some ⟨bd, 0, none⟩) d.length dcap, .int .i64 dl, .int .i64 ds] 48).alloc _).alloc _
    · have := (Blk.new (w.alloc (.cells #[.slice (some ⟨bd, 0, none⟩) d.length dcap, .int .i64 dl, .int .i64 ds] 48)) #[.slice (some ⟨bs, 0, none⟩) src.length scap, .int .i64 sl, .int .i64 ss] 48).alloc (.cells #[.int .i64 len] 3)
      rw [World.size_alloc] at this
      exact this
    · have := Blk.new ((w.alloc (.cells #[.slice (some ⟨bd, 0, none⟩) d.length dcap, .int .i64 dl, .int .i64 ds] 48)).alloc (.cells #[.slice (some ⟨bs, 0, none⟩) src.length scap, .int .i64 sl, .int .i64 ss] 48)) #[.int .i64 len] 3
      rw [World.size_alloc, World.size_alloc] at this
      exact this
  case round =>
    obtain ⟨i, hi, rfl, hls⟩ := hrel
    have HL := hide hls
    clear hls
    by_cases hlt : i < n
    · obtain ⟨A, hA⟩ : ∃ A, A = i * L := ⟨_, rfl⟩
      have eA : wrap64 ((i : Int) * sl) = (A : Int) := by rw [GS.out.hl i hlt, hA]
      have hA2 : A + 4 ≤ src.length := by have := GS.out.fit i 0 hlt (by omega); rw [hA]; omega
      have HA := hide hA
      obtain ⟨A2, hAd⟩ : ∃ A, A = i * DL := ⟨_, rfl⟩
      have eA2 : wrap64 ((i : Int) * dl) = (A2 : Int) := by rw [GD.out.hl i hlt, hAd]
      have hA3 : A2 + 4 ≤ d.length := by have := GD.out.fit i 0 hlt (by omega); rw [hAd]; omega
      have HA2 := hide hAd
      clear hA hAd
      have hltb : decide ((i : Int) < (n : Int)) = true := by simp; omega
      have q1 := HL.out.h1.cell 0
      have q2 := HL.out.h1.cell 1
      have q3 := HL.out.h0.cell 0
      have q4 := HL.out.h0.cell 1
      have q1' := fun o => (HL.out.h1.alloc o).cell 0
      have q2' := fun o => (HL.out.h1.alloc o).cell 1
      have q3' := fun o => (HL.out.h0.alloc o).cell 0
      have q4' := fun o => (HL.out.h0.alloc o).cell 1
      simp only [List.getElem?_cons_zero, List.getElem?_cons_succ] at q1 q2 q3 q4 q1' q2' q3' q4'
      go_wp2
      go_region
      clear eA eA2 q1 q2 q3 q4 q1' q2' q3' q4'
      go_wp2
      obtain ⟨bi, hbi⟩ : ∃ b, wr.heap.size = b := ⟨_, rfl⟩
      have HLR : Hid (LR w ((wr.alloc (.cells #[.slice (some ⟨bs, A, none⟩) (src.length - A) (scap - A)] 22)).alloc (.cells #[.int .i32 0, .int .i32 0, .int .i32 0, .int .i32 0] 53)).drew bd bs len src (result src d L T DL DT i len reach)
          [.slice (some ⟨bd, 0, none⟩) d.length dcap, .int .i64 dl, .int .i64 ds] [.slice (some ⟨bs, 0, none⟩) src.length scap, .int .i64 sl, .int .i64 ss] bi (.slice (some ⟨bs, A, none⟩) (src.length - A) (scap - A)) (sumsOf fun c => C (lineOf src (A + c) T) len (-(reach : Int)) - C (lineOf src (A + c) T) len (-(reach : Int)))) := by
        refine LR.drew ⟨(HL.out.alloc _).alloc _, ?_, ?_, by have := HL.out.h2.lt; omega⟩
        · have := (Blk.new wr #[.slice (some ⟨bs, A, none⟩) (src.length - A) (scap - A)] 22).alloc (.cells #[.int .i32 0, .int .i32 0, .int .i32 0, .int .i32 0] 53)
          rw [hbi] at this
          exact this
        · have := Blk.new (wr.alloc (.cells #[.slice (some ⟨bs, A, none⟩) (src.length - A) (scap - A)] 22)) #[.int .i32 0, .int .i32 0, .int .i32 0, .int .i32 0] 53
          rw [World.size_alloc, hbi] at this
          simpa [sumsOf, ints] using this
      rw [hbi]
      clear hbi HL
      go_loopw [16] (fun jj wr => ∃ m : Nat, m ≤ 2 * reach + 1 ∧ jj = .int .i64 (-(reach : Int) + m) ∧ LR w wr bd bs len src (result src d L T DL DT i len reach)
          [.slice (some ⟨bd, 0, none⟩) d.length dcap, .int .i64 dl, .int .i64 ds] [.slice (some ⟨bs, 0, none⟩) src.length scap, .int .i64 sl, .int .i64 ss] bi (.slice (some ⟨bs, A, none⟩) (src.length - A) (scap - A)) (sumsOf fun c => C (lineOf src (A + c) T) len (-(reach : Int) + m) - C (lineOf src (A + c) T) len (-(reach : Int)))) (fun jj _ => (reach + 1 - intOf jj).toNat)
      case atStart => exact ⟨0, by omega, by simp, by simpa using HLR.out⟩
      case round =>
        clear HLR
        obtain ⟨m, hm, rfl, hlr⟩ := hrel
        have HR := hide hlr
        clear hlr
        by_cases hml : m < 2 * reach + 1
        · have hmb : decide (-(reach : Int) + m ≤ reach) = true := by simp; omega
          obtain ⟨K, hK⟩ : ∃ K, K = clampTo len (-(reach : Int) + m) * T := ⟨_, rfl⟩
          have hcl := clamp_lt len (-(reach : Int) + m) hl
          have hK2 : A + K + 4 ≤ src.length := by have := GS.out.fit i _ hlt hcl; rw [HA.out, hK]; omega
          have EK : Hid (wrap64 ((clampTo len (-(reach : Int) + m) : Int) * ss) = (K : Int)) := by unfold Hid; rw [GS.out.hs _ hcl, hK]
          have HK := hide hK
          clear hK hcl
          have C1 : Hid (wr.cell? ⟨w.heap.size + 1 + 1, 0, none⟩ = some (.int .i64 len)) := by unfold Hid; simpa using HR.out.ls.h2.cell 0
          have C2 : Hid (wr.cell? ⟨bi, 0, none⟩ = some (.slice (some ⟨bs, A, none⟩) (src.length - A) (scap - A))) := by unfold Hid; simpa using HR.out.hi.cell 0
          have C3 : Hid (wr.cell? ⟨w.heap.size + 1, 2, none⟩ = some (.int .i64 ss)) := by unfold Hid; simpa using HR.out.ls.h1.cell 2
          go_wp2_with fail
          refine (at_any (-(reach : Int) + m) ss (w.heap.size + 1 + 1) bi (w.heap.size + 1) bs A (src.length - A) (scap - A) len T K (by omega) (by omega) hl hl2 EK.out (by omega) (by omega) (by omega) wr C1.out C2.out C3.out).mono ?_
          rintro e w' ⟨rfl, rfl⟩
          clear C1 C2 C3 EK
          go_wp2
          go_loopw [59] (fun cc wr => ∃ c : Nat, c ≤ 4 ∧ cc = .int .i64 c ∧ LR w wr bd bs len src (result src d L T DL DT i len reach) [.slice (some ⟨bd, 0, none⟩) d.length dcap, .int .i64 dl, .int .i64 ds] [.slice (some ⟨bs, 0, none⟩) src.length scap, .int .i64 sl, .int .i64 ss] bi (.slice (some ⟨bs, A, none⟩) (src.length - A) (scap - A)) (mix c (fun c => C (lineOf src (A + c) T) len (-(reach : Int) + (m + 1 : Nat)) - C (lineOf src (A + c) T) len (-(reach : Int))) (fun c => C (lineOf src (A + c) T) len (-(reach : Int) + (m : Nat)) - C (lineOf src (A + c) T) len (-(reach : Int))))) (fun cc _ => 4 - (intOf cc).toNat)
          case atStart => exact ⟨0, by omega, rfl, by rw [mix_zero]; exact HR.out⟩
          case round =>
            clear HR
            obtain ⟨c, hc, rfl, hlr⟩ := hrel
            have HR := hide hlr
            clear hlr
            by_cases hc4 : c < 4
            · obtain ⟨Y, hY⟩ : ∃ Y, Y = src.getD (A + K + c) 0 := ⟨_, rfl⟩
              obtain ⟨X, hX⟩ : ∃ X, X = C (lineOf src (A + c) T) len (-(reach : Int) + m) - C (lineOf src (A + c) T) len (-(reach : Int)) := ⟨_, rfl⟩
              have bY : 0 ≤ Y ∧ Y ≤ 255 := by rw [hY]; exact src_bd SB.out _
              have bX : 0 ≤ X ∧ X ≤ 255 * m := by rw [hX]; exact C_up (lineOf src (A + c) T) len hl (fun k => (line_bd SB.out _ _ k).1) (fun k => (line_bd SB.out _ _ k).2) _ m
              have q1 : wr.cell? ⟨bs, A + K + c, none⟩ = some (.int .u8 Y) := by rw [HR.out.ls.hs.int (A + K + c) (by omega), hY]
              have q2 : wr.cell? ⟨bi + 1, c, none⟩ = some (.int .i32 X) := by rw [HR.out.hq.int c (by rw [mix_len]; omega), mix_at _ _ _ hc4, hX]
              have q3 := HR.out.hq.frozen c
              have HN : Hid (LR w (wr.setCell ⟨bi + 1, c, none⟩ (.int .i32 (X + Y))) bd bs len src (result src d L T DL DT i len reach) [.slice (some ⟨bd, 0, none⟩) d.length dcap, .int .i64 dl, .int .i64 ds] [.slice (some ⟨bs, 0, none⟩) src.length scap, .int .i64 sl, .int .i64 ss] bi (.slice (some ⟨bs, A, none⟩) (src.length - A) (scap - A)) (mix (c + 1) (fun c => C (lineOf src (A + c) T) len (-(reach : Int) + (m + 1 : Nat)) - C (lineOf src (A + c) T) len (-(reach : Int))) (fun c => C (lineOf src (A + c) T) len (-(reach : Int) + (m : Nat)) - C (lineOf src (A + c) T) len (-(reach : Int))))) := by
                have h5 := HR.out.setQ hbd1 hbs1 c (X + Y)
                have e : X + Y = C (lineOf src (A + c) T) len (-(reach : Int) + (m + 1 : Nat)) - C (lineOf src (A + c) T) len (-(reach : Int)) := by
                  rw [show (-(reach : Int) + ((m + 1 : Nat) : Int)) = -(reach : Int) + m + 1 by omega, C_step _ len hl, hX, hY, HK.out]
                  unfold lineOf
                  rw [show A + clampTo len (-(reach : Int) + m) * T + c = A + c + clampTo len (-(reach : Int) + m) * T by omega]
                  omega
                rw [show (mix c (fun c => C (lineOf src (A + c) T) len (-(reach : Int) + (m + 1 : Nat)) - C (lineOf src (A + c) T) len (-(reach : Int))) (fun c => C (lineOf src (A + c) T) len (-(reach : Int) + (m : Nat)) - C (lineOf src (A + c) T) len (-(reach : Int)))).set c (X + Y) = mix (c + 1) (fun c => C (lineOf src (A + c) T) len (-(reach : Int) + (m + 1 : Nat)) - C (lineOf src (A + c) T) len (-(reach : Int))) (fun c => C (lineOf src (A + c) T) len (-(reach : Int) + (m : Nat)) - C (lineOf src (A + c) T) len (-(reach : Int))) from by rw [e]; exact mix_set c _ _ hc4] at h5
                exact h5
              clear hX hY
              go_wp2
              go_roundw
              case rel => exact ⟨c + 1, by omega, by go_num, HN.out⟩
              case measure => simp [intOf]; omega
            · go_wp2
              go_roundw
              case rel =>
                refine ⟨m + 1, by omega, by go_num, ?_⟩
                have e4 : c = 4 := by omega
                have h5 := HR.out
                rw [e4, mix_four] at h5
                exact h5
              case measure => simp [intOf]; omega
        · have HR2 : Hid (LR w wr bd bs len src (result src d L T DL DT i len reach) [.slice (some ⟨bd, 0, none⟩) d.length dcap, .int .i64 dl, .int .i64 ds] [.slice (some ⟨bs, 0, none⟩) src.length scap, .int .i64 sl, .int .i64 ss] bi (.slice (some ⟨bs, A, none⟩) (src.length - A) (scap - A)) (sumsOf (fun c => S (lineOf src (A + c) T) len reach 0))) := by
            have e4 : m = 2 * reach + 1 := by omega
            have h5 := HR.out
            rw [e4] at h5
            have e5 : (sumsOf (fun c => C (lineOf src (A + c) T) len (-(reach : Int) + (2 * reach + 1 : Nat)) - C (lineOf src (A + c) T) len (-(reach : Int)))) = sumsOf (fun c => S (lineOf src (A + c) T) len reach 0) := by
              unfold S
              rw [show -(reach : Int) + ((2 * reach + 1 : Nat) : Int) = ((0 : Nat) : Int) + reach + 1 by omega, show ((0 : Nat) : Int) - reach = -(reach : Int) by omega]
            rw [e5] at h5
            exact h5
          clear HR
          have q1 : wr.cell? ⟨w.heap.size + 1 + 1, 0, none⟩ = some (.int .i64 len) := by simpa using HR2.out.ls.h2.cell 0
          go_wp2
          clear q1
          go_loopw [73] (fun jj wr => ∃ j : Nat, j ≤ len ∧ jj = .int .i64 j ∧ LR w wr bd bs len src (putJ (result src d L T DL DT i len reach) (fun j => i * DL + j * DT) (fun j c => val src L T len reach i j c) j) [.slice (some ⟨bd, 0, none⟩) d.length dcap, .int .i64 dl, .int .i64 ds] [.slice (some ⟨bs, 0, none⟩) src.length scap, .int .i64 sl, .int .i64 ss] bi (.slice (some ⟨bs, A, none⟩) (src.length - A) (scap - A)) (sumsOf (fun c => S (lineOf src (A + c) T) len reach j))) (fun jj _ => len - (intOf jj).toNat)
          case atStart => exact ⟨0, by omega, rfl, HR2.out⟩
          case round =>
            clear HR2
            obtain ⟨j, hj, rfl, hlr⟩ := hrel
            have HR := hide hlr
            clear hlr
            by_cases hjl : j < len
            · have hjb : decide ((j : Int) < (len : Int)) = true := by simp; omega
              obtain ⟨K, hK⟩ : ∃ K, K = j * DT := ⟨_, rfl⟩
              have eK : wrap64 ((j : Int) * ds) = (K : Int) := by rw [GD.out.hs j hjl, hK]
              have hK2 : A2 + K + 4 ≤ d.length := by have := GD.out.fit i j hlt hjl; rw [HA2.out, hK]; omega
              have HK := hide hK
              clear hK
              have q1 : wr.cell? ⟨w.heap.size, 2, none⟩ = some (.int .i64 ds) := by simpa using HR.out.ls.h0.cell 2
              go_wp2
              clear q1 eK
              go_loopw [87] (fun cc wr => ∃ c : Nat, c ≤ 4 ∧ cc = .int .i64 c ∧ LR w wr bd bs len src (putC (putJ (result src d L T DL DT i len reach) (fun j => i * DL + j * DT) (fun j c => val src L T len reach i j c) j) (i * DL + j * DT) (fun c => val src L T len reach i j c) c) [.slice (some ⟨bd, 0, none⟩) d.length dcap, .int .i64 dl, .int .i64 ds] [.slice (some ⟨bs, 0, none⟩) src.length scap, .int .i64 sl, .int .i64 ss] bi (.slice (some ⟨bs, A, none⟩) (src.length - A) (scap - A)) (sumsOf (fun c => S (lineOf src (A + c) T) len reach j))) (fun cc _ => 4 - (intOf cc).toNat)
              case atStart => exact ⟨0, by omega, rfl, HR.out⟩
              case round =>
                clear HR
                obtain ⟨c, hc, rfl, hlr⟩ := hrel
                have HR := hide hlr
                clear hlr
                by_cases hc4 : c < 4
                · obtain ⟨X, hX⟩ : ∃ X, X = S (lineOf src (A + c) T) len reach j := ⟨_, rfl⟩
                  have bX : 0 ≤ X ∧ X ≤ 255 * (2 * (reach : Int) + 1) := by rw [hX]; exact S_bd (lineOf src (A + c) T) len reach j hl (fun k => (line_bd SB.out _ _ k).1) (fun k => (line_bd SB.out _ _ k).2)
                  have hDl : ((putC (putJ (result src d L T DL DT i len reach) (fun j => i * DL + j * DT) (fun j c => val src L T len reach i j c) j) (i * DL + j * DT) (fun c => val src L T len reach i j c) c)).length = d.length := by
                    rw [putC_len, putJ_len]; unfold result; rw [putI_len]
                  have q2 : wr.cell? ⟨bi + 1, c, none⟩ = some (.int .i32 X) := by rw [HR.out.hq.int c (by rw [sumsOf_len]; omega), sumsOf_at _ _ hc4, hX]
                  obtain ⟨v3, q3⟩ : ∃ v, wr.cell? ⟨bd, A2 + K + c, none⟩ = some v := ⟨_, HR.out.ls.hd.int (A2 + K + c) (by rw [hDl]; omega)⟩
                  have q4 := HR.out.ls.hd.frozen (A2 + K + c)
                  have HN : Hid (LR w (wr.setCell ⟨bd, A2 + K + c, none⟩ (.int .u8 ((X + (2 * (reach : Int) + 1) / 2) / (2 * (reach : Int) + 1) % 256))) bd bs len src (putC (putJ (result src d L T DL DT i len reach) (fun j => i * DL + j * DT) (fun j c => val src L T len reach i j c) j) (i * DL + j * DT) (fun c => val src L T len reach i j c) (c + 1)) [.slice (some ⟨bd, 0, none⟩) d.length dcap, .int .i64 dl, .int .i64 ds] [.slice (some ⟨bs, 0, none⟩) src.length scap, .int .i64 sl, .int .i64 ss] bi (.slice (some ⟨bs, A, none⟩) (src.length - A) (scap - A)) (sumsOf (fun c => S (lineOf src (A + c) T) len reach j))) := by
                    have e : (X + (2 * (reach : Int) + 1) / 2) / (2 * (reach : Int) + 1) % 256 = val src L T len reach i j c := by
                      have hb := mean_bd X reach bX.1 bX.2
                      rw [mean_eq X reach bX.1]
                      unfold val
                      rw [← HA.out, ← hX]
                      omega
                    have h5 := HR.out.setD hbd1 hbs1 hne (A2 + K + c) ((X + (2 * (reach : Int) + 1) / 2) / (2 * (reach : Int) + 1) % 256)
                    have h6 : ((putC (putJ (result src d L T DL DT i len reach) (fun j => i * DL + j * DT) (fun j c => val src L T len reach i j c) j) (i * DL + j * DT) (fun c => val src L T len reach i j c) c)).set (A2 + K + c) ((X + (2 * (reach : Int) + 1) / 2) / (2 * (reach : Int) + 1) % 256) = (putC (putJ (result src d L T DL DT i len reach) (fun j => i * DL + j * DT) (fun j c => val src L T len reach i j c) j) (i * DL + j * DT) (fun c => val src L T len reach i j c) (c + 1)) := by
                      rw [e, HA2.out, HK.out]; rfl
                    rw [h6] at h5
                    exact h5
                  clear hX hDl
                  go_wp2
                  go_roundw
                  case rel => exact ⟨c + 1, by omega, by go_num, HN.out⟩
                  case measure => simp [intOf]; omega
                · have HR3 : Hid (LR w wr bd bs len src (putJ (result src d L T DL DT i len reach) (fun j => i * DL + j * DT) (fun j c => val src L T len reach i j c) (j + 1)) [.slice (some ⟨bd, 0, none⟩) d.length dcap, .int .i64 dl, .int .i64 ds] [.slice (some ⟨bs, 0, none⟩) src.length scap, .int .i64 sl, .int .i64 ss] bi (.slice (some ⟨bs, A, none⟩) (src.length - A) (scap - A)) (sumsOf (fun c => S (lineOf src (A + c) T) len reach j))) := by
                    have e4 : c = 4 := by omega
                    have h5 := HR.out
                    rw [e4] at h5
                    exact h5
                  clear HR
                  obtain ⟨K1, hK1⟩ : ∃ K, K = clampTo len ((j : Int) + reach + 1) * T := ⟨_, rfl⟩
                  have hcl1 := clamp_lt len ((j : Int) + reach + 1) hl
                  have hK12 : A + K1 + 4 ≤ src.length := by have := GS.out.fit i _ hlt hcl1; rw [HA.out, hK1]; omega
                  have EK1 : Hid (wrap64 ((clampTo len ((j : Int) + reach + 1) : Int) * ss) = (K1 : Int)) := by unfold Hid; rw [GS.out.hs _ hcl1, hK1]
                  obtain ⟨K3, hK3⟩ : ∃ K, K = clampTo len ((j : Int) - reach) * T := ⟨_, rfl⟩
                  have hcl3 := clamp_lt len ((j : Int) - reach) hl
                  have hK32 : A + K3 + 4 ≤ src.length := by have := GS.out.fit i _ hlt hcl3; rw [HA.out, hK3]; omega
                  have EK3 : Hid (wrap64 ((clampTo len ((j : Int) - reach) : Int) * ss) = (K3 : Int)) := by unfold Hid; rw [GS.out.hs _ hcl3, hK3]
                  have HK1 := hide hK1
                  have HK3 := hide hK3
                  clear hK1 hK3 hcl1 hcl3
                  have C1 : Hid (wr.cell? ⟨w.heap.size + 1 + 1, 0, none⟩ = some (.int .i64 len)) := by unfold Hid; simpa using HR3.out.ls.h2.cell 0
                  have C2 : Hid (wr.cell? ⟨bi, 0, none⟩ = some (.slice (some ⟨bs, A, none⟩) (src.length - A) (scap - A))) := by unfold Hid; simpa using HR3.out.hi.cell 0
                  have C3 : Hid (wr.cell? ⟨w.heap.size + 1, 2, none⟩ = some (.int .i64 ss)) := by unfold Hid; simpa using HR3.out.ls.h1.cell 2
                  go_wp2_with fail
                  refine (at_any ((j : Int) + reach + 1) ss (w.heap.size + 1 + 1) bi (w.heap.size + 1) bs A (src.length - A) (scap - A) len T K1 (by omega) (by omega) hl hl2 EK1.out (by omega) (by omega) (by omega) wr C1.out C2.out C3.out).mono ?_
                  rintro e w' ⟨rfl, rfl⟩
                  go_wp2_with fail
                  refine (at_any ((j : Int) - reach) ss (w.heap.size + 1 + 1) bi (w.heap.size + 1) bs A (src.length - A) (scap - A) len T K3 (by omega) (by omega) hl hl2 EK3.out (by omega) (by omega) (by omega) wr C1.out C2.out C3.out).mono ?_
                  rintro e w' ⟨rfl, rfl⟩
                  clear C1 C2 C3 EK1 EK3
                  go_wp2
                  go_loopw [114] (fun cc wr => ∃ c : Nat, c ≤ 4 ∧ cc = .int .i64 c ∧ LR w wr bd bs len src (putJ (result src d L T DL DT i len reach) (fun j => i * DL + j * DT) (fun j c => val src L T len reach i j c) (j + 1)) [.slice (some ⟨bd, 0, none⟩) d.length dcap, .int .i64 dl, .int .i64 ds] [.slice (some ⟨bs, 0, none⟩) src.length scap, .int .i64 sl, .int .i64 ss] bi (.slice (some ⟨bs, A, none⟩) (src.length - A) (scap - A)) (mix c (fun c => S (lineOf src (A + c) T) len reach (j + 1)) (fun c => S (lineOf src (A + c) T) len reach j))) (fun cc _ => 4 - (intOf cc).toNat)
                  case atStart => exact ⟨0, by omega, rfl, by rw [mix_zero]; exact HR3.out⟩
                  case round =>
                    clear HR3
                    obtain ⟨c, hc, rfl, hlr⟩ := hrel
                    have HR := hide hlr
                    clear hlr
                    by_cases hc4 : c < 4
                    · obtain ⟨Y, hY⟩ : ∃ Y, Y = src.getD (A + K1 + c) 0 := ⟨_, rfl⟩
                      obtain ⟨Z, hZ⟩ : ∃ Y, Y = src.getD (A + K3 + c) 0 := ⟨_, rfl⟩
                      obtain ⟨X, hX⟩ : ∃ X, X = S (lineOf src (A + c) T) len reach j := ⟨_, rfl⟩
                      have bY : 0 ≤ Y ∧ Y ≤ 255 := by rw [hY]; exact src_bd SB.out _
                      have bZ : 0 ≤ Z ∧ Z ≤ 255 := by rw [hZ]; exact src_bd SB.out _
                      have bX : 0 ≤ X ∧ X ≤ 255 * (2 * (reach : Int) + 1) := by rw [hX]; exact S_bd (lineOf src (A + c) T) len reach j hl (fun k => (line_bd SB.out _ _ k).1) (fun k => (line_bd SB.out _ _ k).2)
                      have q1 : wr.cell? ⟨bs, A + K1 + c, none⟩ = some (.int .u8 Y) := by rw [HR.out.ls.hs.int (A + K1 + c) (by omega), hY]
                      have q1' : wr.cell? ⟨bs, A + K3 + c, none⟩ = some (.int .u8 Z) := by rw [HR.out.ls.hs.int (A + K3 + c) (by omega), hZ]
                      have q2 : wr.cell? ⟨bi + 1, c, none⟩ = some (.int .i32 X) := by rw [HR.out.hq.int c (by rw [mix_len]; omega), mix_at _ _ _ hc4, hX]
                      have q3 := HR.out.hq.frozen c
                      have hi4 : (c : Int) < 4 := by omega
                      have HN : Hid (LR w (wr.setCell ⟨bi + 1, c, none⟩ (.int .i32 (X + (Y - Z)))).drew bd bs len src (putJ (result src d L T DL DT i len reach) (fun j => i * DL + j * DT) (fun j c => val src L T len reach i j c) (j + 1)) [.slice (some ⟨bd, 0, none⟩) d.length dcap, .int .i64 dl, .int .i64 ds] [.slice (some ⟨bs, 0, none⟩) src.length scap, .int .i64 sl, .int .i64 ss] bi (.slice (some ⟨bs, A, none⟩) (src.length - A) (scap - A)) (mix (c + 1) (fun c => S (lineOf src (A + c) T) len reach (j + 1)) (fun c => S (lineOf src (A + c) T) len reach j))) := by
                        have h5 := (HR.out.setQ hbd1 hbs1 c (X + (Y - Z))).drew
                        have e : X + (Y - Z) = S (lineOf src (A + c) T) len reach (j + 1) := by
                          rw [S_step _ len reach j hl, hX, hY, hZ, HK1.out, HK3.out]
                          unfold lineOf
                          rw [show A + clampTo len ((j : Int) + reach + 1) * T + c = A + c + clampTo len ((j : Int) + reach + 1) * T by omega, show A + clampTo len ((j : Int) - reach) * T + c = A + c + clampTo len ((j : Int) - reach) * T by omega]
                        rw [show (mix c (fun c => S (lineOf src (A + c) T) len reach (j + 1)) (fun c => S (lineOf src (A + c) T) len reach j)).set c (X + (Y - Z)) = mix (c + 1) (fun c => S (lineOf src (A + c) T) len reach (j + 1)) (fun c => S (lineOf src (A + c) T) len reach j) from by rw [e]; exact mix_set c _ _ hc4] at h5
                        exact h5
                      clear hX hY hZ
                      go_wp2
                      go_region
                      go_wp2
                      go_roundw
                      case rel => exact ⟨c + 1, by omega, by go_num, HN.out⟩
                      case measure => simp [intOf]; omega
                    · go_wp2
                      go_roundw
                      case rel =>
                        refine ⟨j + 1, by omega, by go_num, ?_⟩
                        have e4 : c = 4 := by omega
                        have h5 := HR.out
                        rw [e4, mix_four] at h5
                        exact h5
                      case measure => simp [intOf]; omega
            · go_wp2
              go_roundw
              case rel =>
                refine ⟨i + 1, by omega, by go_num, ?_⟩
                have e4 : j = len := by omega
                have h5 := HR.out.ls
                rw [e4] at h5
                exact h5
              case measure => simp [intOf]; omega
    · go_wp2
      go_end0
      have e4 : i = n := by omega
      have h5 := HL.out
      rw [e4] at h5
      exact ⟨rfl, h5.hd, h5.keep⟩
end Go.Proofs.Qxb6602704a.box
