import Derived.Test.Qxb6602784aRebI
import Derived.Deep.RegionHeld3
namespace Go.Proofs.Qxb6602784a.grf
open Go.ChangeShapes Go.WideShapes Go.ChangeAt Go.RowKit Go.Maps
set_option linter.unusedSimpArgs false
set_option linter.unusedVariables false

set_option maxHeartbeats 2000000 in
set_option maxRecDepth 1000000 in
theorem reb_two (d bI bK m k j x y : Nat) (ep e ex ey : Int) (bs xs ys : List Int) (ps : List Value) (hbs : bs.length = m) (hps : ps.length = m) (hk : k < m) (hj : j = if k = m - 1 then m - 2 else k) (hm2 : 2 ≤ m) (hm : m ≤ 65536)
    (hp1 : ∀ v ∈ ps, v.oneCell' = true) (hpx : ps[j]? = some (.pointer (some ⟨x, 0, none⟩))) (hpy : ps[j + 1]? = some (.pointer (some ⟨y, 0, none⟩))) (hxl : xs.length ≤ 1048576) (hyl : ys.length ≤ 1048576)
    (w : World) (hd : Node w d ep (.slice (some ⟨bI, 0, none⟩) m m) (.slice (some ⟨bK, 0, none⟩) m m)) (hI : Blk w bI 2 (ints .i64 bs)) (hK : Blk w bK 40 ps) (h1 : d ≠ bI) (h2 : d ≠ bK) (h3 : bI ≠ bK)
    (hx : Leaf w x ex xs) (hy : Leaf w y ey ys) :
    Calls Try.prog 46 #[.pointer (some ⟨d, 0, none⟩), .int .u64 e, .int .i64 k] w fun r w' => r = .returned (.tuple #[]) ∧ RebEnd w w' d bI bK m j ep e bs ps (xs ++ ys) := by
  have hj2 : j + 1 < m := by split at hj <;> omega
  obtain ⟨vx, nx, rx⟩ := hx
  obtain ⟨vy, ny, ry⟩ := hy
  have q0 := hd.kids
  have b1 : ((m : Int) == 1) = false := by simp; omega
  have j1 : IntKind.i64.wrap ((m : Int) - 1) = ((m - 1 : Nat) : Int) := by rw [IntKind.wrap_i64]; omega
  have q1 : w.cell? ⟨bK, j, none⟩ = some (.pointer (some ⟨x, 0, none⟩)) := by rw [hK.cell]; exact hpx
  have q2 : w.cell? ⟨bK, j + 1, none⟩ = some (.pointer (some ⟨y, 0, none⟩)) := by rw [hK.cell]; exact hpy
  have D0 : Hid (DropTo w w d bI bK ep (.slice (some ⟨bI, 0, none⟩) m m) (.slice (some ⟨bK, 0, none⟩) m m) (ints .i64 bs) ps) := ⟨hd, hI, hK, Stay.refl _ _, fun B _ _ _ => Below.refl _ _⟩
  have D1 := hide hd
  have D2 : Hid (bI < w.heap.size) := hI.lt
  have D3 : Hid (bK < w.heap.size) := hK.lt
  have HX := hide nx
  have HY := hide ny
  have RX := hide rx
  have RY := hide ry
  have HJ := hide hj
  have HP := hide hp1
  have HPX := hide hpx
  have HPY := hide hpy
  have HBS := hide hbs
  have HPS := hide hps
  clear nx ny rx ry hj hp1 hpx hpy hd hI hK hbs hps
  go_enter Try.func46, Try.ntmps46
  go_upto_if 22 with fail
  go_cut [2] (fun a wx => a = .int .i64 j ∧ w = wx)
  case first =>
    by_cases hc : k = m - 1
    · have b2 : ((k : Int) == ((m - 1 : Nat) : Int)) = true := by simp [hc]
      have e1 : ((j : Nat) : Int) = (k : Int) - 1 := by have := HJ.out; rw [if_pos hc] at this; omega
      have E1 := hide e1
      clear e1
      go_wp2
      go_meet
      exact ⟨by rw [E1.out]; try rw [hc], rfl⟩
    · have b2 : ((k : Int) == ((m - 1 : Nat) : Int)) = false := by simp; omega
      have e1 : j = k := by have := HJ.out; rw [if_neg hc] at this; exact this
      have E1 := hide e1
      clear e1
      go_wp2
      go_meet
      exact ⟨by rw [E1.out]; try rw [hc], rfl⟩
  case rest =>
    obtain ⟨rfl, rfl⟩ := hcut
    have i1 : ((j : Nat) : Int) + 1 < (m : Int) := by omega
    have i2 : IntKind.i64.wrap ((j : Int) + 1) = (j : Int) + 1 := by rw [IntKind.wrap_i64]; omega
    have i3 : (j : Int) < (m : Int) := by omega
    go_wp2_with fail
    go_cut [6, 7] (fun a b wx => a = .pointer (some ⟨x, 0, none⟩) ∧ b = .pointer (some ⟨y, 0, none⟩) ∧ ∃ n, wx = w.drewN n)
    case first =>
      go_quiet (fail)
      go_wp2
      go_meet
      exact ⟨rfl, rfl, _, rfl⟩
    case rest =>
      obtain ⟨rfl, rfl, nn, hW⟩ := hcut
      have DW : DropTo w wc d bI bK ep (.slice (some ⟨bI, 0, none⟩) m m) (.slice (some ⟨bK, 0, none⟩) m m) (ints .i64 bs) ps := by
        rw [hW]
        exact ⟨D0.out.node, D0.out.ids, D0.out.kids, D0.out.stay, fun B _ _ _ => drewN_below B w nn⟩
      have nx : Node wc x ex vx (.slice none 0 0) := by rw [hW]; exact HX.out
      have ny : Node wc y ey vy (.slice none 0 0) := by rw [hW]; exact HY.out
      have rx : Row wc vx (ints .i64 xs) := by rw [hW]; exact RX.out
      have ry : Row wc vy (ints .i64 ys) := by rw [hW]; exact RY.out
      clear hW q0 q1 q2 D0 HX HY RX RY
      have i4 : IntKind.i64.wrap ((xs.length : Int) + (ys.length : Int)) = (xs.length : Int) + (ys.length : Int) := by rw [IntKind.wrap_i64]; omega
      obtain ⟨w1, w2, w3, r1, r2, r3, b1', b2, b3, hb, hs⟩ := joined_row (w := wc.drew) rx ry hxl hyl
      obtain ⟨a, c, rfl, _⟩ := rx.slice
      obtain ⟨a', c', rfl, _⟩ := ry.slice
      rw [ints_len] at r2 r3
      have qx0 := nx.ids
      have qy0 := ny.ids
      have zx := Blk.lt nx
      have zy := Blk.lt ny
      have qx1 := (Blk.below nx.drew b1' zx).cell 1
      have qy2 := (Blk.below ny.drew b2 zy).cell 1
      have qx2 := (Blk.below nx.drew b2 zx).cell 1
      have qy1 := (Blk.below ny.drew b1' zy).cell 1
      have qx3 := (Blk.below nx.drew b3 zx).cell 1
      have qy3 := (Blk.below ny.drew b3 zy).cell 1
      have qx4 := ((Blk.below nx.drew b3 zx).alloc (.cells #[.int .u64 e, .slice (some ⟨wc.drew.heap.size, 0, none⟩) (xs.length + ys.length) (xs.length + ys.length), .slice none 0 0] 61)).cell 1
      have qy4 := ((Blk.below ny.drew b3 zy).alloc (.cells #[.int .u64 e, .slice (some ⟨wc.drew.heap.size, 0, none⟩) (xs.length + ys.length) (xs.length + ys.length), .slice none 0 0] 61)).cell 1
      rw [ints_len] at qx0 qx1 qx2 qx3 qx4
      rw [ints_len] at qy0 qy2 qy1 qy3 qy4
      have D3' : DropTo w w3 d bI bK ep (.slice (some ⟨bI, 0, none⟩) m m) (.slice (some ⟨bK, 0, none⟩) m m) (ints .i64 bs) ps := by
        have d0 := DW.drew
        have l1 := Blk.lt d0.node
        have l2 := Blk.lt d0.ids
        have l3 := Blk.lt d0.kids
        have hsz := d0.stay.1
        exact ⟨Blk.below d0.node b3 l1, d0.ids.below b3 l2, d0.kids.below b3 l3, ⟨by have := b3.size; omega, fun z hz hm => by rw [b3.block z (by omega), d0.stay.2 z hz hm]⟩, fun B h1 h2 h3 => (d0.below B h1 h2 h3).trans (b3.mono (by omega))⟩
      have nx3 := Blk.below nx.drew b3 zx
      have R1 := hide r1
      have R2 := hide r2
      have R3 := hide r3
      have DH3 := hide D3'
      have HB := hide hb
      have HS := hide hs
      have HSZ := hide DW.stay.1
      have NX3 := hide nx3
      clear hb hs nx3 D3' DW nx ny rx ry b1' b2 b3 r2 r3 zx zy
      obtain ⟨n, hn⟩ : ∃ n, n = xs.length := ⟨_, rfl⟩
      obtain ⟨m', hm'⟩ : ∃ n, n = ys.length := ⟨_, rfl⟩
      rw [← hn] at hxl R1 R2 R3 r1 i4 qx0 qx1 qx2 qx3 qx4 qy4
      rw [← hm'] at hyl R1 R2 R3 r1 i4 qy0 qy2 qy1 qy3 qy4 qx4
      have HN := hide hn
      have HM' := hide hm'
      clear hn hm'
      simp only [List.getElem?_cons_succ, List.getElem?_cons_zero] at qx1 qy2 qx2 qy1 qx3 qy3 qx4 qy4
      have hZ : w.heap.size ≤ wc.heap.size := by have := DH3.out.stay.1; have := HSZ.out; omega
      have hl : (xs ++ ys).length = n + m' := by rw [HN.out, HM'.out]; simp
      have HL := hide hl
      clear hl
      go_wp2_with fail
      go_cut [8] (fun v wx => ∃ p b, v = .pointer (some ⟨p, 0, none⟩) ∧ w.heap.size ≤ p ∧ w.heap.size ≤ b ∧ p ≠ b ∧ Node wx p e (.slice (some ⟨b, 0, none⟩) (n + m') (n + m')) (.slice none 0 0) ∧ Blk wx b 2 (ints .i64 (xs ++ ys)) ∧ wx.cell? ⟨x, 2, none⟩ = some (.slice none 0 0) ∧ DropTo w wx d bI bK ep (.slice (some ⟨bI, 0, none⟩) m m) (.slice (some ⟨bK, 0, none⟩) m m) (ints .i64 bs) ps)
      case first =>
       go_region_held3 (fun w' => w'.cell? ⟨x, 1, none⟩ = some (.slice a n c) ∧ w'.cell? ⟨y, 1, none⟩ = some (.slice a' m' c')) (first | exact ⟨qx0, qy0⟩ | exact ⟨qx1, qy1⟩ | exact ⟨qx2, qy2⟩ | exact ⟨qx3, qy3⟩ | exact ⟨qx4, qy4⟩) (first | refine step_append_known rfl (.tmp 52) (.tmp 56) 30 rfl (.slice (some ⟨wc.drew.heap.size, 0, none⟩) 0 (n + m')) (.slice a n c) _ _ (by simp [Act.eval, Act.put]) (by simp [Act.eval, Act.put]) R2.out ?_ | refine step_append_known rfl (.tmp 57) (.tmp 61) 30 rfl (.slice (some ⟨wc.drew.heap.size, 0, none⟩) n (n + m')) (.slice a' m' c') _ _ (by simp [Act.eval, Act.put]) (by simp [Act.eval, Act.put]) R3.out ?_)
       go_wp2_with fail
       go_meet
       have d3 := DH3.out
       exact ⟨w3.heap.size, wc.heap.size, rfl, by have := d3.stay.1; omega, hZ, by have := HS.out; have : wc.drew.heap.size = wc.heap.size := rfl; omega, Blk.new w3 _ 61, HB.out.alloc _, (NX3.out.alloc _).cell 2,
         ⟨Blk.alloc d3.node _, d3.ids.alloc _, d3.kids.alloc _, ⟨by have := d3.stay.1; simp; omega, fun z hz hm => by rw [Below.heap_alloc _ _ _ (by have := d3.stay.1; omega)]; exact d3.stay.2 z hz hm⟩, fun B h1 h2 h3 => (d3.below B h1 h2 h3).alloc (by have := Blk.lt d3.node; omega) _⟩⟩
      case rest =>
       obtain ⟨p, b, rfl, hp, hb0, hpb, np, hbB, qx, D⟩ := hcut
       refine ‹∀ (a : Act) (w : World), Code.wp Try.prog _ _ a w → _› _ _ ?_
       by_cases hL : n + m' ≤ 64
       · exact reb_tail_join d bI bK m j x y p b n m' ep e bs (xs ++ ys) ps w wc HBS HPS hj2 hm HP HPX HPY h1 h2 h3 (Blk.lt D1.out) D2.out D3.out hp hb0 hpb HL hxl hyl np hbB qx D hL _ _ _ _ _ _ _ _ _ _ _ _ _ _ _ _ _ _ _ _ _ _ _ _ _ _ _ _ _ _ _ _ _ _ _ _ _ _ _ _ _ _ _ _ _ _ _ _ _ _ _ _ _ _ _ _ _ _ _ _ _ _ _ _ _ _ _ _ _ _ _ _ _ _ _ _ _ _ _ _ _ _ _ _ _ _ _ _ _ _ _ _ _ _ _ _ _ _ _ _ _ _ _ _ _ _ _ _ _ _ _ _ _ _ _ _ _ _ _ _ _ _ _ _ _ _ _ _ _ _ _ _ _ _ _ _ _ _ _ _ _ _ _
       · exact reb_tail_split d bI bK m j x y p b n m' ep e bs (xs ++ ys) ps w wc HBS HPS hj2 hm HP HPX HPY h1 h2 h3 (Blk.lt D1.out) D2.out D3.out hp hb0 hpb HL hxl hyl np hbB qx D hL _ _ _ _ _ _ _ _ _ _ _ _ _ _ _ _ _ _ _ _ _ _ _ _ _ _ _ _ _ _ _ _ _ _ _ _ _ _ _ _ _ _ _ _ _ _ _ _ _ _ _ _ _ _ _ _ _ _ _ _ _ _ _ _ _ _ _ _ _ _ _ _ _ _ _ _ _ _ _ _ _ _ _ _ _ _ _ _ _ _ _ _ _ _ _ _ _ _ _ _ _ _ _ _ _ _ _ _ _ _ _ _ _ _ _ _ _ _ _ _ _ _ _ _ _ _ _ _ _ _ _ _ _ _ _ _ _ _ _ _ _ _ _

theorem zz_one (d : Nat) (ep e k : Int) (ids : Value) (a : Option Addr) (c : Nat) (w : World) (hd : Node w d ep ids (.slice a 1 c)) :
    Calls Try.prog 30 #[.pointer (some ⟨d, 0, none⟩), .int .u64 e, .int .i64 k] w fun r w' => r = .returned (.tuple #[]) ∧ w' = w := by
  have HR := hide (reb_one d ep e k ids a c w hd)
  clear hd
  go_enter Try.func30, Try.ntmps30
  go_wp2_with fail
  refine HR.out.mono ?_
  rintro r w' ⟨rfl, rfl⟩
  go_wp2
  go_end0
  exact ⟨rfl, rfl⟩

theorem zz_two (d bI bK m k j x y : Nat) (ep e ex ey : Int) (bs xs ys : List Int) (ps : List Value) (hbs : bs.length = m) (hps : ps.length = m) (hk : k < m) (hj : j = if k = m - 1 then m - 2 else k) (hm2 : 2 ≤ m) (hm : m ≤ 65536)
    (hp1 : ∀ v ∈ ps, v.oneCell' = true) (hpx : ps[j]? = some (.pointer (some ⟨x, 0, none⟩))) (hpy : ps[j + 1]? = some (.pointer (some ⟨y, 0, none⟩))) (hxl : xs.length ≤ 1048576) (hyl : ys.length ≤ 1048576)
    (w : World) (hd : Node w d ep (.slice (some ⟨bI, 0, none⟩) m m) (.slice (some ⟨bK, 0, none⟩) m m)) (hI : Blk w bI 2 (ints .i64 bs)) (hK : Blk w bK 40 ps) (h1 : d ≠ bI) (h2 : d ≠ bK) (h3 : bI ≠ bK)
    (hx : Leaf w x ex xs) (hy : Leaf w y ey ys) :
    Calls Try.prog 30 #[.pointer (some ⟨d, 0, none⟩), .int .u64 e, .int .i64 k] w fun r w' => r = .returned (.tuple #[]) ∧ RebEnd w w' d bI bK m j ep e bs ps (xs ++ ys) := by
  have HR := hide (reb_two d bI bK m k j x y ep e ex ey bs xs ys ps hbs hps hk hj hm2 hm hp1 hpx hpy hxl hyl w hd hI hK h1 h2 h3 hx hy)
  clear hp1 hpx hpy hd hI hK hx hy hbs hps hj
  go_enter Try.func30, Try.ntmps30
  go_wp2_with fail
  refine HR.out.mono ?_
  rintro r w' ⟨rfl, hE⟩
  have HE := hide hE
  clear hE
  go_wp2
  go_end0
  exact ⟨rfl, HE.out⟩
end Go.Proofs.Qxb6602784a.grf
