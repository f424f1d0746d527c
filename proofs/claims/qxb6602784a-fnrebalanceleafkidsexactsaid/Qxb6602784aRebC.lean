import Derived.Test.Qxb6602784aRebB
namespace Go.Proofs.Qxb6602784a.grf
open Go.ChangeShapes Go.WideShapes Go.ChangeAt Go.RowKit
set_option linter.unusedSimpArgs false
set_option linter.unusedVariables false
theorem new_leaf (ep : Int) (a : Option Addr) (n c : Nat) (w : World) : Calls Try.prog 27 #[.int .u64 ep, .slice a n c] w fun e w' => e = .returned (.pointer (some ⟨w.heap.size, 0, none⟩)) ∧ w' = w.alloc (.cells #[.int .u64 ep, .slice a n c, .slice none 0 0] 61) := by
  go_enter Try.func27, Try.ntmps27
  go_wp2
  go_ret
  exact ⟨rfl, rfl⟩
theorem new_inner (ep : Int) (a a' : Option Addr) (n c n' c' : Nat) (w : World) : Calls Try.prog 29 #[.int .u64 ep, .slice a n c, .slice a' n' c'] w fun e w' => e = .returned (.pointer (some ⟨w.heap.size, 0, none⟩)) ∧ w' = w.alloc (.cells #[.int .u64 ep, .slice a n c, .slice a' n' c'] 61) := by
  go_enter Try.func29, Try.ntmps29
  go_wp2
  go_ret
  exact ⟨rfl, rfl⟩

/-- A node: its epoch, its ids, its kids. -/
def Node (w : World) (d : Nat) (ep : Int) (ids kids : Value) : Prop := Blk w d 61 [.int .u64 ep, ids, kids]

theorem Node.ep {w : World} {d : Nat} {ep : Int} {ids kids : Value} (h : Node w d ep ids kids) : w.cell? ⟨d, 0, none⟩ = some (.int .u64 ep) := by rw [Blk.cell h]; rfl
theorem Node.ids {w : World} {d : Nat} {ep : Int} {ids kids : Value} (h : Node w d ep ids kids) : w.cell? ⟨d, 1, none⟩ = some ids := by rw [Blk.cell h]; rfl
theorem Node.kids {w : World} {d : Nat} {ep : Int} {ids kids : Value} (h : Node w d ep ids kids) : w.cell? ⟨d, 2, none⟩ = some kids := by rw [Blk.cell h]; rfl

theorem get_epoch (d : Nat) (ep : Int) (ids kids : Value) (w : World) (h : Node w d ep ids kids) : Calls Try.prog 32 #[.pointer (some ⟨d, 0, none⟩)] w fun e w' => e = .returned (.int .u64 ep) ∧ w = w' := by
  have q1 := h.ep
  clear h
  go_enter Try.func32, Try.ntmps32
  go_wp2
  go_ret
  exact ⟨rfl, rfl⟩
theorem get_kids (d : Nat) (ep : Int) (ids : Value) (a : Option Addr) (n c : Nat) (w : World) (h : Node w d ep ids (.slice a n c)) : Calls Try.prog 33 #[.pointer (some ⟨d, 0, none⟩)] w fun e w' => e = .returned (.slice a n c) ∧ w = w' := by
  have q1 := h.kids
  clear h
  go_enter Try.func33, Try.ntmps33
  go_wp2
  go_ret
  exact ⟨rfl, rfl⟩
theorem get_ids (d : Nat) (ep : Int) (kids : Value) (a : Option Addr) (n c : Nat) (w : World) (h : Node w d ep (.slice a n c) kids) : Calls Try.prog 34 #[.pointer (some ⟨d, 0, none⟩)] w fun e w' => e = .returned (.slice a n c) ∧ w = w' := by
  have q1 := h.ids
  clear h
  go_enter Try.func34, Try.ntmps34
  go_wp2
  go_ret
  exact ⟨rfl, rfl⟩

/-! ### sameInts -/
theorem same_zero (a a' : Option Addr) (c c' : Nat) (w : World) : Calls Try.prog 43 #[.slice a 0 c, .slice a' 0 c'] w fun e w' => e = .returned (.bool true) ∧ ∃ n, w' = w.drewN n := by
  go_enter Try.func43, Try.ntmps43
  go_wp2
  refine wp_loop_rounds 1 ?_
  rw [rounds_succ]
  go_wp2
  go_ret
  exact ⟨rfl, 0, rfl⟩

theorem same_some (g o g' o' n c c' : Nat) (xs : List Int) (hx : xs.length = n) (hn : n ≤ 9223372036854775807) (w : World) (h : ∀ i, i < n → w.cell? ⟨g, o + i, none⟩ = some (.int .i64 (xs.getD i 0))) (h' : ∀ i, i < n → w.cell? ⟨g', o' + i, none⟩ = some (.int .i64 (xs.getD i 0))) :
    Calls Try.prog 43 #[.slice (some ⟨g, o, none⟩) n c, .slice (some ⟨g', o', none⟩) n c'] w fun e w' => e = .returned (.bool true) ∧ ∃ n, w' = w.drewN n := by
  have hq : ((n : Int) != (n : Int)) = false := by simp
  have H1 := hide h
  have H2 := hide h'
  clear h h' hx
  go_enter Try.func43, Try.ntmps43
  go_wp2
  go_loopw [5] (fun i wr => ∃ k : Nat, k ≤ n ∧ i = .int .i64 k ∧ ∃ m, wr = w.drewN m) (fun i _ => n - (intOf i).toNat)
  case atStart => exact ⟨0, Nat.zero_le _, rfl, 0, rfl⟩
  case round =>
    obtain ⟨k, hk, rfl, m, rfl⟩ := hrel
    by_cases hlt : k < n
    · obtain ⟨s, hs⟩ : ∃ s, s = xs.getD k 0 := ⟨_, rfl⟩
      have c1 : w.cell? ⟨g, o + k, none⟩ = some (.int .i64 s) := by rw [H1.out k hlt, hs]
      have c2 : w.cell? ⟨g', o' + k, none⟩ = some (.int .i64 s) := by rw [H2.out k hlt, hs]
      have hi : (k : Int) < (n : Int) := by omega
      clear hs
      go_wp2
      go_quiet (fail)
      go_wp2
      go_roundw
      case rel => exact ⟨k + 1, by omega, by go_num, m + nq, rfl⟩
      case measure => simp [intOf]; omega
    · go_wp2
      go_ret
      exact ⟨rfl, m, rfl⟩

theorem Row.spot {w : World} {x : Addr} {xs : List Int} (hp : 0 < xs.length) (h : ∀ i y, (ints .i64 xs)[i]? = some y → w.cell? (x.add i) = some y) : ∃ b o, x = ⟨b, o, none⟩ ∧ ∀ i, i < xs.length → w.cell? ⟨b, o + i, none⟩ = some (.int .i64 (xs.getD i 0)) := by
  obtain ⟨b, o, spot⟩ := x
  have hsp : spot = none := by simpa [Addr.add] using World.cell?_spot (h 0 _ (ints_at .i64 xs 0 hp))
  subst hsp
  refine ⟨b, o, rfl, fun i hi => ?_⟩
  have := h i _ (ints_at .i64 xs i hi)
  rw [add_plain] at this
  exact this

theorem same_ints (v v' : Value) (xs : List Int) (w : World) (h : Row w v (ints .i64 xs)) (h' : Row w v' (ints .i64 xs)) : Calls Try.prog 43 #[v, v'] w fun e w' => e = .returned (.bool true) ∧ ∃ n, w' = w.drewN n := by
  obtain ⟨a, c, hv, hm⟩ := h.slice
  obtain ⟨a', c', hv', _⟩ := h'.slice
  rw [ints_len] at hv hv' hm
  by_cases h0 : xs.length = 0
  · rw [hv, hv', h0]
    exact same_zero a a' c c' w
  · have hne : ints .i64 xs ≠ [] := by intro e; apply h0; rw [← ints_len .i64, e]; rfl
    rcases h with ⟨_, e⟩ | ⟨x, cap, h1, h2, h3, h4⟩
    · exact absurd e hne
    rcases h' with ⟨_, e⟩ | ⟨x', cap', h1', h2', h3', h4'⟩
    · exact absurd e hne
    obtain ⟨b, o, rfl, hc⟩ := Row.spot (by omega) h4
    obtain ⟨b', o', rfl, hc'⟩ := Row.spot (by omega) h4'
    rw [h1, h1', ints_len]
    exact same_some b o b' o' xs.length cap cap' xs rfl (by unfold maxLen at hm; exact hm) w hc hc'

/-! ### leafHolds, freshNode -/
/-- A leaf: a node with no kids; its ids read as this list. -/
def Leaf (w : World) (d : Nat) (ep : Int) (xs : List Int) : Prop := ∃ v, Node w d ep v (.slice none 0 0) ∧ Row w v (ints .i64 xs)

theorem leaf_holds (d : Nat) (ep : Int) (v : Value) (xs : List Int) (w : World) (h : Leaf w d ep xs) (hv : Row w v (ints .i64 xs)) : Calls Try.prog 31 #[.pointer (some ⟨d, 0, none⟩), .int .u64 ep, v] w fun e w' => e = .returned (.bool true) ∧ ∃ n, w' = w.drewN n := by
  obtain ⟨u, hn, hu⟩ := h
  have HN := hide hn
  have HU := hide hu
  have HV := hide hv
  obtain ⟨a, c, rfl, _⟩ := hu.slice
  obtain ⟨a', c', rfl, _⟩ := hv.slice
  have hnil := nil39 none 0 0
  clear hn hu hv
  go_enter Try.func31, Try.ntmps31
  go_wp2_with fail
  refine (get_epoch d ep _ _ w HN.out).mono ?_
  rintro e w' ⟨rfl, rfl⟩
  go_wp2_with fail
  refine (get_kids d ep _ none 0 0 w HN.out).mono ?_
  rintro e w' ⟨rfl, rfl⟩
  go_wp2_with fail
  refine (get_ids d ep _ a _ c w HN.out).mono ?_
  rintro e w' ⟨rfl, rfl⟩
  go_wp2_with fail
  refine (same_ints _ _ xs w HU.out HV.out).mono ?_
  rintro e w' ⟨rfl, n, rfl⟩
  go_wp2
  go_ret
  exact ⟨rfl, n, rfl⟩

end Go.Proofs.Qxb6602784a.grf
