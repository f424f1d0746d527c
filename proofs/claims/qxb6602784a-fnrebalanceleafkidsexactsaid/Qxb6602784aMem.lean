import Derived.WalkKit
import Derived.WalkLawsBesides
import Derived.Deep.OwnRows
namespace Go.Proofs.Qxb6602784a.grf
open Go.RowKit
set_option linter.unusedSimpArgs false
set_option linter.unusedVariables false

theorem hide {p : Prop} (h : p) : Hid p := h

/-- Block b holds just these cells, of element type t; none of them is frozen. -/
def Blk (w : World) (b : Nat) (t : TypeId) (xs : List Value) : Prop := w.heap[b]? = some (.cells xs.toArray t (0, 0))

theorem Blk.lt {w : World} {b : Nat} {t : TypeId} {xs : List Value} (h : Blk w b t xs) : b < w.heap.size := by
  unfold Blk at h
  apply Decidable.byContradiction
  intro hn
  rw [Array.getElem?_eq_none (by omega)] at h
  cases h

theorem Blk.cell {w : World} {b : Nat} {t : TypeId} {xs : List Value} (h : Blk w b t xs) (i : Nat) : w.cell? ⟨b, i, none⟩ = xs[i]? := by
  unfold Blk at h
  simp [World.cell?, h]

theorem Blk.frozen {w : World} {b : Nat} {t : TypeId} {xs : List Value} (h : Blk w b t xs) (i : Nat) : w.frozen? ⟨b, i, none⟩ = false := by
  unfold Blk at h
  simp [World.frozen?, h]

theorem Blk.set {w : World} {b : Nat} {t : TypeId} {xs : List Value} (h : Blk w b t xs) (i : Nat) (v : Value) : Blk (w.setCell ⟨b, i, none⟩ v) b t (xs.set i v) := by
  unfold Blk at *
  simp [World.setCell, Array.getElem?_modify, h]

theorem Blk.set_ne {w : World} {b : Nat} {t : TypeId} {xs : List Value} (h : Blk w b t xs) (a : Addr) (hne : b ≠ a.block) (v : Value) : Blk (w.setCell a v) b t xs := by
  unfold Blk at *
  rw [Below.heap_setCell _ _ _ _ hne]
  exact h

theorem Blk.alloc {w : World} {b : Nat} {t : TypeId} {xs : List Value} (h : Blk w b t xs) (o : Obj) : Blk (w.alloc o) b t xs := by
  have hl := h.lt
  unfold Blk at *
  rw [Below.heap_alloc _ _ _ hl]
  exact h

theorem Blk.new (w : World) (c : Array Value) (t : TypeId) : Blk (w.alloc (.cells c t)) w.heap.size t c.toList := by
  unfold Blk
  rw [heap_alloc_new]

theorem Blk.drew {w : World} {b : Nat} {t : TypeId} {xs : List Value} (h : Blk w b t xs) : Blk w.drew b t xs := h
theorem Blk.drewN {w : World} {b : Nat} {t : TypeId} {xs : List Value} (h : Blk w b t xs) (n : Nat) : Blk (w.drewN n) b t xs := h

theorem Blk.below {B : Nat} {w w' : World} {b : Nat} {t : TypeId} {xs : List Value} (h : Blk w b t xs) (hb : Below B w w') (hlt : b < B) : Blk w' b t xs := by
  unfold Blk at *
  rw [hb.block b hlt]
  exact h

/-- A list of integers as cells. -/
def ints (k : IntKind) (xs : List Int) : List Value := xs.map (Value.int k)

theorem ints_len (k : IntKind) (xs : List Int) : (ints k xs).length = xs.length := by simp [ints]
theorem ints_at (k : IntKind) (xs : List Int) (i : Nat) (h : i < xs.length) : (ints k xs)[i]? = some (.int k (xs.getD i 0)) := by
  simp [ints, h]
theorem ints_set (k : IntKind) (xs : List Int) (i : Nat) (v : Int) : (ints k xs).set i (.int k v) = ints k (xs.set i v) := by
  simp [ints, List.map_set]

theorem Blk.int {w : World} {b : Nat} {t : TypeId} {k : IntKind} {xs : List Int} (h : Blk w b t (ints k xs)) (i : Nat) (hi : i < xs.length) : w.cell? ⟨b, i, none⟩ = some (.int k (xs.getD i 0)) := by
  rw [h.cell, ints_at k xs i hi]

theorem Blk.setInt {w : World} {b : Nat} {t : TypeId} {k : IntKind} {xs : List Int} (h : Blk w b t (ints k xs)) (i : Nat) (v : Int) : Blk (w.setCell ⟨b, i, none⟩ (.int k v)) b t (ints k (xs.set i v)) := by
  have := h.set i (.int k v)
  rw [ints_set] at this
  exact this

theorem made_ints (k : IntKind) (n : Nat) : (madeCells #[.int k 0] n).toList = ints k (List.replicate n 0) := by
  apply List.ext_getElem?
  intro i
  by_cases h : i < n
  · simp [madeCells, ints, h, Nat.mod_one]
  · simp [madeCells, ints, h]

theorem getD_lt {xs : List Int} {i : Nat} (h : i < xs.length) : xs[i]?.getD 0 = xs.getD i 0 := by simp

/-- Writing the i-th of a list that is written so far as another. -/
theorem fill_step (zs : List Int) (k : Nat) (h : k < zs.length) : (zs.take k ++ List.replicate (zs.length - k) 0).set k (zs.getD k 0) = zs.take (k + 1) ++ List.replicate (zs.length - (k + 1)) 0 := by
  apply List.ext_getElem?
  intro i
  by_cases h1 : i < k
  · rw [List.getElem?_set_ne (by omega), List.getElem?_append_left (by simp; omega), List.getElem?_append_left (by simp; omega)]
    simp [List.getElem?_take, h1]; omega
  · by_cases h2 : i = k
    · subst h2
      rw [List.getElem?_set_self (by simp; omega), List.getElem?_append_left (by simp; omega)]
      simp [List.getElem?_take, h]
    · rw [List.getElem?_set_ne (by omega), List.getElem?_append_right (by simp; omega), List.getElem?_append_right (by simp; omega)]
      rw [List.getElem?_replicate, List.getElem?_replicate, List.length_take, List.length_take]
      by_cases c : i < zs.length
      · rw [if_pos (by omega), if_pos (by omega)]
      · rw [if_neg (by omega), if_neg (by omega)]

/-- A list of strings as cells. -/
def strs (xs : List ByteArray) : List Value := xs.map Value.string
theorem strs_len (xs : List ByteArray) : (strs xs).length = xs.length := by simp [strs]
theorem strs_at (xs : List ByteArray) (i : Nat) (h : i < xs.length) : (strs xs)[i]? = some (.string (xs.getD i ByteArray.empty)) := by
  simp [strs, h]
theorem Blk.str {w : World} {b : Nat} {t : TypeId} {xs : List ByteArray} (h : Blk w b t (strs xs)) (i : Nat) (hi : i < xs.length) : w.cell? ⟨b, i, none⟩ = some (.string (xs.getD i ByteArray.empty)) := by
  rw [h.cell, strs_at xs i hi]

/-- A list of places as cells. -/
def nats (xs : List Nat) : List Value := xs.map (fun x : Nat => Value.int .i64 (x : Int))
theorem nats_len (xs : List Nat) : (nats xs).length = xs.length := by simp [nats]
theorem Blk.nat {w : World} {b : Nat} {t : TypeId} {xs : List Nat} (h : Blk w b t (nats xs)) (i : Nat) (hi : i < xs.length) : w.cell? ⟨b, i, none⟩ = some (.int .i64 ((xs.getD i 0 : Nat) : Int)) := by
  rw [h.cell]; simp [nats, hi]
theorem Blk.setNat {w : World} {b : Nat} {t : TypeId} {xs : List Nat} (h : Blk w b t (nats xs)) (i v : Nat) : Blk (w.setCell ⟨b, i, none⟩ (.int .i64 (v : Int))) b t (nats (xs.set i v)) := by
  have := h.set i (.int .i64 (v : Int))
  rw [show (nats xs).set i (.int .i64 (v : Int)) = nats (xs.set i v) from by simp [nats, List.map_set]] at this
  exact this
theorem made_nats (n : Nat) : (madeCells #[.int .i64 0] n).toList = nats (List.replicate n 0) := by
  apply List.ext_getElem?
  intro i
  by_cases h : i < n
  · simp [madeCells, nats, h, Nat.mod_one]
  · simp [madeCells, nats, h]
theorem range_step (n k : Nat) (h : k < n) : (List.range k ++ List.replicate (n - k) 0).set k k = List.range (k + 1) ++ List.replicate (n - (k + 1)) 0 := by
  apply List.ext_getElem?
  intro i
  by_cases h1 : i < k
  · rw [List.getElem?_set_ne (by omega), List.getElem?_append_left (by simp; omega), List.getElem?_append_left (by simp; omega)]
    simp [List.getElem?_range, h1, show i < k + 1 by omega]
  · by_cases h2 : i = k
    · subst h2
      rw [List.getElem?_set_self (by simp; omega), List.getElem?_append_left (by simp)]
      simp
    · rw [List.getElem?_set_ne (by omega), List.getElem?_append_right (by simp; omega), List.getElem?_append_right (by simp; omega)]
      rw [List.getElem?_replicate, List.getElem?_replicate, List.length_range, List.length_range]
      by_cases c : i < n
      · rw [if_pos (by omega), if_pos (by omega)]
      · rw [if_neg (by omega), if_neg (by omega)]
end Go.Proofs.Qxb6602784a.grf
