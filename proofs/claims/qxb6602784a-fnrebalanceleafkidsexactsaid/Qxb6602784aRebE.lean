import Derived.Test.Qxb6602784aRebD
import Derived.ArgAppend
namespace Go.Proofs.Qxb6602784a.grf
open Go.ChangeShapes Go.WideShapes Go.ChangeAt Go.RowKit
set_option linter.unusedSimpArgs false
set_option linter.unusedVariables false

theorem make_cap (n : Nat) (hn : n ≤ 4194304) : ∀ w : World, Sem.run Try.prog (Instr.makeSlice 30 (.int .i64 0) (.int .i64 (n : Int))) w = .ok (.slice (some ⟨w.heap.size, 0, none⟩) 0 n) (w.alloc (.cells (madeCells #[.int .i64 0] n) 2)) := by
  intro w
  obtain ⟨i, hi, hzz⟩ := Option.map_eq_some_iff.1 info2
  simp only [Prod.mk.injEq] at hzz
  obtain ⟨hz, hs, hb⟩ := hzz
  have hr := run_make (P := Try.prog) w 30 2 i (.int .i64 0) Try.underlying30 hi hz .i64 .i64 0 n (by omega) (by omega) (by rw [hb]; omega) (by omega)
  simp only [Int.toNat_natCast, hs, Nat.mul_one, Int.toNat_zero] at hr
  exact hr

theorem Blk.setCells {b : Nat} {t : TypeId} : ∀ (vs : List Value) (o : Nat) (w : World) (xs : List Value), Blk w b t xs → o + vs.length ≤ xs.length → Blk (w.setCells b o vs) b t (xs.take o ++ vs ++ xs.drop (o + vs.length))
  | [], o, w, xs, h, _ => by
    rw [World.setCells]
    simpa using h
  | v :: r, o, w, xs, h, hl => by
    rw [World.setCells]
    have := Blk.setCells r (o + 1) _ _ (h.set o v) (by simp at hl ⊢; omega)
    have e : (xs.set o v).take (o + 1) ++ r ++ (xs.set o v).drop (o + 1 + r.length) = xs.take o ++ (v :: r) ++ xs.drop (o + (v :: r).length) := by
      simp at hl
      rw [List.take_succ_eq_append_getElem (by simp; omega), List.getElem_set_self, List.take_set_of_le (by omega), List.drop_set_of_lt (by omega)]
      simp [Nat.add_assoc, Nat.add_comm 1]
    rw [e] at this
    exact this

theorem Blk.setCells_ne {b b' : Nat} {t : TypeId} {xs : List Value} (hne : b' ≠ b) : ∀ (vs : List Value) (o : Nat) (w : World), Blk w b' t xs → Blk (w.setCells b o vs) b' t xs
  | [], _, _, h => h
  | v :: r, o, w, h => Blk.setCells_ne hne r (o + 1) _ (h.set_ne _ hne v)

theorem below_setCells {B : Nat} {w : World} {b : Nat} (hb : B ≤ b) : ∀ (vs : List Value) (o : Nat) (w' : World), Below B w w' → Below B w (w'.setCells b o vs)
  | [], _, _, h => h
  | v :: r, o, w', h => below_setCells hb r (o + 1) _ (h.setCell hb v)

theorem size_setCells (b : Nat) : ∀ (vs : List Value) (o : Nat) (w : World), (w.setCells b o vs).heap.size = w.heap.size
  | [], _, _ => rfl
  | v :: r, o, w => by rw [World.setCells, size_setCells b r]; simp

/-- 'append' into the room of a row. -/
theorem append_room (S T : TypeId) (hS : Try.prog.underlying S = some (.slice T)) (hT : (Try.prog.info? T).map (·.size) = some 1) {w : World} {b : Nat} {t : TypeId} {xs : List Value} (off n cap : Nat) {v : Value} {news : List Value} (h : Blk w b t xs) (hv : Row w v news) (h1 : ∀ u ∈ news, u.oneCell' = true) (hr : n + news.length ≤ cap) (hx : off + n + news.length ≤ xs.length) :
    (Builtin.append_ #[S, S] S #[.slice (some ⟨b, off, none⟩) n cap, v]).run Try.prog w = .ok (.slice (some ⟨b, off, none⟩) (n + news.length) cap) (w.setCells b (off + n) news) := by
  cases hq : Try.prog.info? T with
  | none => simp [hq] at hT
  | some i =>
    have hi : i.size = 1 := by simpa [hq] using hT
    rcases hv with ⟨rfl, rfl⟩ | ⟨x, c, rfl, hc1, hc2, hc⟩
    · have hfc := run_firstCells_none (P := Try.prog) w i.size 0 0 0
      simp [Builtin.append_, run_underlying hS, sizeOf, typeInfo, hq, Builtin.lenOf, hfc, show n ≤ cap by simpa using hr, World.setCells, storeCells]
    · have := run_append_room_cells (P := Try.prog) w S S T i hS hq b off n cap x news.length c news (by rw [hi]; omega) hc h1 hr ?_ ?_
      · rw [this, hi, Nat.mul_one]
      · intro j hj
        rw [h.cell, hi, List.getElem?_eq_getElem (by omega)]
        rfl
      · intro j hj
        exact h.frozen _

theorem ints_app (k : IntKind) (xs ys : List Int) : ints k xs ++ ints k ys = ints k (xs ++ ys) := by simp [ints]

theorem Row.alloc {w : World} {v : Value} {xs : List Value} (h : Row w v xs) (o : Obj) : Row (w.alloc o) v xs := h.below ((Below.refl _ _).alloc (Nat.le_refl _) _)
theorem Row.setCells {w : World} {v : Value} {xs : List Value} (h : Row w v xs) (B b : Nat) (hB : ∀ x n c, v = .slice (some x) n c → xs ≠ [] → x.block < b) (o : Nat) (vs : List Value) : Row (w.setCells b o vs) v xs := by
  rcases h with h | ⟨x, cap, h1, h2, h3, h4⟩
  · exact .inl h
  · refine .inr ⟨x, cap, h1, h2, h3, fun i y hi => ?_⟩
    have hne : xs ≠ [] := by intro e; rw [e] at hi; simp at hi
    rw [World.cell?_setCells_out]
    · exact h4 i y hi
    · intro e _
      rw [add_block] at e
      have := hB _ _ _ h1 hne
      omega
theorem Row.lt' {w : World} {v : Value} {xs : List Value} (h : Row w v xs) : ∀ x n c, v = .slice (some x) n c → xs ≠ [] → x.block < w.heap.size := by
  intro x n c e hne
  rcases h with ⟨h, _⟩ | ⟨x', cap, h1, h2, h3, h4⟩
  · rw [h] at e; simp at e
  · rw [h1] at e
    simp at e
    obtain ⟨rfl, _⟩ := e
    cases xs with
    | nil => exact absurd rfl hne
    | cons y ys => exact Row.lt h4 0 y rfl

/-- The joined row, made in three steps. -/
theorem joined_row {w : World} {v v' : Value} {xs ys : List Int} (hv : Row w v (ints .i64 xs)) (hv' : Row w v' (ints .i64 ys)) (hx : xs.length ≤ 1048576) (hy : ys.length ≤ 1048576) :
    ∃ w1 w2 w3, Sem.run Try.prog (Instr.makeSlice 30 (.int .i64 0) (.int .i64 ((xs.length : Int) + (ys.length : Int)))) w = .ok (.slice (some ⟨w.heap.size, 0, none⟩) 0 (xs.length + ys.length)) w1
      ∧ Sem.run Try.prog (Builtin.append_ #[30, 30] 30 #[.slice (some ⟨w.heap.size, 0, none⟩) 0 (xs.length + ys.length), v]) w1 = .ok (.slice (some ⟨w.heap.size, 0, none⟩) xs.length (xs.length + ys.length)) w2
      ∧ Sem.run Try.prog (Builtin.append_ #[30, 30] 30 #[.slice (some ⟨w.heap.size, 0, none⟩) xs.length (xs.length + ys.length), v']) w2 = .ok (.slice (some ⟨w.heap.size, 0, none⟩) (xs.length + ys.length) (xs.length + ys.length)) w3
      ∧ Below w.heap.size w w1 ∧ Below w.heap.size w w2 ∧ Below w.heap.size w w3 ∧ Blk w3 w.heap.size 2 (ints .i64 (xs ++ ys)) ∧ w3.heap.size = w.heap.size + 1 := by
  have hg : Blk (w.alloc (.cells (madeCells #[.int .i64 0] (xs.length + ys.length)) 2)) w.heap.size 2 (List.replicate (xs.length + ys.length) (.int .i64 0)) := by
    have := Blk.new w (madeCells #[.int .i64 0] (xs.length + ys.length)) 2
    rw [made_vals] at this
    exact this
  have hb1 : Below w.heap.size w (w.alloc (.cells (madeCells #[.int .i64 0] (xs.length + ys.length)) 2)) := (Below.refl _ _).alloc (Nat.le_refl _) _
  have a1 := append_room 30 2 Try.underlying30 (by kernel_rfl) 0 0 (xs.length + ys.length) hg (hv.alloc _) (ints_one _ _) (by rw [ints_len]; omega) (by rw [ints_len]; simp)
  have hg2 := Blk.setCells (ints .i64 xs) (0 + 0) _ _ hg (by rw [ints_len]; simp)
  have hv2 := (hv'.alloc (.cells (madeCells #[.int .i64 0] (xs.length + ys.length)) 2)).setCells 0 w.heap.size hv'.lt' (0 + 0) (ints .i64 xs)
  have a2 := append_room 30 2 Try.underlying30 (by kernel_rfl) 0 xs.length (xs.length + ys.length) hg2 hv2 (ints_one _ _) (by rw [ints_len]; omega) (by simp [ints_len])
  have hg3 := Blk.setCells (ints .i64 ys) (0 + xs.length) _ _ hg2 (by simp [ints_len])
  have hb2 := below_setCells (Nat.le_refl w.heap.size) (ints .i64 xs) (0 + 0) _ hb1
  have hb3 := below_setCells (Nat.le_refl w.heap.size) (ints .i64 ys) (0 + xs.length) _ hb2
  refine ⟨_, _, _, ?_, ?_, ?_, hb1, hb2, hb3, ?_, ?_⟩
  · have := make_cap (xs.length + ys.length) (by omega) w
    rw [Int.natCast_add] at this
    exact this
  · rw [ints_len, Nat.zero_add] at a1
    exact a1
  · rw [ints_len] at a2
    exact a2
  · have e : (List.take (0 + xs.length) (List.take (0 + 0) (List.replicate (xs.length + ys.length) (Value.int .i64 0)) ++ ints .i64 xs ++ List.drop (0 + 0 + (ints .i64 xs).length) (List.replicate (xs.length + ys.length) (Value.int .i64 0))) ++ ints .i64 ys ++ List.drop (0 + xs.length + (ints .i64 ys).length) (List.take (0 + 0) (List.replicate (xs.length + ys.length) (Value.int .i64 0)) ++ ints .i64 xs ++ List.drop (0 + 0 + (ints .i64 xs).length) (List.replicate (xs.length + ys.length) (Value.int .i64 0)))) = ints .i64 (xs ++ ys) := by
      rw [← ints_app]
      simp [ints_len, List.take_append, List.drop_append]
    rw [e] at hg3
    exact hg3
  · rw [size_setCells, size_setCells]; simp

/-- An 'append' whose outcome is known, for the walk. -/
theorem wpList_append_known {P : Program} (w w' : World) {ops : Array Oper} {rest : List Oper} {o : Oper} {a : Act} {Q : Exit → Act → World → Prop} (hgd : o.guard = none) (s x : Operand) (t : TypeId)
    (ho : o.op = .call { callee := .builtin .append, args := #[s, x], argTypes := #[t, t] }) (v u r : Value) (hs : a.eval s = v) (hx : a.eval x = u) (hr : Sem.run P (Builtin.append_ #[t, t] o.type #[v, u]) w = .ok r w') (h : wpList P ops Q rest (a.put o.dst r) w') :
    wpList P ops Q (o :: rest) a w := by
  refine wpList_plain hgd fun K hK => ?_
  unfold Oper.wp execOp
  simp only [ho, resolve, invoke, builtin, Sem.run_bind, Sem.run_pure, Result.andThen_ok, List.map_toArray, List.map_cons, List.map_nil, hs, hx]
  rw [hr]
  exact hK _ _ h

/-! ### concatInts -/
set_option maxHeartbeats 2000000 in
theorem concat_ints (v v' : Value) (xs ys : List Int) (hx : xs.length ≤ 1048576) (hy : ys.length ≤ 1048576) (w : World) (hv : Row w v (ints .i64 xs)) (hv' : Row w v' (ints .i64 ys)) :
    Calls Try.prog 35 #[v, v'] w fun e w' => e = .returned (.slice (some ⟨w.heap.size, 0, none⟩) (xs.length + ys.length) (xs.length + ys.length)) ∧ Blk w' w.heap.size 2 (ints .i64 (xs ++ ys)) ∧ Below w.heap.size w w' := by
  obtain ⟨w1, w2, w3, r1, r2, r3, b1, b2, b3, hb, _⟩ := joined_row hv hv' hx hy
  obtain ⟨a, c, rfl, _⟩ := hv.slice
  obtain ⟨a', c', rfl, _⟩ := hv'.slice
  rw [ints_len] at r2 r3
  have HB := hide hb
  have HB3 := hide b3
  clear hv hv' hb b1 b2 b3
  obtain ⟨n, hn⟩ : ∃ n, n = xs.length := ⟨_, rfl⟩
  obtain ⟨m, hm⟩ : ∃ n, n = ys.length := ⟨_, rfl⟩
  rw [← hn] at hx r1 r2 r3
  rw [← hm] at hy r1 r2 r3
  rw [ints_len, ints_len, ← hn, ← hm]
  clear hn hm
  have R2 := hide r2
  have R3 := hide r3
  clear r2 r3
  go_enter Try.func35, Try.ntmps35
  go_wp2_with (at_builtin; first | refine wpList_append_known _ _ rfl _ _ 30 rfl _ _ _ rfl rfl R2.out ?_ | refine wpList_append_known _ _ rfl _ _ 30 rfl _ _ _ rfl rfl R3.out ?_)
  go_ret
  exact ⟨rfl, HB.out, HB3.out⟩
end Go.Proofs.Qxb6602784a.grf
