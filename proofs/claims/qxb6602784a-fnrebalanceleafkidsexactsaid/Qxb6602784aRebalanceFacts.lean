import Derived.Test.Qxb6602784aRows
import Derived.JoinedOf
import Derived.KernelRfl
namespace Go.Proofs.Qxb6602784a.fnRebalanceLeafKidsExact

/-! The row's closed facts, one by one: each is reckoned by the kernel by itself. -/
theorem j1 : (Rows.fnRebalanceLeafKidsExactRow.wf (OpenSpec.ofChange Rows.fnRebalanceLeafKidsExactSpec)) = true := by kernel_rfl
theorem j2 : (laidOutB Try.prog) = true := by kernel_rfl
theorem j3 : (mapsRowed Try.prog) = true := by kernel_rfl
theorem j4 : (Try.f8.params.all (Try.prog.readableRec ·)) = true := by kernel_rfl
theorem j5 : (namedTie Try.prog Rows.fnRebalanceLeafKidsExactRow.named Rows.fnRebalanceLeafKidsExactSpec.vars) = true := by kernel_rfl
theorem j6 : ((Rows.fnRebalanceLeafKidsExactRow.stops == [])) = true := by kernel_rfl
theorem j7 : ((Try.prog.stops == [])) = true := by kernel_rfl
theorem j8 : ((Rows.fnRebalanceLeafKidsExactRow.knobs == [])) = true := by kernel_rfl
theorem j9 : ((Try.prog.stopKnobs == [])) = true := by kernel_rfl
theorem j10 : ((Rows.fnRebalanceLeafKidsExactRow.inPlace == Try.prog.inPlace 8)) = true := by kernel_rfl
theorem j11 : ((Rows.fnRebalanceLeafKidsExactRow.unfollowed == Try.prog.unfollowed 8)) = true := by kernel_rfl
theorem j12 : ((Rows.fnRebalanceLeafKidsExactRow.recurses == Try.prog.recurses 8)) = true := by kernel_rfl
theorem j13 : ((Rows.fnRebalanceLeafKidsExactRow.named == Try.prog.varsNamed 8)) = true := by kernel_rfl
theorem j14 : ((Rows.fnRebalanceLeafKidsExactRow.maps == (Try.f8.params.toList ++ Rows.fnRebalanceLeafKidsExactSpec.plain.varTypes Try.prog).any (Try.prog.mapsRec ·))) = true := by kernel_rfl
theorem j15 : ((Rows.fnRebalanceLeafKidsExactRow.ifaces == (Try.f8.params.toList ++ Rows.fnRebalanceLeafKidsExactSpec.plain.varTypes Try.prog).any (Try.prog.ifacesRec ·))) = true := by kernel_rfl
theorem j16 : ((Rows.fnRebalanceLeafKidsExactRow.mapsOut == Try.prog.mapsAmong Try.f8.resultTypes.toList)) = true := by kernel_rfl
theorem j17 : ((Rows.fnRebalanceLeafKidsExactRow.loops == (Try.f8.params.toList ++ Rows.fnRebalanceLeafKidsExactSpec.plain.varTypes Try.prog).any (Try.prog.loopsFrom ·))) = true := by kernel_rfl
theorem j18 : ((Rows.fnRebalanceLeafKidsExactRow.wideKeys == (Try.f8.params.toList ++ Rows.fnRebalanceLeafKidsExactSpec.plain.varTypes Try.prog ++ Try.f8.resultTypes.toList).any (Try.prog.wideKeysFrom ·))) = true := by kernel_rfl
theorem j19 : (Rows.fnRebalanceLeafKidsExactSpec.vars.all (Try.prog.varReadable ·)) = true := by kernel_rfl
theorem j20 : (Try.f8.resultTypes.all (fun t => Try.prog.readableRec t && decide (t < Try.prog.types.size))) = true := by kernel_rfl
theorem j21 : ((Rows.fnRebalanceLeafKidsExactRow.ifacesOut == Try.f8.resultTypes.toList.any (Try.prog.ifacesRec ·))) = true := by kernel_rfl
theorem j22 : ((Rows.fnRebalanceLeafKidsExactRow.loopsOut == Try.f8.resultTypes.toList.any (Try.prog.loopsFrom ·))) = true := by kernel_rfl
theorem j23 : ((Rows.fnRebalanceLeafKidsExactRow.plainKeys == Try.prog.plainKeys)) = true := by kernel_rfl
theorem j24 : (Rows.fnRebalanceLeafKidsExactRow.shortTexts.isNone) = true := by kernel_rfl
theorem j25 : (Try.prog.stopsHeard) = true := by kernel_rfl
theorem j26 : (Try.prog.mayEnter) = true := by kernel_rfl
theorem j27 : ((Rows.fnRebalanceLeafKidsExactRow.lifted == Try.prog.liftsFinal)) = true := by kernel_rfl
theorem j28 : ((Try.prog.make == some Rows.fnRebalanceLeafKidsExactRow.make)) = true := by kernel_rfl
theorem j29 : ((Rows.fnRebalanceLeafKidsExactRow.kinds == (if Rows.fnRebalanceLeafKidsExactRow.domain.isEmpty then [] else Try.f8.params.toList.map fun t => match Try.prog.underlying t with | some (.int k) => some k | _ => none))) = true := by kernel_rfl
theorem j30 : ((Rows.fnRebalanceLeafKidsExactRow.pinned == Rows.fnRebalanceLeafKidsExactRow.pinnedBy)) = true := by kernel_rfl
theorem j31 : ((Rows.fnRebalanceLeafKidsExactRow.veiled == (Try.f8.params.toList ++ Rows.fnRebalanceLeafKidsExactSpec.plain.varTypes Try.prog ++ Try.f8.resultTypes.toList).any (Try.prog.veiledRec ·))) = true := by kernel_rfl
theorem j32 : (Rows.fnRebalanceLeafKidsExactRow.veiledFits Try.prog Try.f8.params.toList (Try.f8.params.toList ++ Rows.fnRebalanceLeafKidsExactSpec.plain.varTypes Try.prog ++ Try.f8.resultTypes.toList)) = true := by kernel_rfl

theorem closed_of (P : Program) (f : FuncId) (fn : Func) (s : ChangeSpec) (c : OpenClaim) (h1 : (c.wf (OpenSpec.ofChange s)) = true) (h2 : (laidOutB P) = true) (h3 : (mapsRowed P) = true) (h4 : (fn.params.all (P.readableRec ·)) = true) (h5 : (namedTie P c.named s.vars) = true) (h6 : ((c.stops == [])) = true) (h7 : ((P.stops == [])) = true) (h8 : ((c.knobs == [])) = true) (h9 : ((P.stopKnobs == [])) = true) (h10 : ((c.inPlace == P.inPlace f)) = true) (h11 : ((c.unfollowed == P.unfollowed f)) = true) (h12 : ((c.recurses == P.recurses f)) = true) (h13 : ((c.named == P.varsNamed f)) = true) (h14 : ((c.maps == (fn.params.toList ++ s.plain.varTypes P).any (P.mapsRec ·))) = true) (h15 : ((c.ifaces == (fn.params.toList ++ s.plain.varTypes P).any (P.ifacesRec ·))) = true) (h16 : ((c.mapsOut == P.mapsAmong fn.resultTypes.toList)) = true) (h17 : ((c.loops == (fn.params.toList ++ s.plain.varTypes P).any (P.loopsFrom ·))) = true) (h18 : ((c.wideKeys == (fn.params.toList ++ s.plain.varTypes P ++ fn.resultTypes.toList).any (P.wideKeysFrom ·))) = true) (h19 : (s.vars.all (P.varReadable ·)) = true) (h20 : (fn.resultTypes.all (fun t => P.readableRec t && decide (t < P.types.size))) = true) (h21 : ((c.ifacesOut == fn.resultTypes.toList.any (P.ifacesRec ·))) = true) (h22 : ((c.loopsOut == fn.resultTypes.toList.any (P.loopsFrom ·))) = true) (h23 : ((c.plainKeys == P.plainKeys)) = true) (h24 : (c.shortTexts.isNone) = true) (h25 : (P.stopsHeard) = true) (h26 : (P.mayEnter) = true) (h27 : ((c.lifted == P.liftsFinal)) = true) (h28 : ((P.make == some c.make)) = true) (h29 : ((c.kinds == (if c.domain.isEmpty then [] else fn.params.toList.map fun t => match P.underlying t with | some (.int k) => some k | _ => none))) = true) (h30 : ((c.pinned == c.pinnedBy)) = true) (h31 : ((c.veiled == (fn.params.toList ++ s.plain.varTypes P ++ fn.resultTypes.toList).any (P.veiledRec ·))) = true) (h32 : (c.veiledFits P fn.params.toList (fn.params.toList ++ s.plain.varTypes P ++ fn.resultTypes.toList)) = true) : joinedFacts P f fn s c = true := by
  unfold joinedFacts
  simp only [Bool.and_eq_true]
  exact ⟨⟨⟨⟨⟨⟨⟨⟨⟨⟨⟨⟨⟨⟨⟨⟨⟨⟨⟨⟨⟨⟨⟨⟨⟨⟨⟨⟨⟨⟨⟨h1, h2⟩, h3⟩, h4⟩, h5⟩, h6⟩, h7⟩, h8⟩, h9⟩, h10⟩, h11⟩, h12⟩, h13⟩, h14⟩, h15⟩, h16⟩, h17⟩, h18⟩, h19⟩, h20⟩, h21⟩, h22⟩, h23⟩, h24⟩, h25⟩, h26⟩, h27⟩, h28⟩, h29⟩, h30⟩, h31⟩, h32⟩

theorem closed : joinedFacts Try.prog 8 Try.f8 Rows.fnRebalanceLeafKidsExactSpec Rows.fnRebalanceLeafKidsExactRow = true :=
  closed_of Try.prog 8 Try.f8 Rows.fnRebalanceLeafKidsExactSpec Rows.fnRebalanceLeafKidsExactRow j1 j2 j3 j4 j5 j6 j7 j8 j9 j10 j11 j12 j13 j14 j15 j16 j17 j18 j19 j20 j21 j22 j23 j24 j25 j26 j27 j28 j29 j30 j31 j32
end Go.Proofs.Qxb6602784a.fnRebalanceLeafKidsExact
