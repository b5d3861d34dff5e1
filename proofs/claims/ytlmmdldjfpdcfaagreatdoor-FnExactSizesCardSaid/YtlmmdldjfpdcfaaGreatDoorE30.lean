/- The closed facts on the statement's row, a theorem each: in one declaration they would want too much memory. -/
import Derived.Test.YtlmmdldjfpdcfaaGreatDoorRows
import Derived.JoinedCond
namespace Go.Proofs.YtlmmdldjfpdcfaaGreatDoor
open Go

/-- The specification without its results. -/
abbrev bareSpec : ChangeSpec := (OpenSpec.ofChange Rows.fnExactSizesSpec).bare

theorem and_both {a b : Bool} (ha : a = true) (hb : b = true) : (a && b) = true := by rw [ha, hb]; rfl

set_option maxRecDepth 100000 in
theorem fact0 : (Rows.fnExactSizesRow.wf (OpenSpec.ofChange bareSpec)) = true := by kernel_rfl
set_option maxRecDepth 100000 in
theorem fact1 : (laidOutB Tryz.prog) = true := by kernel_rfl
set_option maxRecDepth 100000 in
theorem fact2 : (mapsRowed Tryz.prog) = true := by kernel_rfl
set_option maxRecDepth 100000 in
theorem fact3 : (Tryz.f3.params.all (Tryz.prog.readableRec ·)) = true := by kernel_rfl
set_option maxRecDepth 100000 in
theorem fact4 : (namedTie Tryz.prog Rows.fnExactSizesRow.named bareSpec.vars) = true := by kernel_rfl
set_option maxRecDepth 100000 in
theorem fact5 : ((Rows.fnExactSizesRow.stops == [])) = true := by kernel_rfl
set_option maxRecDepth 100000 in
theorem fact6 : ((Tryz.prog.stops == [])) = true := by kernel_rfl
set_option maxRecDepth 100000 in
theorem fact7 : ((Rows.fnExactSizesRow.knobs == [])) = true := by kernel_rfl
set_option maxRecDepth 100000 in
theorem fact8 : ((Tryz.prog.stopKnobs == [])) = true := by kernel_rfl
set_option maxRecDepth 100000 in
theorem fact9 : ((Rows.fnExactSizesRow.inPlace == Tryz.prog.inPlace 3)) = true := by kernel_rfl
set_option maxRecDepth 100000 in
theorem fact10 : ((Rows.fnExactSizesRow.unfollowed == Tryz.prog.unfollowed 3)) = true := by kernel_rfl
set_option maxRecDepth 100000 in
theorem fact11 : ((Rows.fnExactSizesRow.recurses == Tryz.prog.recurses 3)) = true := by kernel_rfl
set_option maxRecDepth 100000 in
theorem fact12 : ((Rows.fnExactSizesRow.named == Tryz.prog.varsNamed 3)) = true := by kernel_rfl
set_option maxRecDepth 100000 in
theorem fact13 : ((Rows.fnExactSizesRow.maps == (Tryz.f3.params.toList ++ bareSpec.plain.varTypes Tryz.prog).any (Tryz.prog.mapsRec ·))) = true := by kernel_rfl
set_option maxRecDepth 100000 in
theorem fact14 : ((Rows.fnExactSizesRow.ifaces == (Tryz.f3.params.toList ++ bareSpec.plain.varTypes Tryz.prog).any (Tryz.prog.ifacesRec ·))) = true := by kernel_rfl
set_option maxRecDepth 100000 in
theorem fact15 : ((Rows.fnExactSizesRow.mapsOut == Tryz.prog.mapsAmong Tryz.f3.resultTypes.toList)) = true := by kernel_rfl
set_option maxRecDepth 100000 in
theorem fact16 : ((Rows.fnExactSizesRow.loops == (Tryz.f3.params.toList ++ bareSpec.plain.varTypes Tryz.prog).any (Tryz.prog.loopsFrom ·))) = true := by kernel_rfl
set_option maxRecDepth 100000 in
theorem fact17 : ((Rows.fnExactSizesRow.wideKeys == (Tryz.f3.params.toList ++ bareSpec.plain.varTypes Tryz.prog ++ Tryz.f3.resultTypes.toList).any (Tryz.prog.wideKeysFrom ·))) = true := by kernel_rfl
set_option maxRecDepth 100000 in
theorem fact18 : (bareSpec.vars.all (Tryz.prog.varReadable ·)) = true := by kernel_rfl
set_option maxRecDepth 100000 in
theorem fact19 : (Tryz.f3.resultTypes.all (fun t => Tryz.prog.readableRec t && decide (t < Tryz.prog.types.size))) = true := by kernel_rfl
set_option maxRecDepth 100000 in
theorem fact20 : ((Rows.fnExactSizesRow.ifacesOut == Tryz.f3.resultTypes.toList.any (Tryz.prog.ifacesRec ·))) = true := by kernel_rfl
set_option maxRecDepth 100000 in
theorem fact21 : ((Rows.fnExactSizesRow.loopsOut == Tryz.f3.resultTypes.toList.any (Tryz.prog.loopsFrom ·))) = true := by kernel_rfl
set_option maxRecDepth 100000 in
theorem fact22 : ((Rows.fnExactSizesRow.plainKeys == Tryz.prog.plainKeys)) = true := by kernel_rfl
set_option maxRecDepth 100000 in
theorem fact23 : (Rows.fnExactSizesRow.shortTexts.isNone) = true := by kernel_rfl
set_option maxRecDepth 100000 in
theorem fact24 : (Tryz.prog.stopsHeard) = true := by kernel_rfl
set_option maxRecDepth 100000 in
theorem fact25 : (Tryz.prog.mayEnter) = true := by kernel_rfl
set_option maxRecDepth 100000 in
theorem fact26 : ((Rows.fnExactSizesRow.lifted == Tryz.prog.liftsFinal)) = true := by kernel_rfl
set_option maxRecDepth 100000 in
theorem fact27 : ((Tryz.prog.make == some Rows.fnExactSizesRow.make)) = true := by kernel_rfl
set_option maxRecDepth 100000 in
theorem fact28 : ((Rows.fnExactSizesRow.kinds == (if Rows.fnExactSizesRow.domain.isEmpty then [] else Tryz.f3.params.toList.map fun t => match Tryz.prog.underlying t with | some (.int k) => some k | _ => none))) = true := by kernel_rfl
set_option maxRecDepth 100000 in
theorem fact29 : ((Rows.fnExactSizesRow.pinned == Rows.fnExactSizesRow.pinnedBy)) = true := by kernel_rfl
set_option maxRecDepth 100000 in
theorem fact30 : ((Rows.fnExactSizesRow.veiled == (Tryz.f3.params.toList ++ bareSpec.plain.varTypes Tryz.prog ++ Tryz.f3.resultTypes.toList).any (Tryz.prog.veiledRec ·))) = true := by kernel_rfl
set_option maxRecDepth 100000 in
theorem fact31 : (Rows.fnExactSizesRow.veiledFits Tryz.prog Tryz.f3.params.toList (Tryz.f3.params.toList ++ bareSpec.plain.varTypes Tryz.prog ++ Tryz.f3.resultTypes.toList)) = true := by kernel_rfl

set_option maxRecDepth 100000 in
theorem facts : joinedFacts Tryz.prog 3 Tryz.f3 bareSpec Rows.fnExactSizesRow = true := by
  unfold joinedFacts
  refine and_both ?_ fact31
  refine and_both ?_ fact30
  refine and_both ?_ fact29
  refine and_both ?_ fact28
  refine and_both ?_ fact27
  refine and_both ?_ fact26
  refine and_both ?_ fact25
  refine and_both ?_ fact24
  refine and_both ?_ fact23
  refine and_both ?_ fact22
  refine and_both ?_ fact21
  refine and_both ?_ fact20
  refine and_both ?_ fact19
  refine and_both ?_ fact18
  refine and_both ?_ fact17
  refine and_both ?_ fact16
  refine and_both ?_ fact15
  refine and_both ?_ fact14
  refine and_both ?_ fact13
  refine and_both ?_ fact12
  refine and_both ?_ fact11
  refine and_both ?_ fact10
  refine and_both ?_ fact9
  refine and_both ?_ fact8
  refine and_both ?_ fact7
  refine and_both ?_ fact6
  refine and_both ?_ fact5
  refine and_both ?_ fact4
  refine and_both ?_ fact3
  refine and_both ?_ fact2
  refine and_both ?_ fact1
  exact fact0

set_option maxRecDepth 100000 in
theorem named_is : Tryz.prog.funcNamed "loop.example/pub-votesinparts/laws.FnExactSizes" = some 3 := by kernel_rfl
set_option maxRecDepth 100000 in
theorem inst_ok : Tryz.f3.isInstance Tryz.prog Rows.fnExactSizesRow.origin Rows.fnExactSizesRow.targs := of_decide_eq_true (by kernel_rfl)
set_option maxRecDepth 100000 in
theorem wrap_ok : Tryz.f3.isWrapper Tryz.prog Rows.fnExactSizesRow.wrapper Rows.fnExactSizesRow.mainSum := by
  unfold Func.isWrapper
  first | (rw [if_pos (by decide +kernel)]; kernel_rfl) | (rw [if_neg (by decide +kernel)]; exact ⟨rfl, rfl⟩)
end Go.Proofs.YtlmmdldjfpdcfaaGreatDoor
