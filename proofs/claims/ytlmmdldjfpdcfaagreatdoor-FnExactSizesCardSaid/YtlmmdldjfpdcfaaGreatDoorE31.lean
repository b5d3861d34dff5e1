/- FnExactSizes: for every kind (whatever its number, shares, length, bits, chunk, maximum and context) the law returns true, and the kind and the named variables read behind the call as before. Condition: the listed package-level variables hold what their initialisers lay, which the card ties to the program's text. -/
import Derived.Test.YtlmmdldjfpdcfaaGreatDoorE29
import Derived.Test.YtlmmdldjfpdcfaaGreatDoorE30
import Derived.Test.YtlmmdldjfpdcfaaGreatDoorCards
import Derived.Test.YtlmmdldjfpdcfaaGreatDoorTie
namespace Go.Proofs.YtlmmdldjfpdcfaaGreatDoor
open Go.ChangeShapes Go.WideShapes Go.ChangeAt Go.RowKit

set_option maxRecDepth 100000 in
theorem lifted (os : Os) (started : os.Started) (H : Type) (enc : TypeId × Value → H) (F : Stop.Interp) :
    ReturnsInHanded {} Tryz.checked os 3 .any ((OpenSpec.ofChange Rows.fnExactSizesSpec).preRow enc Tryz.prog Tryz.f3 Rows.fnExactSizesRow.domain false Rows.fnExactSizesRow.laid) (((OpenSpec.ofChange Rows.fnExactSizesSpec).at F).post enc Tryz.prog Tryz.f3 false true false false) := by
  refine returnsInHanded_of_row (C := Tryz.checked) (s := OpenSpec.ofChange Rows.fnExactSizesSpec) own started no_init Tryz.func3
    (witness_row_atRef (enc := enc) (C := Tryz.checked) false (laidWorld os) #[zeroKind] rfl (vars_ok os) (rest_ok os) (input_ok os) (witness_row os enc)) ?_
  intro W base args ds gs before hval hW _ _ _ hL hsh _
  exact contract H enc W base args ds gs before hval hW hL hsh

set_option maxRecDepth 100000 in
theorem said : Rows.FnExactSizesSaid :=
  OpenClaim.holds_of_cond 3 Tryz.f3 rfl rfl rfl rfl rfl rfl rfl ⟨rfl, rfl, rfl, rfl, rfl⟩ rfl rfl rfl rfl rfl named_is Tryz.func3 facts inst_ok wrap_ok
    (fun os started H enc _ F => by rw [OpenClaim.pre_eq_preRow]; exact lifted os started H enc F)

set_option maxRecDepth 100000 in
theorem looks_off : false = Tryz.prog.looks [] := by kernel_rfl
set_option maxRecDepth 100000 in
theorem no_stand : Tryz.prog.wantsStandIn 25 = false := by kernel_rfl

/-- No parameter wants a stand-in; the program's own looks are off. -/
theorem plain (f : FuncId) (fn : Func) (hf : Tryz.pinned.checked.prog.funcNamed "loop.example/pub-votesinparts/laws.FnExactSizes" = some f) (hfn : Tryz.pinned.checked.prog.funcs[f]? = some fn) :
    false = Tryz.pinned.checked.prog.looks [] ∧ ∀ (j : Nat) t, fn.params[j]? = some t → Tryz.pinned.checked.prog.wantsStandIn t = false := by
  obtain rfl : f = 3 := Option.some.inj (named_is.symm.trans hf) |>.symm
  obtain rfl : fn = Tryz.f3 := (Option.some.inj (Tryz.func3.symm.trans hfn)).symm
  refine ⟨looks_off, fun j t ht => ?_⟩
  rw [Tryz.params3] at ht
  obtain rfl : t = 25 := by simpa using Array.mem_of_getElem? ht
  exact no_stand

set_option maxRecDepth 100000 in
theorem by_text : Rows.fnExactSizesRow.wfByText (OpenSpec.ofChange Rows.fnExactSizesSpec) = true := by kernel_rfl
set_option maxRecDepth 100000 in
theorem main_is : Tryz.prog.mainIs = some (true, "65a96a50e803f257fa8cff9daafece9121070a68b556d5ab42d3bc3979736b81".toList) := by kernel_rfl
set_option maxRecDepth 100000 in
theorem goes_off : false = Rows.fnExactSizesRow.goesBy Tryz.prog := by kernel_rfl

/-- **The card of FnExactSizes.** -/
theorem fnExactSizes_card : Rows.FnExactSizesCardSaid :=
  Claim7.holds_tied_plain_at .later [] _ _ _ _ said (fun _ h => by cases h) by_text (fun _ h => by cases h) fnExactSizes_row_tie rfl ⟨rfl, rfl⟩ main_is rfl plain goes_off
end Go.Proofs.YtlmmdldjfpdcfaaGreatDoor
