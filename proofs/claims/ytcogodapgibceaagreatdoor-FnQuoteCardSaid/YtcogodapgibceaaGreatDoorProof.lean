/-
  laws.FnQuote returns true at every input, and its argument reads behind the call as it read before: the row's statement and its tied card. Conditions: those of the given row's own cells (loops, laid, recurses): the thirteen listed variables of Go's library start as laid, which the card ties to the program's text; eight of them are tables pinned by name.
-/
import Derived.Test.YtcogodapgibceaaGreatDoorCards
import Derived.Test.YtcogodapgibceaaGreatDoorTie
import Derived.Test.YtcogodapgibceaaGreatDoorWit
namespace Go.Proofs.YtcogodapgibceaaGreatDoor
open Go.ChangeShapes Go.WideShapes Go.ChangeAt Go.RowKit Go.Lib

set_option maxRecDepth 1000000 in
theorem restFits (os : Os) : ((LS os).heap.toList.drop Tryz.prog.globals.size).take ((begin Tryz.prog (fun _ _ => 0) default).world.heap.size - Tryz.prog.globals.size) = (begin Tryz.prog (fun _ _ => 0) default).world.heap.toList.drop Tryz.prog.globals.size := by kernel_rfl
set_option maxRecDepth 1000000 in
theorem inputFits (os : Os) : Input.okWideB Tryz.prog (LS os) 3 ⟨#[], #[.slice none 0 0], []⟩ = true := by kernel_rfl
theorem noInit : Tryz.prog.inits.idxOf? 3 = none := by kernel_rfl

set_option maxRecDepth 100000 in
set_option maxHeartbeats 2000000 in
theorem lifted (os : Os) (started : os.Started) (H : Type) (enc : TypeId × Value → H) (F : Stop.Interp) :
    ReturnsInHanded {} Tryz.checked os 3 .any ((OpenSpec.ofChange Rows.fnQuoteSpec).preRow enc Tryz.prog Tryz.f3 Rows.fnQuoteRow.domain false Rows.fnQuoteRow.laid) (((OpenSpec.ofChange Rows.fnQuoteSpec).at F).post enc Tryz.prog Tryz.f3 false true false false) := by
  refine returnsInHanded_of_row (C := Tryz.checked) (s := OpenSpec.ofChange Rows.fnQuoteSpec) own started noInit Tryz.func3
    (witness_row_atRef (enc := enc) (C := Tryz.checked) false (laidWorld os) #[.slice none 0 0] rfl (variablesFit os) (restFits os) (inputFits os) (witness_row os enc)) ?_
  intro W base args ds gs before hval hW _ _ _ hL _ _
  exact contract H enc W base args ds gs before hval hW hL

set_option maxRecDepth 100000 in
/-- THE ROW's STATEMENT. -/
theorem said : Rows.FnQuoteSaid :=
  OpenClaim.holds_of_cond 3 Tryz.f3 rfl rfl rfl rfl rfl rfl rfl ⟨rfl, rfl, rfl, rfl, rfl⟩ rfl rfl rfl rfl rfl (by kernel_rfl) Tryz.func3 (by kernel_rfl)
    (of_decide_eq_true (by kernel_rfl)) (by unfold Func.isWrapper; rw [if_neg (of_decide_eq_false (by kernel_rfl))]; exact ⟨rfl, rfl⟩)
    (fun os started H enc _ F => by rw [OpenClaim.pre_eq_preRow]; exact lifted os started H enc F)

/-- No parameter wants a stand-in; the program's own looks. -/
theorem plain (f : FuncId) (fn : Func) (hf : Tryz.pinned.checked.prog.funcNamed "given.example/pub-budwood/laws.FnQuote" = some f) (hfn : Tryz.pinned.checked.prog.funcs[f]? = some fn) :
    true = Tryz.pinned.checked.prog.looks [] ∧ ∀ (j : Nat) t, fn.params[j]? = some t → Tryz.pinned.checked.prog.wantsStandIn t = false := by
  obtain rfl : f = 3 := Option.some.inj ((show Tryz.prog.funcNamed "given.example/pub-budwood/laws.FnQuote" = some 3 by kernel_rfl).symm.trans hf) |>.symm
  obtain rfl : fn = Tryz.f3 := (Option.some.inj (Tryz.func3.symm.trans hfn)).symm
  refine ⟨by kernel_rfl, fun j t ht => ?_⟩
  rw [Tryz.params3] at ht
  obtain rfl : t = 22 := by simpa using Array.mem_of_getElem? ht
  exact (show Tryz.prog.wantsStandIn 22 = false by kernel_rfl)

/-- THE CARD. -/
theorem card_holds : Rows.FnQuoteCardSaid :=
  Claim7.holds_tied_plain_at .later [] _ _ _ _ said (fun _ h => by cases h) (by kernel_rfl) (fun _ h => by cases h) fnQuote_row_tie rfl ⟨rfl, rfl⟩ (by kernel_rfl) rfl plain (by kernel_rfl)
#print axioms card_holds
end Go.Proofs.YtcogodapgibceaaGreatDoor
