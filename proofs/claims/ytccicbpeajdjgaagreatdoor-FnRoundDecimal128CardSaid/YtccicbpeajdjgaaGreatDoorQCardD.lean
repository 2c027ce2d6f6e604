/- What is proved: laws.FnRoundDecimal128 answers true at every input, and its arguments read behind the call as before it; conditions: none but that the listed package variables start as the program's text lays them, to which the card ties them. -/
import Derived.Test.YtccicbpeajdjgaaGreatDoorQCardA
import Derived.Test.YtccicbpeajdjgaaGreatDoorQCardP
import Derived.Test.YtccicbpeajdjgaaGreatDoorCards
import Derived.Test.YtccicbpeajdjgaaGreatDoorTie
import Derived.Deep.DeepHandedRow
import Derived.Lay
set_option linter.unusedVariables false
set_option linter.unusedSimpArgs false
namespace Go.Proofs.YtccicbpeajdjgaaGreatDoor.Row
open Go.ChangeShapes Go.WideShapes Go.ChangeAt Go.RowKit Vm
theorem said : Rows.FnRoundDecimal128Said :=
  OpenClaim.holds_of_cond 3 Tryz.f3 rfl rfl rfl rfl rfl rfl rfl ⟨rfl, rfl, rfl, rfl, rfl⟩ rfl rfl rfl rfl rfl sa Tryz.func3 sb sc sd
    (fun os started H enc _ F => by rw [OpenClaim.pre_eq_preRow]; exact lifted os started H enc F)
theorem lS (f : FuncId) (fn : Func) (hf : Tryz.pinned.checked.prog.funcNamed "given.example/pub-arrowroot/laws.FnRoundDecimal128" = some f) (hfn : Tryz.pinned.checked.prog.funcs[f]? = some fn) :
    false = Tryz.pinned.checked.prog.looks [] ∧ ∀ (j : Nat) t, fn.params[j]? = some t → Tryz.pinned.checked.prog.wantsStandIn t = false := by
  obtain rfl : f = 3 := Option.some.inj ((show Tryz.prog.funcNamed "given.example/pub-arrowroot/laws.FnRoundDecimal128" = some 3 by kernel_rfl).symm.trans hf) |>.symm
  obtain rfl : fn = Tryz.f3 := (Option.some.inj (Tryz.func3.symm.trans hfn)).symm
  refine ⟨by kernel_rfl, fun j t ht => ?_⟩
  rw [Tryz.params3] at ht
  have hm : t = 22 ∨ t = 3 := by
    have := Array.mem_of_getElem? ht
    simp at this
    omega
  rcases hm with rfl | rfl
  · exact (show Tryz.prog.wantsStandIn 22 = false by kernel_rfl)
  · exact (show Tryz.prog.wantsStandIn 3 = false by kernel_rfl)
/-- the card -/
theorem card : Rows.FnRoundDecimal128CardSaid :=
  Claim7.holds_tied_plain_at .later [] _ _ _ _ said (fun _ h => by cases h) (by kernel_rfl) (fun _ h => by cases h) fnRoundDecimal128_row_tie rfl ⟨rfl, rfl⟩ (by kernel_rfl) rfl lS (by kernel_rfl)
#print axioms card
end Go.Proofs.YtccicbpeajdjgaaGreatDoor.Row
