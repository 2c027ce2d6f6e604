/- The card: what the program's text says of the law and its list. -/
import Derived.Test.YtccicbpeajdjgaaGreatDoorQContractC
import Derived.Test.YtccicbpeajdjgaaGreatDoorCards
import Derived.Test.YtccicbpeajdjgaaGreatDoorTie
import Derived.Deep.DeepHandedRow
import Derived.Lay
set_option linter.unusedVariables false
set_option linter.unusedSimpArgs false
namespace Go.Proofs.YtccicbpeajdjgaaGreatDoor.Row
open Go.ChangeShapes Go.WideShapes Go.ChangeAt Go.RowKit Vm
theorem sa : Tryz.pinned.checked.prog.funcNamed Rows.fnRoundDecimal128Row.func = some 3 := by kernel_rfl
set_option maxHeartbeats 4000000 in
theorem sb : joinedFacts Tryz.pinned.checked.prog 3 Tryz.f3 (OpenSpec.ofChange Rows.fnRoundDecimal128Spec).bare Rows.fnRoundDecimal128Row = true := by
  unfold joinedFacts
  simp only [Bool.and_eq_true]
  repeat' apply And.intro
  all_goals decide +kernel
theorem sc : Tryz.f3.isInstance Tryz.pinned.checked.prog Rows.fnRoundDecimal128Row.origin Rows.fnRoundDecimal128Row.targs := of_decide_eq_true (by kernel_rfl)
theorem sd : Tryz.f3.isWrapper Tryz.pinned.checked.prog Rows.fnRoundDecimal128Row.wrapper Rows.fnRoundDecimal128Row.mainSum := by unfold Func.isWrapper; first | (rw [if_pos (by decide +kernel)]; kernel_rfl) | (rw [if_neg (by decide +kernel)]; exact ⟨rfl, rfl⟩)
end Go.Proofs.YtccicbpeajdjgaaGreatDoor.Row
