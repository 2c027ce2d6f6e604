/- The card: the witness, and the law from every started world. -/
import Derived.Test.YtccicbpeajdjgaaGreatDoorQContractC
import Derived.Test.YtccicbpeajdjgaaGreatDoorCards
import Derived.Test.YtccicbpeajdjgaaGreatDoorTie
import Derived.Deep.DeepHandedRow
import Derived.Lay
set_option linter.unusedVariables false
set_option linter.unusedSimpArgs false
namespace Go.Proofs.YtccicbpeajdjgaaGreatDoor.Row
open Go.ChangeShapes Go.WideShapes Go.ChangeAt Go.RowKit Vm
noncomputable def laidWorld (os : Os) : World := World.laidAll Tryz.prog os Rows.fnRoundDecimal128Row.laid
abbrev wArgs : Array Value := #[.slice none 0 0, .int .i64 0, .int .i64 0, .int .i64 0, .int .i64 0]
theorem vI (os : Os) : laidMet Tryz.prog Rows.fnRoundDecimal128Row.laid ((laidWorld os).forCall (fun _ _ => 0) ⟨#[], wArgs, []⟩).memory :=
  laidMet_laidAll _ (by kernel_rfl) (by kernel_rfl)
theorem uY (os : Os) {H : Type} (enc : TypeId × Value → H) : ∃ gs places, DataW.whole enc Tryz.prog ((laidWorld os).forCall (fun _ _ => 0) ⟨#[], wArgs, []⟩).memory Tryz.f3.params.toList Rows.fnRoundDecimal128Spec.vars false wArgs.toList 8 = some ([.nil, .lit (.int .i64 0), .lit (.int .i64 0), .lit (.int .i64 0), .lit (.int .i64 0)], gs, places) :=
  ⟨[Rows.laid_given_example_pub_arrowroot_pub_bigall_divRecursiveThreshold, Rows.laid_given_example_pub_arrowroot_pub_bigall_karatsubaThreshold, Rows.laid_given_example_pub_arrowroot_pub_bigall_basicSqrThreshold, Rows.laid_given_example_pub_arrowroot_pub_bigall_karatsubaSqrThreshold, Rows.laid_given_example_pub_arrowroot_pub_arrow_arrow_decimal128_scaleMultipliers, Rows.laid_given_example_pub_arrowroot_pub_arrow_arrow_decimal128_scaleMultipliersHalf, Rows.laid_given_example_pub_arrowroot_pub_bigall_leafSize],
    [.cell 2 0, .cell 5 0, .cell 3 0, .cell 4 0] ++ (List.range 78).map (MemPlace.cell 0 ·) ++ (List.range 78).map (MemPlace.cell 1 ·) ++ [.cell 7 0], by kernel_rfl⟩
theorem wa (os : Os) : ((laidWorld os).forCall (fun _ _ => 0) ⟨#[], wArgs, []⟩).variablesB Tryz.checked.prog = true := by kernel_rfl
theorem wb (os : Os) : (((laidWorld os).forCall (fun _ _ => 0) ⟨#[], wArgs, []⟩).heap.toList.drop Tryz.checked.prog.globals.size).take ((begin Tryz.checked.prog (fun _ _ => 0) default).world.heap.size - Tryz.checked.prog.globals.size) = (begin Tryz.checked.prog (fun _ _ => 0) default).world.heap.toList.drop Tryz.checked.prog.globals.size := by kernel_rfl
theorem wc (os : Os) : Input.okWideB Tryz.checked.prog ((laidWorld os).forCall (fun _ _ => 0) ⟨#[], wArgs, []⟩) 3 ⟨#[], wArgs, []⟩ = true := by kernel_rfl
theorem wd9 (os : Os) {H : Type} (enc : TypeId × Value → H) : (OpenSpec.ofChange Rows.fnRoundDecimal128Spec).bare.sizedB enc Tryz.checked.prog Tryz.f3 false ((laidWorld os).forCall (fun _ _ => 0) ⟨#[], wArgs, []⟩).memory wArgs 8 = true := by kernel_rfl
set_option maxRecDepth 100000 in
theorem lifted (os : Os) (started : os.Started) (H : Type) (enc : TypeId × Value → H) (F : Stop.Interp) :
    ReturnsInHanded {} Tryz.checked os 3 .any ((OpenSpec.ofChange Rows.fnRoundDecimal128Spec).preRow enc Tryz.prog Tryz.f3 Rows.fnRoundDecimal128Row.domain false Rows.fnRoundDecimal128Row.laid) (((OpenSpec.ofChange Rows.fnRoundDecimal128Spec).at F).post enc Tryz.prog Tryz.f3 false true false false) := by
  obtain ⟨gs, places, hx⟩ := uY os enc
  refine returnsInHanded_of_row (C := Tryz.checked) (s := OpenSpec.ofChange Rows.fnRoundDecimal128Spec) own started (by kernel_rfl) Tryz.func3
    (witness_row_at (enc := enc) (C := Tryz.checked) false (laidWorld os) wArgs rfl (wa os) (wb os) (wc os)
      (OpenSpec.preRow_of_cond 8 hx (by kernel_rfl) (fun k hk => by cases hk) (wd9 os enc) (vI os))) ?_
  intro W base args ds gs before hval hW _ _ _ hL _ _
  exact contract H enc W base args ds gs before hval hW hL
end Go.Proofs.YtccicbpeajdjgaaGreatDoor.Row
