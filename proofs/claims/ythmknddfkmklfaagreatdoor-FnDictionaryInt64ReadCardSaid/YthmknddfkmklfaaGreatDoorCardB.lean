/- What is proved: laws.FnDictionaryInt64Read answers true at every input, and its arguments read behind the call as before it; conditions: none but that the four listed package variables start as the program's text lays them, to which the card ties them. -/
import Derived.Test.YthmknddfkmklfaaGreatDoorContractB
import Derived.Test.YthmknddfkmklfaaGreatDoorCards
import Derived.Test.YthmknddfkmklfaaGreatDoorTie
import Derived.Deep.DeepHandedRow
namespace Go.Proofs.YthmknddfkmklfaaGreatDoor.Row
open Go.ChangeShapes Go.WideShapes Go.ChangeAt Go.RowKit Vm

/-! A world for the witness: the listed variables hold what their initialisers lay. -/
abbrev tS : ByteArray := { data := #[115, 104, 111, 114, 116, 32, 98, 117, 102, 102, 101, 114] }
abbrev tE : ByteArray := { data := #[69, 79, 70] }
abbrev tU : ByteArray := { data := #[117, 110, 101, 120, 112, 101, 99, 116, 101, 100, 32, 69, 79, 70] }
abbrev tO : ByteArray := { data := #[98, 105, 110, 97, 114, 121, 58, 32, 118, 97, 114, 105, 110, 116, 32, 111, 118, 101, 114, 102, 108, 111, 119, 115, 32, 97, 32, 54, 52, 45, 98, 105, 116, 32, 105, 110, 116, 101, 103, 101, 114] }
noncomputable def low : Nat := (World.holding Tryz.prog default ⟨#[], #[], []⟩).heap.size
def lay (cs : Array Value) : Obj → Obj
  | .cells _ t frozen => .cells cs t frozen
  | o => o
noncomputable def laidWorld (os : Os) : World :=
  let w0 := World.holding Tryz.prog os ⟨#[.cells #[.string tS] 129, .cells #[.string tE] 129, .cells #[.string tU] 129, .cells #[.string tO] 129], #[], []⟩
  { w0 with heap := (((w0.heap.modify 5 (lay #[.iface 127 (.pointer (some ⟨low, 0, none⟩))])).modify 2 (lay #[.iface 127 (.pointer (some ⟨low + 1, 0, none⟩))])).modify 1 (lay #[.iface 127 (.pointer (some ⟨low + 2, 0, none⟩))])).modify 4 (lay #[.iface 127 (.pointer (some ⟨low + 3, 0, none⟩))]) }
abbrev wArgs : Array Value := #[.slice none 0 0, .int .i64 0, .slice none 0 0, .slice none 0 0]
theorem laid_met (os : Os) : laidMet Tryz.prog Rows.fnDictionaryInt64ReadRow.laid ((laidWorld os).forCall (fun _ _ => 0) ⟨#[], wArgs, []⟩).memory :=
  laidMet_of_run' 8 (by kernel_rfl) (by kernel_rfl)
theorem reads (os : Os) {H : Type} (enc : TypeId × Value → H) : ∃ gs places, DataW.whole enc Tryz.prog ((laidWorld os).forCall (fun _ _ => 0) ⟨#[], wArgs, []⟩).memory Tryz.f3.params.toList Rows.fnDictionaryInt64ReadSpec.vars false wArgs.toList 8 = some ([.nil, .lit (.int .i64 0), .nil, .nil], gs, places) :=
  ⟨[], [], by kernel_rfl⟩

set_option maxRecDepth 100000 in
theorem lifted (os : Os) (started : os.Started) (H : Type) (enc : TypeId × Value → H) (F : Stop.Interp) :
    ReturnsInHanded {} Tryz.checked os 3 .any ((OpenSpec.ofChange Rows.fnDictionaryInt64ReadSpec).preRow enc Tryz.prog Tryz.f3 Rows.fnDictionaryInt64ReadRow.domain false Rows.fnDictionaryInt64ReadRow.laid) (((OpenSpec.ofChange Rows.fnDictionaryInt64ReadSpec).at F).post enc Tryz.prog Tryz.f3 false true false false) := by
  obtain ⟨gs, places, hx⟩ := reads os enc
  refine returnsInHanded_of_row (C := Tryz.checked) (s := OpenSpec.ofChange Rows.fnDictionaryInt64ReadSpec) own started (by kernel_rfl) Tryz.func3
    (witness_row_at (enc := enc) (C := Tryz.checked) false (laidWorld os) wArgs rfl (by kernel_rfl) (by kernel_rfl) (by kernel_rfl)
      (OpenSpec.preRow_of_cond 8 hx (by kernel_rfl) (fun k hk => by cases hk) (by kernel_rfl) (laid_met os))) ?_
  intro W base args ds gs before hval hW _ _ _ hL _ _
  exact contract H enc W base args ds gs before hval hW hL

theorem said : Rows.FnDictionaryInt64ReadSaid :=
  OpenClaim.holds_of_cond 3 Tryz.f3 rfl rfl rfl rfl rfl rfl rfl ⟨rfl, rfl, rfl, rfl, rfl⟩ rfl rfl rfl rfl rfl (by kernel_rfl) Tryz.func3 (by kernel_rfl)
    (of_decide_eq_true (by kernel_rfl)) (by unfold Func.isWrapper; first | (rw [if_pos (by decide +kernel)]; kernel_rfl) | (rw [if_neg (by decide +kernel)]; exact ⟨rfl, rfl⟩))
    (fun os started H enc _ F => by rw [OpenClaim.pre_eq_preRow]; exact lifted os started H enc F)

theorem plain (f : FuncId) (fn : Func) (hf : Tryz.pinned.checked.prog.funcNamed "given.example/pub-arrowroot/laws.FnDictionaryInt64Read" = some f) (hfn : Tryz.pinned.checked.prog.funcs[f]? = some fn) :
    true = Tryz.pinned.checked.prog.looks [] ∧ ∀ (j : Nat) t, fn.params[j]? = some t → Tryz.pinned.checked.prog.wantsStandIn t = false := by
  obtain rfl : f = 3 := Option.some.inj ((show Tryz.prog.funcNamed "given.example/pub-arrowroot/laws.FnDictionaryInt64Read" = some 3 by kernel_rfl).symm.trans hf) |>.symm
  obtain rfl : fn = Tryz.f3 := (Option.some.inj (Tryz.func3.symm.trans hfn)).symm
  refine ⟨by kernel_rfl, fun j t ht => ?_⟩
  rw [Tryz.params3] at ht
  have hm : t = 22 ∨ t = 3 ∨ t = 23 ∨ t = 24 := by
    have := Array.mem_of_getElem? ht
    simp at this
    omega
  rcases hm with rfl | rfl | rfl | rfl
  · exact (show Tryz.prog.wantsStandIn 22 = false by kernel_rfl)
  · exact (show Tryz.prog.wantsStandIn 3 = false by kernel_rfl)
  · exact (show Tryz.prog.wantsStandIn 23 = false by kernel_rfl)
  · exact (show Tryz.prog.wantsStandIn 24 = false by kernel_rfl)

/-- the card -/
theorem card : Rows.FnDictionaryInt64ReadCardSaid :=
  Claim7.holds_tied_plain_at .later [] _ _ _ _ said (fun _ h => by cases h) (by kernel_rfl) (fun _ h => by cases h) fnDictionaryInt64Read_row_tie rfl ⟨rfl, rfl⟩ (by kernel_rfl) rfl plain (by kernel_rfl)
#print axioms card
end Go.Proofs.YthmknddfkmklfaaGreatDoor.Row
