/- What is proved: laws.FnUnpackedBatch answers true at every input, and its arguments read behind the call as before it; conditions: none but that the six listed package variables start as the program's text lays them, to which the card ties them. -/
import Derived.Test.YtajgdpiodpoooaaGreatDoorContract
import Derived.Test.YtajgdpiodpoooaaGreatDoorCards
import Derived.Test.YtajgdpiodpoooaaGreatDoorTie
import Derived.Deep.DeepHandedRow
namespace Go.Proofs.YtajgdpiodpoooaaGreatDoor.Row
open Go.ChangeShapes Go.WideShapes Go.ChangeAt Go.RowKit Vm

/-! A world for the witness: the listed variables hold what their initialisers lay. -/
abbrev tS : ByteArray := { data := #[115, 104, 111, 114, 116, 32, 98, 117, 102, 102, 101, 114] }
abbrev tE : ByteArray := { data := #[69, 79, 70] }
abbrev tU : ByteArray := { data := #[117, 110, 101, 120, 112, 101, 99, 116, 101, 100, 32, 69, 79, 70] }
abbrev tP : ByteArray := { data := #[109, 117, 108, 116, 105, 112, 108, 101, 32, 82, 101, 97, 100, 32, 99, 97, 108, 108, 115, 32, 114, 101, 116, 117, 114, 110, 32, 110, 111, 32, 100, 97, 116, 97, 32, 111, 114, 32, 101, 114, 114, 111, 114] }
noncomputable def low : Nat := (World.holding Tryz.prog default ⟨#[], #[], []⟩).heap.size
def lay (cs : Array Value) : Obj → Obj
  | .cells _ t frozen => .cells cs t frozen
  | o => o
noncomputable def laidWorld (os : Os) : World :=
  let w0 := World.holding Tryz.prog os ⟨#[.cells #[.string tS] 82, .cells #[.string tE] 82, .cells #[.string tU] 82, .cells #[.string tP] 82], #[], []⟩
  { w0 with heap := (((((w0.heap.modify 6 (lay #[.iface 80 (.pointer (some ⟨low, 0, none⟩))])).modify 1 (lay #[.iface 80 (.pointer (some ⟨low + 1, 0, none⟩))])).modify 0 (lay #[.iface 80 (.pointer (some ⟨low + 2, 0, none⟩))])).modify 3 (lay #[.iface 80 (.pointer (some ⟨low + 3, 0, none⟩))])).modify 4 (lay #[.int .u8 1, .int .u8 2, .int .u8 4, .int .u8 8, .int .u8 16, .int .u8 32, .int .u8 64, .int .u8 128])).modify 5 (lay #[.int .u8 254, .int .u8 253, .int .u8 251, .int .u8 247, .int .u8 239, .int .u8 223, .int .u8 191, .int .u8 127]) }
abbrev wArgs : Array Value := #[.slice none 0 0, .int .i64 0, .int .i64 0, .slice none 0 0]
theorem laid_met (os : Os) : laidMet Tryz.prog Rows.fnUnpackedBatchRow.laid ((laidWorld os).forCall (fun _ _ => 0) ⟨#[], wArgs, []⟩).memory :=
  laidMet_of_run' 8 (by kernel_rfl) (by kernel_rfl)
theorem reads (os : Os) {H : Type} (enc : TypeId × Value → H) : ∃ gs places, DataW.whole enc Tryz.prog ((laidWorld os).forCall (fun _ _ => 0) ⟨#[], wArgs, []⟩).memory Tryz.f3.params.toList Rows.fnUnpackedBatchSpec.vars false wArgs.toList 8 = some ([.nil, .lit (.int .i64 0), .lit (.int .i64 0), .nil], gs, places) :=
  ⟨[Rows.laid_given_example_pub_arrowroot_pub_arrow_arrow_bitutil_BitMask, Rows.laid_given_example_pub_arrowroot_pub_arrow_arrow_bitutil_FlippedBitMask], (List.range 8).map (MemPlace.cell 4 ·) ++ (List.range 8).map (MemPlace.cell 5 ·), by kernel_rfl⟩

set_option maxRecDepth 100000 in
theorem lifted (os : Os) (started : os.Started) (H : Type) (enc : TypeId × Value → H) (F : Stop.Interp) :
    ReturnsInHanded {} Tryz.checked os 3 .any ((OpenSpec.ofChange Rows.fnUnpackedBatchSpec).preRow enc Tryz.prog Tryz.f3 Rows.fnUnpackedBatchRow.domain false Rows.fnUnpackedBatchRow.laid) (((OpenSpec.ofChange Rows.fnUnpackedBatchSpec).at F).post enc Tryz.prog Tryz.f3 false true false false) := by
  obtain ⟨gs, places, hx⟩ := reads os enc
  refine returnsInHanded_of_row (C := Tryz.checked) (s := OpenSpec.ofChange Rows.fnUnpackedBatchSpec) own started (by kernel_rfl) Tryz.func3
    (witness_row_at (enc := enc) (C := Tryz.checked) false (laidWorld os) wArgs rfl (by kernel_rfl) (by kernel_rfl) (by kernel_rfl)
      (OpenSpec.preRow_of_cond 8 hx (by kernel_rfl) (fun k hk => by cases hk) (by kernel_rfl) (laid_met os))) ?_
  intro W base args ds gs before hval hW _ _ _ hL _ _
  exact contract H enc W base args ds gs before hval hW hL

theorem said : Rows.FnUnpackedBatchSaid :=
  OpenClaim.holds_of_cond 3 Tryz.f3 rfl rfl rfl rfl rfl rfl rfl ⟨rfl, rfl, rfl, rfl, rfl⟩ rfl rfl rfl rfl rfl (by kernel_rfl) Tryz.func3 (by kernel_rfl)
    (of_decide_eq_true (by kernel_rfl)) (by unfold Func.isWrapper; first | (rw [if_pos (by decide +kernel)]; kernel_rfl) | (rw [if_neg (by decide +kernel)]; exact ⟨rfl, rfl⟩))
    (fun os started H enc _ F => by rw [OpenClaim.pre_eq_preRow]; exact lifted os started H enc F)

theorem plain (f : FuncId) (fn : Func) (hf : Tryz.pinned.checked.prog.funcNamed "given.example/pub-arrowroot/laws.FnUnpackedBatch" = some f) (hfn : Tryz.pinned.checked.prog.funcs[f]? = some fn) :
    true = Tryz.pinned.checked.prog.looks [] ∧ ∀ (j : Nat) t, fn.params[j]? = some t → Tryz.pinned.checked.prog.wantsStandIn t = false := by
  obtain rfl : f = 3 := Option.some.inj ((show Tryz.prog.funcNamed "given.example/pub-arrowroot/laws.FnUnpackedBatch" = some 3 by kernel_rfl).symm.trans hf) |>.symm
  obtain rfl : fn = Tryz.f3 := (Option.some.inj (Tryz.func3.symm.trans hfn)).symm
  refine ⟨by kernel_rfl, fun j t ht => ?_⟩
  rw [Tryz.params3] at ht
  have hm : t = 22 ∨ t = 3 ∨ t = 23 := by
    have := Array.mem_of_getElem? ht
    simp at this
    omega
  rcases hm with rfl | rfl | rfl
  · exact (show Tryz.prog.wantsStandIn 22 = false by kernel_rfl)
  · exact (show Tryz.prog.wantsStandIn 3 = false by kernel_rfl)
  · exact (show Tryz.prog.wantsStandIn 23 = false by kernel_rfl)

/-- the card -/
theorem card : Rows.FnUnpackedBatchCardSaid :=
  Claim7.holds_tied_plain_at .later [] _ _ _ _ said (fun _ h => by cases h) (by kernel_rfl) (fun _ h => by cases h) fnUnpackedBatch_row_tie rfl ⟨rfl, rfl⟩ (by kernel_rfl) rfl plain (by kernel_rfl)
#print axioms card
end Go.Proofs.YtajgdpiodpoooaaGreatDoor.Row
