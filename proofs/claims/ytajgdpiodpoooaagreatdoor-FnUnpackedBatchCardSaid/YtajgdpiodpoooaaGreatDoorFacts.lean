/- Closed facts of the program, by a program of ours. -/
import Derived.Test.YtajgdpiodpoooaaGreatDoorVmSl
import Derived.Test.YtajgdpiodpoooaaGreatDoorProg
import Derived.KernelRfl
namespace Go.Proofs.YtajgdpiodpoooaaGreatDoor.Vm
open Go
theorem mixed : Tryz.prog.follows .mixedOrders = true := by kernel_rfl
theorem cf11 (us : Array Value) (w : World) : (callFunc 11 us).run Tryz.prog w = .ok (.enter 11 us) w := by kernel_rfl
theorem cf117 (us : Array Value) (w : World) : (callFunc 117 us).run Tryz.prog w = .ok (.enter 117 us) w := by kernel_rfl
theorem cf118 (us : Array Value) (w : World) : (callFunc 118 us).run Tryz.prog w = .ok (.enter 118 us) w := by kernel_rfl
theorem cf18 (us : Array Value) (w : World) : (callFunc 18 us).run Tryz.prog w = .ok (.enter 18 us) w := by kernel_rfl
theorem cf27 (us : Array Value) (w : World) : (callFunc 27 us).run Tryz.prog w = .ok (.enter 27 us) w := by kernel_rfl
theorem cf28 (us : Array Value) (w : World) : (callFunc 28 us).run Tryz.prog w = .ok (.enter 28 us) w := by kernel_rfl
theorem cf36 (us : Array Value) (w : World) : (callFunc 36 us).run Tryz.prog w = .ok (.enter 36 us) w := by kernel_rfl
theorem cf38 (us : Array Value) (w : World) : (callFunc 38 us).run Tryz.prog w = .ok (.enter 38 us) w := by kernel_rfl
theorem cf42 (us : Array Value) (w : World) : (callFunc 42 us).run Tryz.prog w = .ok (.enter 42 us) w := by kernel_rfl
theorem cf45 (us : Array Value) (w : World) : (callFunc 45 us).run Tryz.prog w = .ok (.enter 45 us) w := by kernel_rfl
theorem cf46 (us : Array Value) (w : World) : (callFunc 46 us).run Tryz.prog w = .ok (.enter 46 us) w := by kernel_rfl
theorem cf47 (us : Array Value) (w : World) : (callFunc 47 us).run Tryz.prog w = .ok (.enter 47 us) w := by kernel_rfl
theorem cf48 (us : Array Value) (w : World) : (callFunc 48 us).run Tryz.prog w = .ok (.enter 48 us) w := by kernel_rfl
theorem cf49 (us : Array Value) (w : World) : (callFunc 49 us).run Tryz.prog w = .ok (.enter 49 us) w := by kernel_rfl
theorem cf50 (us : Array Value) (w : World) : (callFunc 50 us).run Tryz.prog w = .ok (.enter 50 us) w := by kernel_rfl
theorem cf51 (us : Array Value) (w : World) : (callFunc 51 us).run Tryz.prog w = .ok (.enter 51 us) w := by kernel_rfl
theorem cf52 (us : Array Value) (w : World) : (callFunc 52 us).run Tryz.prog w = .ok (.enter 52 us) w := by kernel_rfl
theorem cf53 (us : Array Value) (w : World) : (callFunc 53 us).run Tryz.prog w = .ok (.enter 53 us) w := by kernel_rfl
theorem cf54 (us : Array Value) (w : World) : (callFunc 54 us).run Tryz.prog w = .ok (.enter 54 us) w := by kernel_rfl
theorem cf55 (us : Array Value) (w : World) : (callFunc 55 us).run Tryz.prog w = .ok (.enter 55 us) w := by kernel_rfl
theorem cf56 (us : Array Value) (w : World) : (callFunc 56 us).run Tryz.prog w = .ok (.enter 56 us) w := by kernel_rfl
theorem cf57 (us : Array Value) (w : World) : (callFunc 57 us).run Tryz.prog w = .ok (.enter 57 us) w := by kernel_rfl
theorem cf58 (us : Array Value) (w : World) : (callFunc 58 us).run Tryz.prog w = .ok (.enter 58 us) w := by kernel_rfl
theorem cf59 (us : Array Value) (w : World) : (callFunc 59 us).run Tryz.prog w = .ok (.enter 59 us) w := by kernel_rfl
theorem cf60 (us : Array Value) (w : World) : (callFunc 60 us).run Tryz.prog w = .ok (.enter 60 us) w := by kernel_rfl
theorem cf61 (us : Array Value) (w : World) : (callFunc 61 us).run Tryz.prog w = .ok (.enter 61 us) w := by kernel_rfl
theorem cf62 (us : Array Value) (w : World) : (callFunc 62 us).run Tryz.prog w = .ok (.enter 62 us) w := by kernel_rfl
theorem cf63 (us : Array Value) (w : World) : (callFunc 63 us).run Tryz.prog w = .ok (.enter 63 us) w := by kernel_rfl
theorem cf64 (us : Array Value) (w : World) : (callFunc 64 us).run Tryz.prog w = .ok (.enter 64 us) w := by kernel_rfl
theorem cf65 (us : Array Value) (w : World) : (callFunc 65 us).run Tryz.prog w = .ok (.enter 65 us) w := by kernel_rfl
theorem cf66 (us : Array Value) (w : World) : (callFunc 66 us).run Tryz.prog w = .ok (.enter 66 us) w := by kernel_rfl
theorem cf67 (us : Array Value) (w : World) : (callFunc 67 us).run Tryz.prog w = .ok (.enter 67 us) w := by kernel_rfl
theorem cf68 (us : Array Value) (w : World) : (callFunc 68 us).run Tryz.prog w = .ok (.enter 68 us) w := by kernel_rfl
theorem cf69 (us : Array Value) (w : World) : (callFunc 69 us).run Tryz.prog w = .ok (.enter 69 us) w := by kernel_rfl
theorem cf70 (us : Array Value) (w : World) : (callFunc 70 us).run Tryz.prog w = .ok (.enter 70 us) w := by kernel_rfl
theorem cf71 (us : Array Value) (w : World) : (callFunc 71 us).run Tryz.prog w = .ok (.enter 71 us) w := by kernel_rfl
theorem cf72 (us : Array Value) (w : World) : (callFunc 72 us).run Tryz.prog w = .ok (.enter 72 us) w := by kernel_rfl
theorem cf73 (us : Array Value) (w : World) : (callFunc 73 us).run Tryz.prog w = .ok (.enter 73 us) w := by kernel_rfl
theorem cf74 (us : Array Value) (w : World) : (callFunc 74 us).run Tryz.prog w = .ok (.enter 74 us) w := by kernel_rfl
theorem cf75 (us : Array Value) (w : World) : (callFunc 75 us).run Tryz.prog w = .ok (.enter 75 us) w := by kernel_rfl
theorem cf76 (us : Array Value) (w : World) : (callFunc 76 us).run Tryz.prog w = .ok (.enter 76 us) w := by kernel_rfl
theorem cf85 (us : Array Value) (w : World) : (callFunc 85 us).run Tryz.prog w = .ok (.enter 85 us) w := by kernel_rfl
theorem cf99 (us : Array Value) (w : World) : (callFunc 99 us).run Tryz.prog w = .ok (.enter 99 us) w := by kernel_rfl
theorem fa53_0 (b o : Nat) (w : World) : (Instr.fieldAt 53 (.pointer (some ⟨b, o, none⟩)) 0).run Tryz.prog w = .ok (.pointer (some ⟨b, o + 0, none⟩)) w := by kernel_rfl
theorem fa53_1 (b o : Nat) (w : World) : (Instr.fieldAt 53 (.pointer (some ⟨b, o, none⟩)) 1).run Tryz.prog w = .ok (.pointer (some ⟨b, o + 1, none⟩)) w := by kernel_rfl
theorem fa53_2 (b o : Nat) (w : World) : (Instr.fieldAt 53 (.pointer (some ⟨b, o, none⟩)) 2).run Tryz.prog w = .ok (.pointer (some ⟨b, o + 2, none⟩)) w := by kernel_rfl
theorem fa53_3 (b o : Nat) (w : World) : (Instr.fieldAt 53 (.pointer (some ⟨b, o, none⟩)) 3).run Tryz.prog w = .ok (.pointer (some ⟨b, o + 3, none⟩)) w := by kernel_rfl
theorem fa53_4 (b o : Nat) (w : World) : (Instr.fieldAt 53 (.pointer (some ⟨b, o, none⟩)) 4).run Tryz.prog w = .ok (.pointer (some ⟨b, o + 4, none⟩)) w := by kernel_rfl
theorem fa53_5 (b o : Nat) (w : World) : (Instr.fieldAt 53 (.pointer (some ⟨b, o, none⟩)) 5).run Tryz.prog w = .ok (.pointer (some ⟨b, o + 5, none⟩)) w := by kernel_rfl
theorem fa55_0 (b o : Nat) (w : World) : (Instr.fieldAt 55 (.pointer (some ⟨b, o, none⟩)) 0).run Tryz.prog w = .ok (.pointer (some ⟨b, o + 0, none⟩)) w := by kernel_rfl
theorem fa55_1 (b o : Nat) (w : World) : (Instr.fieldAt 55 (.pointer (some ⟨b, o, none⟩)) 1).run Tryz.prog w = .ok (.pointer (some ⟨b, o + 1, none⟩)) w := by kernel_rfl
theorem fa55_2 (b o : Nat) (w : World) : (Instr.fieldAt 55 (.pointer (some ⟨b, o, none⟩)) 2).run Tryz.prog w = .ok (.pointer (some ⟨b, o + 2, none⟩)) w := by kernel_rfl
theorem mtRdr_Read (p : Addr) (w : World) : (method (Tryz.prog.types.size + Made.depth) 38 (.pointer (some p)) "Read").run Tryz.prog w = .ok (117, .pointer (some p)) w := by kernel_rfl
theorem mtRdr_ReadAt (p : Addr) (w : World) : (method (Tryz.prog.types.size + Made.depth) 38 (.pointer (some p)) "ReadAt").run Tryz.prog w = .ok (118, .pointer (some p)) w := by kernel_rfl
theorem naRdr_Read (p : Addr) (w : World) : (nilAhead (Tryz.prog.types.size + Made.depth) 38 (.pointer (some p)) "Read").run Tryz.prog w = .ok (some false) w := by kernel_rfl
theorem sz2 : (Tryz.prog.info? 2).map (·.size) = some 1 := by kernel_rfl
theorem sz28 : (Tryz.prog.info? 28).map (·.size) = some 1 := by kernel_rfl
theorem sz3 : (Tryz.prog.info? 3).map (·.size) = some 1 := by kernel_rfl
theorem sz44 : (Tryz.prog.info? 44).map (·.size) = some 1 := by kernel_rfl
theorem sz5 : (Tryz.prog.info? 5).map (·.size) = some 1 := by kernel_rfl
theorem sz50 : (Tryz.prog.info? 50).map (·.size) = some 1 := by kernel_rfl
theorem sz85 : (Tryz.prog.info? 85).map (·.size) = some 0 := by kernel_rfl
end Go.Proofs.YtajgdpiodpoooaaGreatDoor.Vm
