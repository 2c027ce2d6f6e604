/- Closed facts of the program, by a program of ours. -/
import Derived.Test.YthmknddfkmklfaaGreatDoorVmMore
import Derived.Test.YthmknddfkmklfaaGreatDoorProg
import Derived.KernelRfl
namespace Go.Proofs.YthmknddfkmklfaaGreatDoor.Vm
open Go
theorem mixed : Tryz.prog.follows .mixedOrders = true := by kernel_rfl
theorem cf100 (us : Array Value) (w : World) : (callFunc 100 us).run Tryz.prog w = .ok (.enter 100 us) w := by kernel_rfl
theorem cf101 (us : Array Value) (w : World) : (callFunc 101 us).run Tryz.prog w = .ok (.enter 101 us) w := by kernel_rfl
theorem cf102 (us : Array Value) (w : World) : (callFunc 102 us).run Tryz.prog w = .ok (.enter 102 us) w := by kernel_rfl
theorem cf103 (us : Array Value) (w : World) : (callFunc 103 us).run Tryz.prog w = .ok (.enter 103 us) w := by kernel_rfl
theorem cf104 (us : Array Value) (w : World) : (callFunc 104 us).run Tryz.prog w = .ok (.enter 104 us) w := by kernel_rfl
theorem cf105 (us : Array Value) (w : World) : (callFunc 105 us).run Tryz.prog w = .ok (.enter 105 us) w := by kernel_rfl
theorem cf106 (us : Array Value) (w : World) : (callFunc 106 us).run Tryz.prog w = .ok (.enter 106 us) w := by kernel_rfl
theorem cf107 (us : Array Value) (w : World) : (callFunc 107 us).run Tryz.prog w = .ok (.enter 107 us) w := by kernel_rfl
theorem cf108 (us : Array Value) (w : World) : (callFunc 108 us).run Tryz.prog w = .ok (.enter 108 us) w := by kernel_rfl
theorem cf109 (us : Array Value) (w : World) : (callFunc 109 us).run Tryz.prog w = .ok (.enter 109 us) w := by kernel_rfl
theorem cf110 (us : Array Value) (w : World) : (callFunc 110 us).run Tryz.prog w = .ok (.enter 110 us) w := by kernel_rfl
theorem cf111 (us : Array Value) (w : World) : (callFunc 111 us).run Tryz.prog w = .ok (.enter 111 us) w := by kernel_rfl
theorem cf112 (us : Array Value) (w : World) : (callFunc 112 us).run Tryz.prog w = .ok (.enter 112 us) w := by kernel_rfl
theorem cf113 (us : Array Value) (w : World) : (callFunc 113 us).run Tryz.prog w = .ok (.enter 113 us) w := by kernel_rfl
theorem cf114 (us : Array Value) (w : World) : (callFunc 114 us).run Tryz.prog w = .ok (.enter 114 us) w := by kernel_rfl
theorem cf115 (us : Array Value) (w : World) : (callFunc 115 us).run Tryz.prog w = .ok (.enter 115 us) w := by kernel_rfl
theorem cf116 (us : Array Value) (w : World) : (callFunc 116 us).run Tryz.prog w = .ok (.enter 116 us) w := by kernel_rfl
theorem cf117 (us : Array Value) (w : World) : (callFunc 117 us).run Tryz.prog w = .ok (.enter 117 us) w := by kernel_rfl
theorem cf119 (us : Array Value) (w : World) : (callFunc 119 us).run Tryz.prog w = .ok (.enter 119 us) w := by kernel_rfl
theorem cf120 (us : Array Value) (w : World) : (callFunc 120 us).run Tryz.prog w = .ok (.enter 120 us) w := by kernel_rfl
theorem cf147 (us : Array Value) (w : World) : (callFunc 147 us).run Tryz.prog w = .ok (.enter 147 us) w := by kernel_rfl
theorem cf148 (us : Array Value) (w : World) : (callFunc 148 us).run Tryz.prog w = .ok (.enter 148 us) w := by kernel_rfl
theorem cf62 (us : Array Value) (w : World) : (callFunc 62 us).run Tryz.prog w = .ok (.enter 62 us) w := by kernel_rfl
theorem cf75 (us : Array Value) (w : World) : (callFunc 75 us).run Tryz.prog w = .ok (.enter 75 us) w := by kernel_rfl
theorem cf76 (us : Array Value) (w : World) : (callFunc 76 us).run Tryz.prog w = .ok (.enter 76 us) w := by kernel_rfl
theorem cf77 (us : Array Value) (w : World) : (callFunc 77 us).run Tryz.prog w = .ok (.enter 77 us) w := by kernel_rfl
theorem cf80 (us : Array Value) (w : World) : (callFunc 80 us).run Tryz.prog w = .ok (.enter 80 us) w := by kernel_rfl
theorem cf84 (us : Array Value) (w : World) : (callFunc 84 us).run Tryz.prog w = .ok (.enter 84 us) w := by kernel_rfl
theorem cf85 (us : Array Value) (w : World) : (callFunc 85 us).run Tryz.prog w = .ok (.enter 85 us) w := by kernel_rfl
theorem cf86 (us : Array Value) (w : World) : (callFunc 86 us).run Tryz.prog w = .ok (.enter 86 us) w := by kernel_rfl
theorem cf87 (us : Array Value) (w : World) : (callFunc 87 us).run Tryz.prog w = .ok (.enter 87 us) w := by kernel_rfl
theorem cf88 (us : Array Value) (w : World) : (callFunc 88 us).run Tryz.prog w = .ok (.enter 88 us) w := by kernel_rfl
theorem cf89 (us : Array Value) (w : World) : (callFunc 89 us).run Tryz.prog w = .ok (.enter 89 us) w := by kernel_rfl
theorem cf90 (us : Array Value) (w : World) : (callFunc 90 us).run Tryz.prog w = .ok (.enter 90 us) w := by kernel_rfl
theorem cf91 (us : Array Value) (w : World) : (callFunc 91 us).run Tryz.prog w = .ok (.enter 91 us) w := by kernel_rfl
theorem cf92 (us : Array Value) (w : World) : (callFunc 92 us).run Tryz.prog w = .ok (.enter 92 us) w := by kernel_rfl
theorem cf93 (us : Array Value) (w : World) : (callFunc 93 us).run Tryz.prog w = .ok (.enter 93 us) w := by kernel_rfl
theorem cf94 (us : Array Value) (w : World) : (callFunc 94 us).run Tryz.prog w = .ok (.enter 94 us) w := by kernel_rfl
theorem cf95 (us : Array Value) (w : World) : (callFunc 95 us).run Tryz.prog w = .ok (.enter 95 us) w := by kernel_rfl
theorem cf96 (us : Array Value) (w : World) : (callFunc 96 us).run Tryz.prog w = .ok (.enter 96 us) w := by kernel_rfl
theorem cf97 (us : Array Value) (w : World) : (callFunc 97 us).run Tryz.prog w = .ok (.enter 97 us) w := by kernel_rfl
theorem cf98 (us : Array Value) (w : World) : (callFunc 98 us).run Tryz.prog w = .ok (.enter 98 us) w := by kernel_rfl
theorem cf99 (us : Array Value) (w : World) : (callFunc 99 us).run Tryz.prog w = .ok (.enter 99 us) w := by kernel_rfl
theorem fa152_0 (b o : Nat) (w : World) : (Instr.fieldAt 152 (.pointer (some ⟨b, o, none⟩)) 0).run Tryz.prog w = .ok (.pointer (some ⟨b, o + 0, none⟩)) w := by kernel_rfl
theorem fa152_1 (b o : Nat) (w : World) : (Instr.fieldAt 152 (.pointer (some ⟨b, o, none⟩)) 1).run Tryz.prog w = .ok (.pointer (some ⟨b, o + 1, none⟩)) w := by kernel_rfl
theorem fa152_2 (b o : Nat) (w : World) : (Instr.fieldAt 152 (.pointer (some ⟨b, o, none⟩)) 2).run Tryz.prog w = .ok (.pointer (some ⟨b, o + 2, none⟩)) w := by kernel_rfl
theorem fa152_3 (b o : Nat) (w : World) : (Instr.fieldAt 152 (.pointer (some ⟨b, o, none⟩)) 3).run Tryz.prog w = .ok (.pointer (some ⟨b, o + 3, none⟩)) w := by kernel_rfl
theorem fa152_4 (b o : Nat) (w : World) : (Instr.fieldAt 152 (.pointer (some ⟨b, o, none⟩)) 4).run Tryz.prog w = .ok (.pointer (some ⟨b, o + 4, none⟩)) w := by kernel_rfl
theorem fa152_5 (b o : Nat) (w : World) : (Instr.fieldAt 152 (.pointer (some ⟨b, o, none⟩)) 5).run Tryz.prog w = .ok (.pointer (some ⟨b, o + 5, none⟩)) w := by kernel_rfl
theorem fa73_0 (b o : Nat) (w : World) : (Instr.fieldAt 73 (.pointer (some ⟨b, o, none⟩)) 0).run Tryz.prog w = .ok (.pointer (some ⟨b, o + 0, none⟩)) w := by kernel_rfl
theorem fa73_1 (b o : Nat) (w : World) : (Instr.fieldAt 73 (.pointer (some ⟨b, o, none⟩)) 1).run Tryz.prog w = .ok (.pointer (some ⟨b, o + 1, none⟩)) w := by kernel_rfl
theorem fa73_2 (b o : Nat) (w : World) : (Instr.fieldAt 73 (.pointer (some ⟨b, o, none⟩)) 2).run Tryz.prog w = .ok (.pointer (some ⟨b, o + 2, none⟩)) w := by kernel_rfl
theorem mtRdr_Read (p : Addr) (w : World) : (method (Tryz.prog.types.size + Made.depth) 120 (.pointer (some p)) "Read").run Tryz.prog w = .ok (147, .pointer (some p)) w := by kernel_rfl
theorem mtRdr_ReadAt (p : Addr) (w : World) : (method (Tryz.prog.types.size + Made.depth) 120 (.pointer (some p)) "ReadAt").run Tryz.prog w = .ok (148, .pointer (some p)) w := by kernel_rfl
theorem naRdr_Read (p : Addr) (w : World) : (nilAhead (Tryz.prog.types.size + Made.depth) 120 (.pointer (some p)) "Read").run Tryz.prog w = .ok (some false) w := by kernel_rfl
theorem sz109 : (Tryz.prog.info? 109).map (·.size) = some 1 := by kernel_rfl
theorem sz110 : (Tryz.prog.info? 110).map (·.size) = some 1 := by kernel_rfl
theorem sz183 : (Tryz.prog.info? 183).map (·.size) = some 0 := by kernel_rfl
theorem sz2 : (Tryz.prog.info? 2).map (·.size) = some 1 := by kernel_rfl
theorem sz3 : (Tryz.prog.info? 3).map (·.size) = some 1 := by kernel_rfl
theorem sz33 : (Tryz.prog.info? 33).map (·.size) = some 1 := by kernel_rfl
theorem sz5 : (Tryz.prog.info? 5).map (·.size) = some 1 := by kernel_rfl
end Go.Proofs.YthmknddfkmklfaaGreatDoor.Vm
