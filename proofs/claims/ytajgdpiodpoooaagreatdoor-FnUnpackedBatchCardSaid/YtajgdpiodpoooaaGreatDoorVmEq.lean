/- A nil interface compared with a loaded one. -/
import Derived.Test.YtajgdpiodpoooaaGreatDoorVmMake
namespace Go.Proofs.YtajgdpiodpoooaaGreatDoor.Vm
open Go Mix Go.RowKit
section
variable {X : Cx} {m : Option (List Nat)} {ops : Array Oper} {rest : List Oper} {ks : List KI} {ds : List Deferred} {l : Kn} {w : World} {d ty : Nat} {pos : String} {aft : Array Edge}
theorem run_equal_nilL {P : Program} {t T : TypeId} {ms : Array (String × TypeId)} {u : Value} (hu : P.underlying t = some (.interface ms)) (w : World) : (Op.equal t .nilIface (.iface T u)).run P w = .ok false w := by
  unfold Op.equal
  rw [show Op.maxDepth = 9999 + 1 from rfl]
  unfold Op.equalIn
  simp only [Sem.run_bind, run_underlying hu, Result.andThen_ok]
  rfl
theorem WR.eqlNilL {t t' T : TypeId} {x y : Operand} {u : Value} {ms : Array (String × TypeId)} (hx : ev l x = some .nilIface) (hy : ev l y = some (.iface T u)) (hu : X.P.underlying t = some (.interface ms)) (hd : Nat.blt d X.n = true)
    (kk : WR X m ops rest ks ds ((d, .bool false) :: l) w) : WR X m ops (⟨some d, .binOp .eql t x y t', ty, pos, aft, none⟩ :: rest) ks ds l w :=
  WR.still hd (by cases m <;> rfl) (fun a ha => by
    simp only [execOp, ha.ev hx, ha.ev hy, Sem.run_bind]
    have hg : (eqGuard .eql t x y .nilIface (.iface T u)).run X.P w = .ok () w := rfl
    rw [hg]
    have he := run_equal_nilL (T := T) (u := u) hu w
    simp [binOp, he]) kk
end
end Go.Proofs.YtajgdpiodpoooaaGreatDoor.Vm
