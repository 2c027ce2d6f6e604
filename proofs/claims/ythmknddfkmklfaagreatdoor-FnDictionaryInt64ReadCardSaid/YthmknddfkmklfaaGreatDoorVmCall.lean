/- Type assertions, and calls of bound methods, over the layer Vm. -/
import Derived.Test.YthmknddfkmklfaaGreatDoorVmApp
namespace Go.Proofs.YthmknddfkmklfaaGreatDoor.Vm
open Go Mix Go.RowKit
section
variable {X : Cx} {m : Option (List Nat)} {ops : Array Oper} {rest : List Oper} {ks : List KI} {ds : List Deferred} {l : Kn} {w : World} {d ty : Nat} {pos : String} {aft : Array Edge} {v : Value}
/-- a type assertion whose outcome a closed fact tells -/
theorem WR.assertV {x : Operand} {u : Value} {xT aT : TypeId} {ok : Bool} (hx : ev l x = some u) (hr : ∀ w, (Instr.typeAssert u xT aT ok).run X.P w = .ok v w) (hc : stillOK m (.typeAssert x xT aT ok) ty = true) (hd : Nat.blt d X.n = true)
    (kk : WR X m ops rest ks ds ((d, v) :: l) w) : WR X m ops (⟨some d, .typeAssert x xT aT ok, ty, pos, aft, none⟩ :: rest) ks ds l w :=
  WR.still hd hc (fun a ha => by simp only [execOp, ha.ev hx, Sem.run_bind, hr, Result.andThen_ok, Sem.run_pure]) kk
theorem WR.assertE {x : Operand} {u : Value} {xT aT : TypeId} {ok : Bool} (hx : ev l x = some u) (hr : ∀ w, (Instr.typeAssert u xT aT ok).run X.P w = .ok v w) (hc : eventOK m (.typeAssert x xT aT ok) ty = true) (hd : Nat.blt d X.n = true)
    (kk : WR X m ops rest ks ds ((d, v) :: l) w) : WR X m ops (⟨some d, .typeAssert x xT aT ok, ty, pos, aft, none⟩ :: rest) ks ds l w :=
  WR.event hd hc (fun a ha => by simp only [execOp, ha.ev hx, Sem.run_bind, hr, Result.andThen_ok, Sem.run_pure]) kk
/-- a function's value put together -/
theorem WR.mkFunc {fn : Fn} {first : Array Operand} {fs : List Operand} {vs : List Value} (hf : first = fs.toArray) (hv : evs l fs = some vs) (hd : Nat.blt d X.n = true) (kk : WR X m ops rest ks ds ((d, .func fn vs.toArray #[]) :: l) w) :
    WR X m ops (⟨some d, .makeFunc fn first #[], ty, pos, aft, none⟩ :: rest) ks ds l w :=
  WR.still hd (by cases m <;> rfl) (fun a ha => by
    have he := evs_of ha hv
    subst hf
    simp [execOp, Instr.makeFunc, he]) kk
/-- a call of a function's value that has its first arguments with it -/
theorem WR.callB {f : FuncId} {o : Operand} {args : Array Operand} {tys : Array TypeId} {as : List Operand} {fs vs : List Value} {R : Value → World → Prop} (ho : ev l o = some (.func (.func f) fs.toArray #[])) (has : args = as.toArray) (hv : evs l as = some vs) (hf : ∀ (us : Array Value) (w : World), (callFunc f us).run X.P w = .ok (.enter f us) w)
    (hc : eventOK m (.call ⟨.value o, args, tys⟩) ty = true) (hd : Nat.blt d X.n = true) (hcall : Ret X.P f (fs ++ vs).toArray w R) (k : ∀ v w', R v w' → WR X m ops rest ks ds ((d, v) :: l) w') :
    WR X m ops (⟨some d, .call ⟨.value o, args, tys⟩, ty, pos, aft, none⟩ :: rest) ks ds l w :=
  WR.call hd hc (fun a ha => by
    have he := evs_of ha hv
    subst has
    simp only [execOp, resolve, Deferred.ofValue, ha.ev ho, Sem.run_bind, Sem.run_pure, Result.andThen_ok, Go.invoke, List.map_toArray, he, Array.append_empty]
    rw [show fs.toArray ++ vs.toArray = (fs ++ vs).toArray by simp]
    exact hf _ _) hcall k
/-- a call of a method's value behind an interface whose dynamic type is known -/
theorem WR.callM {f : FuncId} {o : Operand} {name : String} {T : TypeId} {p : Addr} {args : Array Operand} {tys : Array TypeId} {as : List Operand} {vs : List Value} {R : Value → World → Prop} (ho : ev l o = some (.func (.method name) #[.iface T (.pointer (some p))] #[])) (has : args = as.toArray) (hv : evs l as = some vs)
    (hm : ∀ (p : Addr) (w : World), (method (X.P.types.size + Made.depth) T (.pointer (some p)) name).run X.P w = .ok (f, .pointer (some p)) w) (hf : ∀ (us : Array Value) (w : World), (callFunc f us).run X.P w = .ok (.enter f us) w)
    (hc : eventOK m (.call ⟨.value o, args, tys⟩) ty = true) (hd : Nat.blt d X.n = true) (hcall : Ret X.P f (Value.pointer (some p) :: vs).toArray w R) (k : ∀ v w', R v w' → WR X m ops rest ks ds ((d, v) :: l) w') :
    WR X m ops (⟨some d, .call ⟨.value o, args, tys⟩, ty, pos, aft, none⟩ :: rest) ks ds l w :=
  WR.call hd hc (fun a ha => by
    have he := evs_of ha hv
    subst has
    simp only [execOp, resolve, Deferred.ofValue, ha.ev ho, Sem.run_bind, Sem.run_pure, Result.andThen_ok, Go.invoke, List.map_toArray, he]
    have hx : (#[Value.iface T (.pointer (some p))] ++ vs.toArray)[0]? = some (Value.iface T (.pointer (some p))) := by simp
    have hy : (#[Value.iface T (.pointer (some p))] ++ vs.toArray).extract 1 (#[Value.iface T (.pointer (some p))] ++ vs.toArray).size = vs.toArray := by simp
    rw [hx, hy]
    have hp : (program).run X.P w = .ok X.P w := rfl
    simp only [callMethod, Sem.run_bind, hp, Result.andThen_ok, hm]
    rw [show #[Value.pointer (some p)] ++ vs.toArray = (Value.pointer (some p) :: vs).toArray by simp]
    exact hf _ _) hcall k
end
theorem run_resC1 {P : Program} {fn : Func} {a1 t1 : Nat} {D1 : TypeDesc} {p1 : Addr} {v1 : Value} {tmps : Array Value} {w : World} (hrs : fn.results = #[.cell a1 t1]) (h1 : tmps.getD a1 undef = .pointer (some p1))
    (hu1 : P.underlying t1 = some D1) (hD1 : plainD D1 = true) (hc1 : w.cell? p1 = some v1) : (results fn tmps).run P w = .ok v1 w := by
  have ha1 : (asAddr (tmps.getD a1 undef)).run P w = .ok p1 w := by rw [h1]; rfl
  have hl1 : (loadVar t1 p1).run P w = .ok v1 w := by
    simp only [loadVar, Sem.run_bind, run_isAgg hu1 hD1, Result.andThen_ok]
    simp [hc1]
  unfold results
  rw [hrs, show (#[ResultVar.cell a1 t1] : Array ResultVar) = [ResultVar.cell a1 t1].toArray from rfl, List.mapM_toArray]
  simp only [map_eq_pure_bind, Sem.run_bind, List.mapM_cons, List.mapM_nil, Sem.run_pure, Result.andThen_ok, ha1, hl1]
  simp
/-- the way out of a function whose one result lies in a cell -/
theorem WC.retC1 {P : Program} {fn : Func} {R : Value → World → Prop} {n : Nat} {ks : List KI} {l : Kn} {w : World} {a1 t1 : Nat} {D1 : TypeDesc} {p1 : Addr} {v1 : Value} (hrs : fn.results = #[.cell a1 t1]) (h1 : look l a1 = some (.pointer (some p1)))
    (hu1 : P.underlying t1 = some D1) (hD1 : plainD D1 = true) (hc1 : w.cell? p1 = some v1) (h : R v1 w) :
    WC ⟨P, n, bodyPost P fn fun e w' => ∃ v, e = .returned v ∧ R v w'⟩ .ret ks [] l w :=
  WC.ret fun a ha => ⟨ha.defers, _, run_resC1 hrs (ha.get _ _ h1) hu1 hD1 hc1, _, rfl, h⟩
end Go.Proofs.YthmknddfkmklfaaGreatDoor.Vm
