/- Addresses of elements, slices of slices, calls, lengths, for the layer Vm. -/
import Derived.Test.YtccicbpeajdjgaaGreatDoorQVmMem
import Derived.Test.YtccicbpeajdjgaaGreatDoorQVm
import Derived.Laws.IdiomCopy
import Derived.Laws.MakeOwn
import Derived.Laws.OwnMore
set_option linter.unusedVariables false
set_option linter.unusedSimpArgs false
namespace Go.Proofs.YtccicbpeajdjgaaGreatDoor.Vm
open Go Mix Go.RowKit
def evs (l : Kn) : List Operand → Option (List Value)
 | [] => some []
 | x :: xs => match ev l x, evs l xs with
  | some v, some vs => some (v :: vs)
  | _, _ => none
theorem eX {a : Act} {n : Nat} {ds : List Deferred} {l : Kn} (h : Fr a n ds l) : ∀ {xs : List Operand} {vs : List Value}, evs l xs = some vs → xs.map a.eval = vs
 | [], vs, he => by simp only [evs, Option.some.injEq] at he; subst he; rfl
 | x :: xs, vs, he => by
  unfold evs at he;cases hx : ev l x with
  | none => rw [hx] at he; cases he
  | some v =>
   cases hr : evs l xs with
   | none => rw [hx, hr] at he; cases he
   | some us =>
    rw [hx, hr] at he;simp only [Option.some.injEq] at he;subst he;rw [List.map_cons, h.ev hx, eX h hr]
section
variable {X : Cx} {m : Option (List Nat)} {ops : Array Oper} {rest : List Oper} {ks : List KI} {ds : List Deferred} {l : Kn} {w : World} {d ty : Nat} {pos : String} {aft : Array Edge} {v : Value}
theorem eR (b o n : Nat) : (⟨b, o, none⟩ : Addr).add n = ⟨b, o + n, none⟩ := by
 unfold Addr.add
 split
 ·subst n; rfl
 ·rfl
/-- an element's address in a slice -/
theorem cC {T E s : Nat} {x i : Operand} {b o len cap : Nat} {k : IntKind} {j : Int} (hx : ev l x = some (.slice (some ⟨b, o, none⟩) len cap)) (hi : ev l i = some (.int k j)) (hu : X.P.underlying T = some (.slice E)) (hs : (X.P.info? E).map (·.size) = some s)
 (h0 : 0 ≤ j) (h1 : j < (len : Int)) (hd : Nat.blt d X.n = true) (kk : WR X m ops rest ks ds ((d, .pointer (some ⟨b, o + j.toNat * s, none⟩)) :: l) w) : WR X m ops (⟨some d, .indexAddr T x i, ty, pos, aft, none⟩ :: rest) ks ds l w :=
 cY hd (by cases m <;> rfl) (fun a ha => by
  simp only [execOp, ha.ev hx, ha.ev hi, Instr.indexAt, asIntOf, Sem.run_bind, Sem.run_pure, Result.andThen_ok, run_underlying hu];rw [if_pos ⟨h0, h1⟩]
  simp [dP hs, eR]) kk
/-- .. in an array behind an address -/
theorem mG {T E s n : Nat} {x i : Operand} {b o : Nat} {k : IntKind} {j : Int} (hx : ev l x = some (.pointer (some ⟨b, o, none⟩))) (hi : ev l i = some (.int k j)) (hu : X.P.underlying T = some (.array n E)) (hs : (X.P.info? E).map (·.size) = some s)
 (h0 : 0 ≤ j) (h1 : j < (n : Int)) (hd : Nat.blt d X.n = true) (kk : WR X m ops rest ks ds ((d, .pointer (some ⟨b, o + j.toNat * s, none⟩)) :: l) w) : WR X m ops (⟨some d, .indexAddr T x i, ty, pos, aft, none⟩ :: rest) ks ds l w :=
 cY hd (by cases m <;> rfl) (fun a ha => by
  simp only [execOp, ha.ev hx, ha.ev hi, Instr.indexAt, asIntOf, Instr.sureAddr, Sem.run_bind, Sem.run_pure, Result.andThen_ok, run_underlying hu];rw [if_pos ⟨h0, h1⟩]
  simp [dP hs, eR]) kk
/-- a bound of a slice expression -/
def bnd (l : Kn) (dflt : Nat) : Option Operand → Option Nat
 | none => some dflt
 | some x => match ev l x with
  | some (.int _ j) => if 0 ≤ j then some j.toNat else none
  | _ => none
theorem jP {P : Program} {k : IntKind} {j : Int} {y : Nat} {c : BoundsCode} (h0 : 0 ≤ j) (h1 : j ≤ (y : Int)) (w : World) : (Instr.sliceBound (.int k j) y c).run P w = .ok j.toNat w := by
 simp [Instr.sliceBound, asIntOf, h0, h1]
theorem gW {P : Program} {isS : Bool} {len cap lo hi : Nat} {L H : Option Value} {w : World}
 (hH : match H with | none => hi = len | some u => ∃ k j, u = .int k j ∧ 0 ≤ j ∧ j ≤ (cap : Int) ∧ hi = j.toNat) (hL : match L with | none => lo = 0 | some u => ∃ k j, u = .int k j ∧ 0 ≤ j ∧ j ≤ (hi : Int) ∧ lo = j.toNat) :
 (Instr.sliceBounds isS len cap L H none).run P w = .ok (lo, hi, cap) w := by
 cases H with
 | none =>
  subst hH;cases L with
  | none => subst hL; simp [Instr.sliceBounds]
  | some u => obtain ⟨k, j, rfl, h0, h1, rfl⟩ := hL; simp [Instr.sliceBounds, jP h0 h1]
 | some u' =>
  obtain ⟨k', j', rfl, h0', h1', rfl⟩ := hH;cases L with
  | none => subst hL; simp [Instr.sliceBounds, jP h0' h1']
  | some u => obtain ⟨k, j, rfl, h0, h1, rfl⟩ := hL; simp [Instr.sliceBounds, jP h0' h1', jP h0 h1]
def bndH (l : Kn) (len cap hi : Nat) : Option Operand → Prop
 | none => hi = len
 | some x => ∃ k j, ev l x = some (.int k j) ∧ 0 ≤ j ∧ j ≤ (cap : Int) ∧ hi = j.toNat
def bndL (l : Kn) (lo hi : Nat) : Option Operand → Prop
 | none => lo = 0
 | some x => ∃ k j, ev l x = some (.int k j) ∧ 0 ≤ j ∧ j ≤ (hi : Int) ∧ lo = j.toNat
theorem jL {a : Act} {n : Nat} (ha : Fr a n ds l) {len cap hi : Nat} {H : Option Operand} (h : bndH l len cap hi H) : match H.map a.eval with | none => hi = len | some u => ∃ k j, u = .int k j ∧ 0 ≤ j ∧ j ≤ (cap : Int) ∧ hi = j.toNat := by
 cases H with
 | none => exact h
 | some x => obtain ⟨k, j, he, h1⟩ := h; exact ⟨k, j, ha.ev he, h1⟩
theorem jK {a : Act} {n : Nat} (ha : Fr a n ds l) {lo hi : Nat} {L : Option Operand} (h : bndL l lo hi L) : match L.map a.eval with | none => lo = 0 | some u => ∃ k j, u = .int k j ∧ 0 ≤ j ∧ j ≤ (hi : Int) ∧ lo = j.toNat := by
 cases L with
 | none => exact h
 | some x => obtain ⟨k, j, he, h1⟩ := h; exact ⟨k, j, ha.ev he, h1⟩
/-- x[L:H] of a slice -/
theorem gZ {T E s : Nat} {x : Operand} {L H : Option Operand} {b o len cap lo hi : Nat} (hx : ev l x = some (.slice (some ⟨b, o, none⟩) len cap)) (hu : X.P.underlying T = some (.slice E)) (hs : (X.P.info? E).map (·.size) = some s)
 (hH : bndH l len cap hi H) (hL : bndL l lo hi L) (hd : Nat.blt d X.n = true)
 (kk : WR X m ops rest ks ds ((d, .slice (some ⟨b, if cap = lo then o else o + lo * s, none⟩) (hi - lo) (cap - lo)) :: l) w) : WR X m ops (⟨some d, .slice T x L H none, ty, pos, aft, none⟩ :: rest) ks ds l w :=
 cY hd (by cases m <;> rfl) (fun a ha => by
  simp only [execOp, ha.ev hx, Instr.sliceAt, Instr.slice, Option.map_none, Sem.run_bind, Sem.run_pure, Result.andThen_ok, run_underlying hu, gW (jL ha hH) (jK ha hL), dP hs]
  split <;> simp_all [eR]) kk
/-- x[L:H] of an array behind an address -/
theorem WR.sliceA {T E s n : Nat} {x : Operand} {L H : Option Operand} {b o lo hi : Nat} (hx : ev l x = some (.pointer (some ⟨b, o, none⟩))) (hu : X.P.underlying T = some (.array n E)) (hs : (X.P.info? E).map (·.size) = some s)
 (hH : bndH l n n hi H) (hL : bndL l lo hi L) (hd : Nat.blt d X.n = true)
 (kk : WR X m ops rest ks ds ((d, .slice (some ⟨b, if n = lo then o else o + lo * s, none⟩) (hi - lo) (n - lo)) :: l) w) : WR X m ops (⟨some d, .slice T x L H none, ty, pos, aft, none⟩ :: rest) ks ds l w :=
 cY hd (by cases m <;> rfl) (fun a ha => by
  simp only [execOp, ha.ev hx, Instr.sliceAt, Instr.sureAddr, Option.map_none, Sem.run_bind, Sem.run_pure, Result.andThen_ok, run_underlying hu, gW (jL ha hH) (jK ha hL), dP hs]
  split <;> simp_all [eR]) kk
/-- a call of a named function -/
theorem aR {f : FuncId} {args : Array Operand} {tys : Array TypeId} {as : List Operand} {vs : List Value} {R : Value → World → Prop} (has : args = as.toArray) (hv : evs l as = some vs) (hf : ∀ (us : Array Value) (w : World), (callFunc f us).run X.P w = .ok (.enter f us) w)
 (hc : eventOK m (.call ⟨.value (.func f), args, tys⟩) ty = true) (hd : Nat.blt d X.n = true) (hcall : Ret X.P f vs.toArray w R) (k : ∀ v w', R v w' → WR X m ops rest ks ds ((d, v) :: l) w') :
 WR X m ops (⟨some d, .call ⟨.value (.func f), args, tys⟩, ty, pos, aft, none⟩ :: rest) ks ds l w :=
 jY hd hc (fun a ha => by
  have he := eX ha hv;subst has;simp only [execOp, resolve, Deferred.ofValue, Act.eval, Sem.run_bind, Sem.run_pure, Result.andThen_ok, invoke, List.map_toArray, he, Array.append_empty, Array.empty_append]
  exact hf _ _) hcall k
theorem WR.callFS {f : FuncId} {args : Array Operand} {tys : Array TypeId} {as : List Operand} {vs : List Value} {u : Value} (has : args = as.toArray) (hv : evs l as = some vs) (hf : ∀ (us : Array Value) (w : World), (callFunc f us).run X.P w = .ok (.enter f us) w)
 (hc : stillOK m (.call ⟨.value (.func f), args, tys⟩) ty = true) (hd : Nat.blt d X.n = true) (hcall : Ret X.P f vs.toArray w fun v w' => v = u ∧ w' = w) (k : WR X m ops rest ks ds ((d, u) :: l) w) :
 WR X m ops (⟨some d, .call ⟨.value (.func f), args, tys⟩, ty, pos, aft, none⟩ :: rest) ks ds l w :=
 xA hd hc (fun a ha => by
  have he := eX ha hv;subst has;simp only [execOp, resolve, Deferred.ofValue, Act.eval, Sem.run_bind, Sem.run_pure, Result.andThen_ok, invoke, List.map_toArray, he, Array.append_empty, Array.empty_append]
  exact hf _ _) hcall k
/-- a call of a function's value that is known -/
theorem cU {f : FuncId} {o : Operand} {args : Array Operand} {tys : Array TypeId} {as : List Operand} {vs : List Value} {R : Value → World → Prop} (ho : ev l o = some (.func (.func f) #[] #[])) (has : args = as.toArray) (hv : evs l as = some vs) (hf : ∀ (us : Array Value) (w : World), (callFunc f us).run X.P w = .ok (.enter f us) w)
 (hc : eventOK m (.call ⟨.value o, args, tys⟩) ty = true) (hd : Nat.blt d X.n = true) (hcall : Ret X.P f vs.toArray w R) (k : ∀ v w', R v w' → WR X m ops rest ks ds ((d, v) :: l) w') :
 WR X m ops (⟨some d, .call ⟨.value o, args, tys⟩, ty, pos, aft, none⟩ :: rest) ks ds l w :=
 jY hd hc (fun a ha => by
  have he := eX ha hv;subst has;simp only [execOp, resolve, Deferred.ofValue, ha.ev ho, Sem.run_bind, Sem.run_pure, Result.andThen_ok, invoke, List.map_toArray, he, Array.append_empty, Array.empty_append]
  exact hf _ _) hcall k
/-- a call through an interface whose dynamic type is known -/
theorem WR.invoke {f : FuncId} {o : Operand} {name : String} {T : TypeId} {p : Addr} {args : Array Operand} {tys : Array TypeId} {as : List Operand} {vs : List Value} {R : Value → World → Prop} (ho : ev l o = some (.iface T (.pointer (some p)))) (has : args = as.toArray) (hv : evs l as = some vs)
 (hm : ∀ (p : Addr) (w : World), (method (X.P.types.size + Made.depth) T (.pointer (some p)) name).run X.P w = .ok (f, .pointer (some p)) w) (hf : ∀ (us : Array Value) (w : World), (callFunc f us).run X.P w = .ok (.enter f us) w)
 (hc : eventOK m (.call ⟨.invoke o name, args, tys⟩) ty = true) (hd : Nat.blt d X.n = true) (hcall : Ret X.P f (Value.pointer (some p) :: vs).toArray w R) (k : ∀ v w', R v w' → WR X m ops rest ks ds ((d, v) :: l) w') :
 WR X m ops (⟨some d, .call ⟨.invoke o name, args, tys⟩, ty, pos, aft, none⟩ :: rest) ks ds l w :=
 jY hd hc (fun a ha => by
  have he := eX ha hv;subst has;simp only [execOp, resolve, ha.ev ho, Sem.run_bind, Sem.run_pure, Result.andThen_ok, Go.invoke, List.map_toArray, he];have hx : (#[Value.iface T (.pointer (some p))] ++ vs.toArray)[0]? = some (Value.iface T (.pointer (some p))) := by simp
  have hy : (#[Value.iface T (.pointer (some p))] ++ vs.toArray).extract 1 (#[Value.iface T (.pointer (some p))] ++ vs.toArray).size = vs.toArray := by simp
  rw [hx, hy];have hp : (program).run X.P w = .ok X.P w := rfl;simp only [callMethod, Sem.run_bind, hp, Result.andThen_ok, hm];rw [show #[Value.pointer (some p)] ++ vs.toArray = (Value.pointer (some p) :: vs).toArray by simp]
  exact hf _ _) hcall k
/-- len, cap of a slice -/
theorem bB {x : Operand} {T : TypeId} {A : Option Addr} {n c E : Nat} (hx : ev l x = some (.slice A n c)) (hu : X.P.underlying T = some (.slice E)) (hd : Nat.blt d X.n = true) (k : WR X m ops rest ks ds ((d, .int .i64 n) :: l) w) :
 WR X m ops (⟨some d, .call ⟨.builtin .len, #[x], #[T]⟩, ty, pos, aft, none⟩ :: rest) ks ds l w :=
 cY hd (by cases m <;> rfl) (fun a ha => by
  simp only [execOp, resolve, Sem.run_bind, Sem.run_pure, Result.andThen_ok, Go.invoke, builtin, List.map_toArray, List.map_cons, List.map_nil, ha.ev hx]
  simp [Builtin.len_, goInt, run_underlying hu]) k
/-- min of two integers -/
theorem WR.min2 {x y : Operand} {tys : Array TypeId} {k : IntKind} {a b : Int} (hx : ev l x = some (.int k a)) (hy : ev l y = some (.int k b)) (hd : Nat.blt d X.n = true) (kk : WR X m ops rest ks ds ((d, .int k (if b < a then b else a)) :: l) w) :
 WR X m ops (⟨some d, .call ⟨.builtin .min, #[x, y], tys⟩, ty, pos, aft, none⟩ :: rest) ks ds l w :=
 cY hd (by cases m <;> rfl) (fun c hc => by
  simp only [execOp, resolve, Sem.run_bind, Sem.run_pure, Result.andThen_ok, Go.invoke, builtin, List.map_toArray, List.map_cons, List.map_nil, hc.ev hx, hc.ev hy]
  simp [Builtin.min_, Builtin.min2]) kk
end
end Go.Proofs.YtccicbpeajdjgaaGreatDoor.Vm
namespace Go.Proofs.YtccicbpeajdjgaaGreatDoor.Vm
open Go Mix Go.RowKit
section
variable {w w' : World} {b t n i : Nat} {f : Nat → Value} {v : Value} {S : List Nat}
theorem Row.set' (h : Row w b t n f) {i : Nat} {v : Value} (hw : w' = w.setCell ⟨b, i, none⟩ v) : Row w' b t n (upd f i v) := by rw [hw]; exact h.set i v
theorem Row.drew (h : Row w b t n f) : Row w.drew b t n f := h
theorem Rd.drew {o : Nat} (h : Rd w b o n f) : Rd w.drew b o n f := h
end
section
variable {X : Cx} {m : Option (List Nat)} {ops : Array Oper} {rest : List Oper} {ks : List KI} {ds : List Deferred} {l : Kn} {w : World} {d ty : Nat} {pos : String} {aft : Array Edge} {v : Value}
theorem cM {t : TypeId} {x y : Operand} {p : Addr} {old : Value} (hx : ev l x = some (.pointer (some p))) (hy : ev l y = some v) (h1 : v.oneCell' = true) (hs : (X.P.info? t).map (·.size) = some 1) (hc : w.cell? p = some old) (hf : w.frozen? p = false)
 (k : ∀ w', w' = w.setCell p v → Same [p.block] w w' → WR X m ops rest ks ds l w') : WR X m ops (⟨none, .store t x y, ty, pos, aft, none⟩ :: rest) ks ds l w :=
 wV hx hy h1 hs hc hf (k _ rfl (Same.setCell w p v))
def notNil : Value → Option Bool
 | .nilIface => some false
 | .iface _ _ => some true
 | _ => none
theorem kB {P : Program} {t : TypeId} {ms : Array (String × TypeId)} {u : Value} {c : Bool} (hu : P.underlying t = some (.interface ms)) (hn : notNil u = some c) (w : World) : (Op.equal t u .nilIface).run P w = .ok (!c) w := by
 unfold Op.equal;rw [show Op.maxDepth = 9999 + 1 from rfl];unfold Op.equalIn;simp only [Sem.run_bind, run_underlying hu, Result.andThen_ok]
 cases u <;> simp [notNil] at hn <;> subst hn <;> rfl
theorem nX {t t' : TypeId} {x : Operand} {u : Value} {c : Bool} {ms : Array (String × TypeId)} (hx : ev l x = some u) (hn : notNil u = some c) (hu : X.P.underlying t = some (.interface ms)) (hd : Nat.blt d X.n = true)
 (kk : WR X m ops rest ks ds ((d, .bool c) :: l) w) : WR X m ops (⟨some d, .binOp .neq t x (.const .nilIface) t', ty, pos, aft, none⟩ :: rest) ks ds l w :=
 cY hd (by cases m <;> rfl) (fun a ha => by
  have hcn : a.eval (.const .nilIface) = .nilIface := rfl;simp only [execOp, ha.ev hx, hcn, Sem.run_bind]
  have hg : (eqGuard .neq t x (.const .nilIface) u .nilIface).run X.P w = .ok () w := by
   unfold eqGuard
   cases u <;> simp [notNil] at hn <;> simp
  rw [hg];have he := kB hu hn w
  cases u <;> simp [notNil] at hn <;> subst hn <;> simp [binOp, he]) kk
theorem WR.eqlNil {t t' : TypeId} {x : Operand} {u : Value} {c : Bool} {ms : Array (String × TypeId)} (hx : ev l x = some u) (hn : notNil u = some c) (hu : X.P.underlying t = some (.interface ms)) (hd : Nat.blt d X.n = true)
 (kk : WR X m ops rest ks ds ((d, .bool (!c)) :: l) w) : WR X m ops (⟨some d, .binOp .eql t x (.const .nilIface) t', ty, pos, aft, none⟩ :: rest) ks ds l w :=
 cY hd (by cases m <;> rfl) (fun a ha => by
  have hcn : a.eval (.const .nilIface) = .nilIface := rfl;simp only [execOp, ha.ev hx, hcn, Sem.run_bind]
  have hg : (eqGuard .eql t x (.const .nilIface) u .nilIface).run X.P w = .ok () w := by
   unfold eqGuard
   cases u <;> simp [notNil] at hn <;> simp
  rw [hg];have he := kB hu hn w
  cases u <;> simp [notNil] at hn <;> subst hn <;> simp [binOp, he]) kk
theorem uU {P : Program} {t T E s : Nat} {ms : Array (String × TypeId)} (hu : P.underlying t = some (.interface ms)) (hc : (P.info? T).map (·.comparable) = some true) (hT : P.underlying T = some (.pointer E)) (hs : (P.info? E).map (·.size) = some (s + 1)) (p : Addr) (w : World) :
 (Op.equal t (.iface T (.pointer (some p))) (.iface T (.pointer (some p)))).run P w = .ok true w := by
 unfold Op.equal;rw [show Op.maxDepth = 9998 + 1 + 1 from rfl];unfold Op.equalIn;cases hi : P.info? T with
 | none => rw [hi] at hc; cases hc
 | some i =>
  rw [hi] at hc;simp only [Option.map_some, Option.some.injEq] at hc
  have hti : (typeInfo T).run P w = .ok i w := by unfold typeInfo; simp [Sem.run_bind, hi]
  simp only [Sem.run_bind, run_underlying hu, Result.andThen_ok, hti, hc, ne_eq, not_true_eq_false, if_false, Bool.not_true, Bool.false_eq_true];unfold Op.equalIn;simp only [Sem.run_bind, run_underlying hT, Result.andThen_ok, dP hs]
  simp [sameAddr]
/-- the same pointer behind two interface values: a closed fact of the type says that it is found the same -/
theorem WR.binI {o : BinOp} {t t' T T' : TypeId} {x y : Operand} {p q : Addr} {c : Bool} (hx : ev l x = some (.iface T (.pointer (some p)))) (hy : ev l y = some (.iface T' (.pointer (some q))))
 (ho : o = .eql ∨ o = .neq) (he : (Op.equal t (.iface T (.pointer (some p))) (.iface T' (.pointer (some q)))).run X.P w = .ok c w) (hd : Nat.blt d X.n = true)
 (kk : WR X m ops rest ks ds ((d, .bool (if o = .eql then c else !c)) :: l) w) : WR X m ops (⟨some d, .binOp o t x y t', ty, pos, aft, none⟩ :: rest) ks ds l w :=
 cY hd (by cases m <;> rfl) (fun a ha => by
  simp only [execOp, ha.ev hx, ha.ev hy, Sem.run_bind];rcases ho with rfl | rfl
  ·have hg : (eqGuard .eql t x y (.iface T (.pointer (some p))) (.iface T' (.pointer (some q)))).run X.P w = .ok () w := rfl
   rw [hg]; simp [binOp, he]
  ·have hg : (eqGuard .neq t x y (.iface T (.pointer (some p))) (.iface T' (.pointer (some q)))).run X.P w = .ok () w := rfl
   rw [hg]; simp [binOp, he]) kk
def isIfaceD : TypeDesc → Bool
 | .interface _ => true
 | _ => false
theorem fN {t : TypeId} {x : Operand} {D : TypeDesc} (hx : ev l x = some v) (hu : X.P.underlying t = some D) (hD : isIfaceD D = false) (hd : Nat.blt d X.n = true) (kk : WR X m ops rest ks ds ((d, .iface t v) :: l) w) :
 WR X m ops (⟨some d, .makeInterface t x, ty, pos, aft, none⟩ :: rest) ks ds l w :=
 cY hd (by cases m <;> rfl) (fun a ha => by
  simp only [execOp, ha.ev hx, Instr.makeInterface, Sem.run_bind, run_underlying hu, Result.andThen_ok]
  cases D <;> first | rfl | cases hD) kk
theorem WR.mkMethod {name : String} {x : Operand} (hx : ev l x = some v) (hd : Nat.blt d X.n = true) (kk : WR X m ops rest ks ds ((d, .func (.method name) #[v] #[]) :: l) w) :
 WR X m ops (⟨some d, .makeFunc (.method name) #[x] #[], ty, pos, aft, none⟩ :: rest) ks ds l w :=
 cY hd (by cases m <;> rfl) (fun a ha => by simp [execOp, ha.ev hx, Instr.makeFunc]) kk
theorem WR.nilCheckF {x : Operand} {name : String} {T : TypeId} {p : Addr} (hx : ev l x = some (.func (.method name) #[.iface T (.pointer (some p))] #[]))
 (hn : ∀ (p : Addr) (w : World), (nilAhead (X.P.types.size + Made.depth) T (.pointer (some p)) name).run X.P w = .ok (some false) w) (hd : Nat.blt d X.n = true)
 (kk : WR X m ops rest ks ds ((d, .func (.method name) #[.iface T (.pointer (some p))] #[]) :: l) w) : WR X m ops (⟨some d, .nilCheck x, ty, pos, aft, none⟩ :: rest) ks ds l w :=
 cY hd (by cases m <;> rfl) (fun a ha => by
  have hp : (program).run X.P w = .ok X.P w := rfl;simp only [execOp, ha.ev hx]
  simp [hp, hn]) kk
/-- a load of a whole struct or array -/
theorem aM {t s : TypeId} {x : Operand} {b o : Nat} {D : TypeDesc} {f : Nat → Value} (hx : ev l x = some (.pointer (some ⟨b, o, none⟩))) (hu : X.P.underlying t = some D) (hD : plainD D = false) (hs : (X.P.info? t).map (·.size) = some s)
 (hc : Rd w b o s f) (hd : Nat.blt d X.n = true) (k : WR X m ops rest ks ds ((d, .agg ((List.range s).map f).toArray) :: l) w) : WR X m ops (⟨some d, .load t x, ty, pos, aft, none⟩ :: rest) ks ds l w :=
 cY hd (by cases m <;> rfl) (fun a ha => by
  have ha' : (isAgg t).run X.P w = .ok true w := by
   unfold isAgg;simp only [Sem.run_bind, run_underlying hu, Result.andThen_ok]
   cases D <;> first | rfl | cases hD
  have hl := run_loadCells_list (P := X.P) w ⟨b, o, none⟩ ((List.range s).map f) (fun j v hv => by
   rw [eR]
   have hj : j < s := by
    rcases Nat.lt_or_ge j s with h | h
    ·exact h
    ·simp [h] at hv
   rw [hc j hj]
   simpa [hj] using hv)
  simp only [List.length_map, List.length_range] at hl;simp only [execOp, ha.ev hx, Instr.loadAt, Instr.sureAddr, loadVar, Sem.run_bind, Sem.run_pure, Result.andThen_ok, ha']
  simp [dP hs, hl]) k
end
/-- a function with a stretch written over -/
def ovr (f : Nat → Value) (o : Nat) (cs : List Value) : Nat → Value := fun i => if o ≤ i ∧ i < o + cs.length then cs.getD (i - o) undef else f i
theorem Row.setCells {b t n : Nat} : ∀ (cs : List Value) (o : Nat) (w : World) (f : Nat → Value), Row w b t n f → Row (w.setCells b o cs) b t n (ovr f o cs)
 | [], o, w, f, h => h.congr fun i _ => by unfold ovr; rw [if_neg zp]
 | v :: vs, o, w, f, h => by
  have h1 := Row.setCells vs (o + 1) _ _ (h.set o v);refine Row.congr h1 fun i hi => ?_;unfold ovr upd
  by_cases h0 : o + 1 ≤ i ∧ i < o + 1 + vs.length
  ·rw [if_pos h0, if_pos zt];rw [show i - o = (i - (o + 1)) + 1 by omega]
   simp
  ·rw [if_neg h0]
   by_cases hio : i = o
   ·subst hio; simp
   ·rw [if_neg hio, if_neg zt]
theorem Same.setCells (b : Nat) : ∀ (cs : List Value) (o : Nat) (w : World), Same [b] w (w.setCells b o cs)
 | [], _, w => Same.refl _ w
 | v :: vs, o, w => (Same.setCell w ⟨b, o, none⟩ v).trans (Same.setCells b vs (o + 1) _) (fun _ hg => .inl hg)
section
variable {X : Cx} {m : Option (List Nat)} {ops : Array Oper} {rest : List Oper} {ks : List KI} {ds : List Deferred} {l : Kn} {w : World} {d ty : Nat} {pos : String} {aft : Array Edge} {v : Value}
/-- copy between two slices that are not empty -/
theorem lC {x y : Operand} {dT sT E b o dLen dCap sLen sCap t n k b2 o2 : Nat} {f g : Nat → Value} (hx : ev l x = some (.slice (some ⟨b, o, none⟩) dLen dCap)) (hy : ev l y = some (.slice (some ⟨b2, o2, none⟩) sLen sCap))
 (hu : X.P.underlying dT = some (.slice E)) (hs : (X.P.info? E).map (·.size) = some 1) (hk : k = Nat.min sLen dLen) (hb : Row w b t n f) (hfit : o + k ≤ n) (hsrc : Rd w b2 o2 k g) (h1 : ∀ i, i < k → (g i).oneCell' = true)
 (hc : eventOK m (.call ⟨.builtin .copy, #[x, y], #[dT, sT]⟩) ty = true) (hd : Nat.blt d X.n = true)
 (kk : ∀ w', Row w' b t n (ovr f o ((List.range k).map g)) → Same [b] w w' → WR X m ops rest ks ds ((d, .int .i64 k) :: l) w') :
 WR X m ops (⟨some d, .call ⟨.builtin .copy, #[x, y], #[dT, sT]⟩, ty, pos, aft, none⟩ :: rest) ks ds l w :=
 eI hd hc (w' := w.setCells b o ((List.range k).map g)) (fun a ha => by
  have hr := run_copy_cells (P := X.P) w dT sT ty E b o dLen dCap ⟨b2, o2, none⟩ sLen sCap ((List.range k).map g) hu hs (by simp [hk]) (fun j u hj => by
   rw [eR]
   have hjk : j < k := by
    rcases Nat.lt_or_ge j k with h | h
    ·exact h
    ·simp [h] at hj
   rw [hsrc j hjk]
   simpa [hjk] using hj) (fun j hj => by
   rw [hb.cell (by simp at hj; omega)]; rfl) (fun j _ => hb.fz _) (fun u hu' => by
   obtain ⟨i, hi, rfl⟩ := List.mem_map.1 hu'
   exact h1 i (List.mem_range.1 hi))
  simp only [execOp, resolve, Sem.run_bind, Sem.run_pure, Result.andThen_ok, Go.invoke, builtin, List.map_toArray, List.map_cons, List.map_nil, ha.ev hx, ha.ev hy];rw [hr]
  simp [goInt]) (kk _ (hb.setCells _ _ _ _) (Same.setCells b _ o w))
theorem iT {P : Program} {t : TypeId} {u : Value} (w : World) : (newVar t u).run P w = .ok ⟨w.heap.size, 0, none⟩ (w.alloc (.cells u.cells t)) := by
 unfold newVar newRow newObj;simp only [Sem.run_bind];rfl
/-- a new variable at its zero value -/
theorem bF {t : TypeId} (hz : ∀ w, (zeroValue t).run X.P w = .ok v w) (hc : eventOK m (.alloc t) ty = true) (hd : Nat.blt d X.n = true)
 (kk : ∀ w', w' = w.alloc (.cells v.cells t) → Same [] w w' → WR X m ops rest ks ds ((d, .pointer (some ⟨w.heap.size, 0, none⟩)) :: l) w') : WR X m ops (⟨some d, .alloc t, ty, pos, aft, none⟩ :: rest) ks ds l w :=
 eI hd hc (w' := w.alloc (.cells v.cells t)) (fun a ha => by
  simp only [execOp, Instr.alloc, Sem.run_bind, hz, Result.andThen_ok, iT, Sem.run_pure]) (kk _ rfl (Same.alloc w _))
/-- a new variable that holds a value -/
theorem cA {t : TypeId} {x : Operand} (hx : ev l x = some v) (hc : eventOK m (.box t x) ty = true) (hd : Nat.blt d X.n = true)
 (kk : ∀ w', w' = w.alloc (.cells v.cells t) → Same [] w w' → WR X m ops rest ks ds ((d, .pointer (some ⟨w.heap.size, 0, none⟩)) :: l) w') : WR X m ops (⟨some d, .box t x, ty, pos, aft, none⟩ :: rest) ks ds l w :=
 eI hd hc (w' := w.alloc (.cells v.cells t)) (fun a ha => by
  simp only [execOp, ha.ev hx, Instr.box, Sem.run_bind, iT, Result.andThen_ok, Sem.run_pure]) (kk _ rfl (Same.alloc w _))
def evps (l : Kn) : List (Nat × Operand) → Option (List (Nat × Value))
 | [] => some []
 | (i, x) :: xs => match ev l x, evps l xs with
  | some v, some vs => some ((i, v) :: vs)
  | _, _ => none
theorem kX {a : Act} {n : Nat} (h : Fr a n ds l) : ∀ {xs : List (Nat × Operand)} {vs : List (Nat × Value)}, evps l xs = some vs → xs.map (fun p => (p.1, a.eval p.2)) = vs
 | [], vs, he => by simp only [evps, Option.some.injEq] at he; subst he; rfl
 | (i, x) :: xs, vs, he => by
  unfold evps at he;cases hx : ev l x with
  | none => rw [hx] at he; cases he
  | some v =>
   cases hr : evps l xs with
   | none => rw [hx, hr] at he; cases he
   | some us =>
    rw [hx, hr] at he;simp only [Option.some.injEq] at he;subst he;rw [List.map_cons, h.ev hx, kX h hr]
/-- a struct or array put together: a closed fact of the type says what it is -/
theorem eH {t : TypeId} {parts : Array (Nat × Operand)} {ps : List (Nat × Operand)} {vs : List (Nat × Value)} (hp : parts = ps.toArray) (hv : evps l ps = some vs) (hrun : ∀ w, (Instr.build t vs.toArray).run X.P w = .ok v w) (hd : Nat.blt d X.n = true)
 (hc : eventOK m (.build t parts) ty = true) (kk : WR X m ops rest ks ds ((d, v) :: l) w) : WR X m ops (⟨some d, .build t parts, ty, pos, aft, none⟩ :: rest) ks ds l w :=
 eI hd hc (fun a ha => by
  have he := kX ha hv;subst hp;simp only [execOp, Sem.run_bind, List.map_toArray];rw [show (ps.map fun (x : Nat × Operand) => match x with | (i, x) => (i, a.eval x)) = vs from he]
  simp [hrun]) kk
end
/-- a piece of code whose ways come together behind it -/
theorem eS {α : Type} {X : Cx} {c : Code} {ks : List KI} {ds : List Deferred} {l : Kn} {w : World} (L : α → Kn) (Inv : α → World → Prop)
 (h1 : WC X c (.loop (rel X.n ds L fun _ => Inv) 1 :: ks) ds l w) (h2 : ∀ x w', Inv x w' → WN X ks ds (L x) w') : WC X c ks ds l w := fun a ha => by
 refine Code.wp_mono (fun e a' w' hq => ?_) (h1 a ha);cases e with
 | normal =>
  obtain ⟨k', _, x, hx, hI⟩ := hq;exact h2 x w' hI a' hx
 | _ => exact hq
end Go.Proofs.YtccicbpeajdjgaaGreatDoor.Vm
namespace Go.Proofs.YtccicbpeajdjgaaGreatDoor.Vm
open Go Mix Go.RowKit
/-- the slice v holds xs, one cell each, in a block of our own behind base -/
def Own (w : World) (base : Nat) (E : TypeId) (v : Value) (xs : List Value) : Prop := w.ownsRow base E 1 v xs.length xs
section
variable {w w' : World} {base : Nat} {E : TypeId} {v : Value} {xs : List Value} {S : List Nat}
theorem Own.nil (w : World) (base : Nat) (E : TypeId) : Own w base E (.slice none 0 0) [] := World.ownsRow_nil w base E 1
theorem Own.same (h : Own w base E v xs) (hs : Same S w w') (hS : ∀ g, g ∈ S → g < base ∨ w.heap.size ≤ g := by first | (simp; done) | (simp; omega) | (simp only [List.mem_singleton]; rintro g rfl hg; omega)) : Own w' base E v xs := by
 obtain ⟨hl, h | ⟨g, cap, cur, h1, h2, h3, h4⟩⟩ := h
 ·exact ⟨hl, .inl h⟩
 ·have hlt : g < w.heap.size := (Array.getElem?_eq_some_iff.1 h3).1;refine ⟨hl, .inr ⟨g, cap, cur, h1, h2, (hs.block g hlt fun hm => ?_).trans h3, h4⟩⟩
  rcases hS g hm with h | h <;> omega
/-- such a slice read: where it lies -/
theorem Own.read (h : Own w base E v xs) : v = .slice none 0 0 ∧ xs = [] ∨ ∃ g cap, v = .slice (some ⟨g, 0, none⟩) xs.length cap ∧ base ≤ g ∧ g < w.heap.size ∧ Rd w g 0 xs.length (fun i => xs.getD i undef) := by
 obtain ⟨hl, h | ⟨g, cap, cur, h1, h2, h3, h4, h5, h6, h7⟩⟩ := h
 ·exact .inl ⟨h.1, List.eq_nil_of_length_eq_zero h.2⟩
 ·refine .inr ⟨g, cap, h1, h2, (Array.getElem?_eq_some_iff.1 h3).1, fun i hi => ?_⟩
  have : cur[i]? = xs[i]? := by
   rw [← h7, List.getElem?_take, if_pos zw]
   simp
  simp [World.cell?, h3, this, hi]
end
section
variable {X : Cx} {m : Option (List Nat)} {ops : Array Oper} {rest : List Oper} {ks : List KI} {ds : List Deferred} {l : Kn} {w : World} {d ty : Nat} {pos : String} {aft : Array Edge} {v : Value}
theorem jB {T E by' : Nat} {x y : Operand} {n : Nat} {z : Value} (hx : ev l x = some (.int .i64 (n : Nat))) (hy : ev l y = some (.int .i64 (n : Nat))) (hu : X.P.underlying T = some (.slice E)) (hi : (X.P.info? E).map (fun i => (i.size, i.bytes, i.zero)) = some (1, by', some z)) (hz : z.cells = #[z]) (hby : by' ≤ 16) (hn : n ≤ 1099511627776)
 (hc : eventOK m (.makeSlice T x y) ty = true) (hd : Nat.blt d X.n = true)
 (kk : ∀ w', Row w' w.heap.size E n (fun _ => z) → Same [] w w' → WR X m ops rest ks ds ((d, .slice (some ⟨w.heap.size, 0, none⟩) n n) :: l) w') : WR X m ops (⟨some d, .makeSlice T x y, ty, pos, aft, none⟩ :: rest) ks ds l w := by
 cases hi' : X.P.info? E with
 | none => rw [hi'] at hi; cases hi
 | some i =>
  rw [hi'] at hi;simp only [Option.map_some, Option.some.injEq, Prod.mk.injEq] at hi;obtain ⟨hs, hb, hz'⟩ := hi
  have hnb : i.bytes * n ≤ 16 * 1099511627776 := by rw [hb]; exact Nat.mul_le_mul hby hn
  have hr := run_make (P := X.P) w T E i z hu hi' hz' .i64 .i64 (n : Nat) (n : Nat) zw zw (by rw [← Int.natCast_mul]; omega) zw;simp only [Int.toNat_natCast, hs, Nat.mul_one, hz] at hr;refine eI hd hc (w' := w.alloc (.cells (madeCells #[z] n) E)) (fun a ha => ?_) (kk _ ?_ (Same.alloc w _))
  ·simp only [execOp, ha.ev hx, ha.ev hy, Sem.run_bind, hr, Result.andThen_ok, Sem.run_pure]
  ·have := Row.alloc w (madeCells #[z] n) E;rw [size_madeCells] at this;refine this.congr fun j hj => ?_
   simp [madeCells, hj, Nat.mod_one]
theorem pG {t E by' : Nat} {x y : Operand} {g o k c base : Nat} {xs : List Value} {h : Nat → Value} {z : Value} (hx : ev l x = some v) (hown : Own w base E v xs) (hy : ev l y = some (.slice (some ⟨g, o, none⟩) k c)) (hrd : Rd w g o k h) (h1 : ∀ i, i < k → (h i).oneCell' = true)
 (hu : X.P.underlying t = some (.slice E)) (hi : (X.P.info? E).map (fun i => (i.size, i.bytes, i.zero)) = some (1, by', some z)) (hz : z.cells = #[z]) (hby : by' ≤ 16) (hn : xs.length + k ≤ 1099511627776) (hbase : base ≤ w.heap.size)
 (hc : eventOK m (.call ⟨.builtin .append, #[x, y], #[t, t]⟩) ty = true) (hd : Nat.blt d X.n = true)
 (kk : ∀ v' w' S, Own w' base E v' (xs ++ (List.range k).map h) → Same S w w' → (∀ g, g ∈ S → base ≤ g) → WR X m ops rest ks ds ((d, v') :: l) w') :
 WR X m ops (⟨some d, .call ⟨.builtin .append, #[x, y], #[t, t]⟩, ty, pos, aft, none⟩ :: rest) ks ds l w := by
 cases hi' : X.P.info? E with
 | none => rw [hi'] at hi; cases hi
 | some i =>
  rw [hi'] at hi;simp only [Option.map_some, Option.some.injEq, Prod.mk.injEq] at hi;obtain ⟨hs, hb, hz'⟩ := hi;have hnb : (xs.length + k) * by' ≤ 1099511627776 * 16 := Nat.mul_le_mul hn hby
  obtain ⟨v', w', hrun, ho, hg, -⟩ := run_append_own (P := X.P) w base t ty E i z 1 by' hu hi' hz' hs hb (by rw [hz]; rfl) zo v xs.length xs hown ⟨g, o, none⟩ k c ((List.range k).map h) zp
   (fun j u hj => by
    simp only [List.getElem?_map, Option.map_eq_some_iff] at hj;obtain ⟨j', hj1, rfl⟩ := hj;have hlt := List.getElem?_eq_some_iff.1 hj1;obtain ⟨hlt, rfl⟩ := hlt;simp at hlt ⊢;rw [Addr.add_lit]
    exact hrd j hlt)
   (fun u hu' => by
    obtain ⟨j, hj, rfl⟩ := List.mem_map.1 hu'
    exact h1 j (List.mem_range.1 hj))
   (by simp only [maxLen]; omega) zw hbase
  refine eI hd hc (w' := w') (fun a ha => ?_) (kk v' w' (v.ownBlock.toList) ?_ ⟨hg.size, fun q hq hqS => hg.block q hq fun e => hqS ?_, hg.os, hg.output, hg.tape⟩ ?_)
  ·simp only [execOp, resolve, Sem.run_bind, Sem.run_pure, Result.andThen_ok, Go.invoke, builtin, List.map_toArray, List.map_cons, List.map_nil, ha.ev hx, ha.ev hy, hrun]
  ·unfold Own;rw [List.length_append, List.length_map, List.length_range];exact ho
  ·rw [← e]; simp
  ·intro q hq;exact (World.ownsRow.lt hown q (by simpa using hq)).1
theorem dS {t n E : Nat} {parts : Array (Nat × Operand)} {ps : List (Nat × Operand)} {vs : List (Nat × Value)} {cs : Array Value} (hp : parts = ps.toArray) (hv : evps l ps = some vs) (hrun : ∀ w, (Instr.buildSlice t n vs.toArray).run X.P w = .ok (.slice (some ⟨w.heap.size, 0, none⟩) n n) (w.alloc (.cells cs E))) (hd : Nat.blt d X.n = true)
 (hc : eventOK m (.buildSlice t n parts) ty = true) (kk : ∀ w', Row w' w.heap.size E cs.size (fun i => cs.getD i undef) → Same [] w w' → WR X m ops rest ks ds ((d, .slice (some ⟨w.heap.size, 0, none⟩) n n) :: l) w') : WR X m ops (⟨some d, .buildSlice t n parts, ty, pos, aft, none⟩ :: rest) ks ds l w :=
 eI hd hc (fun a ha => by
  have he := kX ha hv;subst hp;simp only [execOp, Sem.run_bind, List.map_toArray];rw [show (ps.map fun (x : Nat × Operand) => match x with | (i, x) => (i, a.eval x)) = vs from he]
  simp [hrun]) (kk _ (Row.alloc w cs E) (Same.alloc w _))
/-- a guarded operation whose guard was itself passed over -/
theorem dU {op : Op} {j t : Nat} {want : Bool} (hd : Nat.blt d X.n = true) (hj : (ops[j]?).bind (·.dst) = some t) (hb : look l t = some undef)
 (k : WR X m ops rest ks ds ((d, undef) :: l) w) : WR X m ops (⟨some d, op, ty, pos, aft, some (j, want)⟩ :: rest) ks ds l w := by
 intro a ha;have hk := k _ (ha.put hd undef)
 have hwt : Region.wanted ⟨some d, op, ty, pos, aft, some (j, want)⟩ (yielded ops a.tmps) = false := by
  have hg := ha.get t _ hb;rw [Array.getD_eq_getD_getElem?] at hg;unfold Region.wanted yielded;simp only [hj];cases hq : a.tmps[t]? with
  | none => simp [hq]
  | some u => rw [hq] at hg; simp only [Option.getD_some] at hg; subst hg; simp [hq, undef]
 cases m with
 | none =>
  show wpList _ _ _ _ _ _
  unfold wpList;rw [hwt, if_neg zp];exact hk
 | some qs =>
  show wpMix _ _ _ _ _ _ _
  unfold wpMix;rw [hwt]
  split
  ·rw [if_neg zp]; exact hk
  ·rw [if_neg zp]; exact hk
end
end Go.Proofs.YtccicbpeajdjgaaGreatDoor.Vm
