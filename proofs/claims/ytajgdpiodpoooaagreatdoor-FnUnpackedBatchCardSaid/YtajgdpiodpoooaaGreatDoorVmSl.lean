/- Addresses of elements, slices of slices, calls, lengths, for the layer Vm. -/
import Derived.Test.YtajgdpiodpoooaaGreatDoorVmMem
namespace Go.Proofs.YtajgdpiodpoooaaGreatDoor.Vm
open Go Mix Go.RowKit

def evs (l : Kn) : List Operand → Option (List Value)
  | [] => some []
  | x :: xs => match ev l x, evs l xs with
    | some v, some vs => some (v :: vs)
    | _, _ => none
theorem evs_of {a : Act} {n : Nat} {ds : List Deferred} {l : Kn} (h : Fr a n ds l) : ∀ {xs : List Operand} {vs : List Value}, evs l xs = some vs → xs.map a.eval = vs
  | [], vs, he => by simp only [evs, Option.some.injEq] at he; subst he; rfl
  | x :: xs, vs, he => by
    unfold evs at he
    cases hx : ev l x with
    | none => rw [hx] at he; cases he
    | some v =>
      cases hr : evs l xs with
      | none => rw [hx, hr] at he; cases he
      | some us =>
        rw [hx, hr] at he
        simp only [Option.some.injEq] at he
        subst he
        rw [List.map_cons, h.ev hx, evs_of h hr]

section
variable {X : Cx} {m : Option (List Nat)} {ops : Array Oper} {rest : List Oper} {ks : List KI} {ds : List Deferred} {l : Kn} {w : World} {d ty : Nat} {pos : String} {aft : Array Edge} {v : Value}

theorem add_none (b o n : Nat) : (⟨b, o, none⟩ : Addr).add n = ⟨b, o + n, none⟩ := by
  unfold Addr.add
  split
  · subst n; rfl
  · rfl
/-- an element's address in a slice -/
theorem WR.idx {T E s : Nat} {x i : Operand} {b o len cap : Nat} {k : IntKind} {j : Int} (hx : ev l x = some (.slice (some ⟨b, o, none⟩) len cap)) (hi : ev l i = some (.int k j)) (hu : X.P.underlying T = some (.slice E)) (hs : (X.P.info? E).map (·.size) = some s)
    (h0 : 0 ≤ j) (h1 : j < (len : Int)) (hd : Nat.blt d X.n = true) (kk : WR X m ops rest ks ds ((d, .pointer (some ⟨b, o + j.toNat * s, none⟩)) :: l) w) : WR X m ops (⟨some d, .indexAddr T x i, ty, pos, aft, none⟩ :: rest) ks ds l w :=
  WR.still hd (by cases m <;> rfl) (fun a ha => by
    simp only [execOp, ha.ev hx, ha.ev hi, Instr.indexAt, asIntOf, Sem.run_bind, Sem.run_pure, Result.andThen_ok, run_underlying hu]
    rw [if_pos ⟨h0, h1⟩]
    simp [run_sizeOf hs, add_none]) kk
/-- .. in an array behind an address -/
theorem WR.idxA {T E s n : Nat} {x i : Operand} {b o : Nat} {k : IntKind} {j : Int} (hx : ev l x = some (.pointer (some ⟨b, o, none⟩))) (hi : ev l i = some (.int k j)) (hu : X.P.underlying T = some (.array n E)) (hs : (X.P.info? E).map (·.size) = some s)
    (h0 : 0 ≤ j) (h1 : j < (n : Int)) (hd : Nat.blt d X.n = true) (kk : WR X m ops rest ks ds ((d, .pointer (some ⟨b, o + j.toNat * s, none⟩)) :: l) w) : WR X m ops (⟨some d, .indexAddr T x i, ty, pos, aft, none⟩ :: rest) ks ds l w :=
  WR.still hd (by cases m <;> rfl) (fun a ha => by
    simp only [execOp, ha.ev hx, ha.ev hi, Instr.indexAt, asIntOf, Instr.sureAddr, Sem.run_bind, Sem.run_pure, Result.andThen_ok, run_underlying hu]
    rw [if_pos ⟨h0, h1⟩]
    simp [run_sizeOf hs, add_none]) kk

/-- a bound of a slice expression -/
def bnd (l : Kn) (dflt : Nat) : Option Operand → Option Nat
  | none => some dflt
  | some x => match ev l x with
    | some (.int _ j) => if 0 ≤ j then some j.toNat else none
    | _ => none
theorem run_bound {P : Program} {k : IntKind} {j : Int} {y : Nat} {c : BoundsCode} (h0 : 0 ≤ j) (h1 : j ≤ (y : Int)) (w : World) : (Instr.sliceBound (.int k j) y c).run P w = .ok j.toNat w := by
  simp [Instr.sliceBound, asIntOf, h0, h1]
theorem run_bounds {P : Program} {isS : Bool} {len cap lo hi : Nat} {L H : Option Value} {w : World}
    (hH : match H with | none => hi = len | some u => ∃ k j, u = .int k j ∧ 0 ≤ j ∧ j ≤ (cap : Int) ∧ hi = j.toNat) (hL : match L with | none => lo = 0 | some u => ∃ k j, u = .int k j ∧ 0 ≤ j ∧ j ≤ (hi : Int) ∧ lo = j.toNat) :
    (Instr.sliceBounds isS len cap L H none).run P w = .ok (lo, hi, cap) w := by
  cases H with
  | none =>
    subst hH
    cases L with
    | none => subst hL; simp [Instr.sliceBounds]
    | some u => obtain ⟨k, j, rfl, h0, h1, rfl⟩ := hL; simp [Instr.sliceBounds, run_bound h0 h1]
  | some u' =>
    obtain ⟨k', j', rfl, h0', h1', rfl⟩ := hH
    cases L with
    | none => subst hL; simp [Instr.sliceBounds, run_bound h0' h1']
    | some u => obtain ⟨k, j, rfl, h0, h1, rfl⟩ := hL; simp [Instr.sliceBounds, run_bound h0' h1', run_bound h0 h1]
def bndH (l : Kn) (len cap hi : Nat) : Option Operand → Prop
  | none => hi = len
  | some x => ∃ k j, ev l x = some (.int k j) ∧ 0 ≤ j ∧ j ≤ (cap : Int) ∧ hi = j.toNat
def bndL (l : Kn) (lo hi : Nat) : Option Operand → Prop
  | none => lo = 0
  | some x => ∃ k j, ev l x = some (.int k j) ∧ 0 ≤ j ∧ j ≤ (hi : Int) ∧ lo = j.toNat
theorem bndH_run {a : Act} {n : Nat} (ha : Fr a n ds l) {len cap hi : Nat} {H : Option Operand} (h : bndH l len cap hi H) : match H.map a.eval with | none => hi = len | some u => ∃ k j, u = .int k j ∧ 0 ≤ j ∧ j ≤ (cap : Int) ∧ hi = j.toNat := by
  cases H with
  | none => exact h
  | some x => obtain ⟨k, j, he, h1⟩ := h; exact ⟨k, j, ha.ev he, h1⟩
theorem bndL_run {a : Act} {n : Nat} (ha : Fr a n ds l) {lo hi : Nat} {L : Option Operand} (h : bndL l lo hi L) : match L.map a.eval with | none => lo = 0 | some u => ∃ k j, u = .int k j ∧ 0 ≤ j ∧ j ≤ (hi : Int) ∧ lo = j.toNat := by
  cases L with
  | none => exact h
  | some x => obtain ⟨k, j, he, h1⟩ := h; exact ⟨k, j, ha.ev he, h1⟩
/-- x[L:H] of a slice -/
theorem WR.slice {T E s : Nat} {x : Operand} {L H : Option Operand} {b o len cap lo hi : Nat} (hx : ev l x = some (.slice (some ⟨b, o, none⟩) len cap)) (hu : X.P.underlying T = some (.slice E)) (hs : (X.P.info? E).map (·.size) = some s)
    (hH : bndH l len cap hi H) (hL : bndL l lo hi L) (hd : Nat.blt d X.n = true)
    (kk : WR X m ops rest ks ds ((d, .slice (some ⟨b, if cap = lo then o else o + lo * s, none⟩) (hi - lo) (cap - lo)) :: l) w) : WR X m ops (⟨some d, .slice T x L H none, ty, pos, aft, none⟩ :: rest) ks ds l w :=
  WR.still hd (by cases m <;> rfl) (fun a ha => by
    simp only [execOp, ha.ev hx, Instr.sliceAt, Instr.slice, Option.map_none, Sem.run_bind, Sem.run_pure, Result.andThen_ok, run_underlying hu, run_bounds (bndH_run ha hH) (bndL_run ha hL), run_sizeOf hs]
    split <;> simp_all [add_none]) kk
/-- x[L:H] of an array behind an address -/
theorem WR.sliceA {T E s n : Nat} {x : Operand} {L H : Option Operand} {b o lo hi : Nat} (hx : ev l x = some (.pointer (some ⟨b, o, none⟩))) (hu : X.P.underlying T = some (.array n E)) (hs : (X.P.info? E).map (·.size) = some s)
    (hH : bndH l n n hi H) (hL : bndL l lo hi L) (hd : Nat.blt d X.n = true)
    (kk : WR X m ops rest ks ds ((d, .slice (some ⟨b, if n = lo then o else o + lo * s, none⟩) (hi - lo) (n - lo)) :: l) w) : WR X m ops (⟨some d, .slice T x L H none, ty, pos, aft, none⟩ :: rest) ks ds l w :=
  WR.still hd (by cases m <;> rfl) (fun a ha => by
    simp only [execOp, ha.ev hx, Instr.sliceAt, Instr.sureAddr, Option.map_none, Sem.run_bind, Sem.run_pure, Result.andThen_ok, run_underlying hu, run_bounds (bndH_run ha hH) (bndL_run ha hL), run_sizeOf hs]
    split <;> simp_all [add_none]) kk

/-- a call of a named function -/
theorem WR.callF {f : FuncId} {args : Array Operand} {tys : Array TypeId} {as : List Operand} {vs : List Value} {R : Value → World → Prop} (has : args = as.toArray) (hv : evs l as = some vs) (hf : ∀ (us : Array Value) (w : World), (callFunc f us).run X.P w = .ok (.enter f us) w)
    (hc : eventOK m (.call ⟨.value (.func f), args, tys⟩) ty = true) (hd : Nat.blt d X.n = true) (hcall : Ret X.P f vs.toArray w R) (k : ∀ v w', R v w' → WR X m ops rest ks ds ((d, v) :: l) w') :
    WR X m ops (⟨some d, .call ⟨.value (.func f), args, tys⟩, ty, pos, aft, none⟩ :: rest) ks ds l w :=
  WR.call hd hc (fun a ha => by
    have he := evs_of ha hv
    subst has
    simp only [execOp, resolve, Deferred.ofValue, Act.eval, Sem.run_bind, Sem.run_pure, Result.andThen_ok, invoke, List.map_toArray, he, Array.append_empty, Array.empty_append]
    exact hf _ _) hcall k
theorem WR.callFS {f : FuncId} {args : Array Operand} {tys : Array TypeId} {as : List Operand} {vs : List Value} {u : Value} (has : args = as.toArray) (hv : evs l as = some vs) (hf : ∀ (us : Array Value) (w : World), (callFunc f us).run X.P w = .ok (.enter f us) w)
    (hc : stillOK m (.call ⟨.value (.func f), args, tys⟩) ty = true) (hd : Nat.blt d X.n = true) (hcall : Ret X.P f vs.toArray w fun v w' => v = u ∧ w' = w) (k : WR X m ops rest ks ds ((d, u) :: l) w) :
    WR X m ops (⟨some d, .call ⟨.value (.func f), args, tys⟩, ty, pos, aft, none⟩ :: rest) ks ds l w :=
  WR.callS hd hc (fun a ha => by
    have he := evs_of ha hv
    subst has
    simp only [execOp, resolve, Deferred.ofValue, Act.eval, Sem.run_bind, Sem.run_pure, Result.andThen_ok, invoke, List.map_toArray, he, Array.append_empty, Array.empty_append]
    exact hf _ _) hcall k
/-- a call of a function's value that is known -/
theorem WR.callV {f : FuncId} {o : Operand} {args : Array Operand} {tys : Array TypeId} {as : List Operand} {vs : List Value} {R : Value → World → Prop} (ho : ev l o = some (.func (.func f) #[] #[])) (has : args = as.toArray) (hv : evs l as = some vs) (hf : ∀ (us : Array Value) (w : World), (callFunc f us).run X.P w = .ok (.enter f us) w)
    (hc : eventOK m (.call ⟨.value o, args, tys⟩) ty = true) (hd : Nat.blt d X.n = true) (hcall : Ret X.P f vs.toArray w R) (k : ∀ v w', R v w' → WR X m ops rest ks ds ((d, v) :: l) w') :
    WR X m ops (⟨some d, .call ⟨.value o, args, tys⟩, ty, pos, aft, none⟩ :: rest) ks ds l w :=
  WR.call hd hc (fun a ha => by
    have he := evs_of ha hv
    subst has
    simp only [execOp, resolve, Deferred.ofValue, ha.ev ho, Sem.run_bind, Sem.run_pure, Result.andThen_ok, invoke, List.map_toArray, he, Array.append_empty, Array.empty_append]
    exact hf _ _) hcall k
/-- a call through an interface whose dynamic type is known -/
theorem WR.invoke {f : FuncId} {o : Operand} {name : String} {T : TypeId} {p : Addr} {args : Array Operand} {tys : Array TypeId} {as : List Operand} {vs : List Value} {R : Value → World → Prop} (ho : ev l o = some (.iface T (.pointer (some p)))) (has : args = as.toArray) (hv : evs l as = some vs)
    (hm : ∀ (p : Addr) (w : World), (method (X.P.types.size + Made.depth) T (.pointer (some p)) name).run X.P w = .ok (f, .pointer (some p)) w) (hf : ∀ (us : Array Value) (w : World), (callFunc f us).run X.P w = .ok (.enter f us) w)
    (hc : eventOK m (.call ⟨.invoke o name, args, tys⟩) ty = true) (hd : Nat.blt d X.n = true) (hcall : Ret X.P f (Value.pointer (some p) :: vs).toArray w R) (k : ∀ v w', R v w' → WR X m ops rest ks ds ((d, v) :: l) w') :
    WR X m ops (⟨some d, .call ⟨.invoke o name, args, tys⟩, ty, pos, aft, none⟩ :: rest) ks ds l w :=
  WR.call hd hc (fun a ha => by
    have he := evs_of ha hv
    subst has
    simp only [execOp, resolve, ha.ev ho, Sem.run_bind, Sem.run_pure, Result.andThen_ok, Go.invoke, List.map_toArray, he]
    have hx : (#[Value.iface T (.pointer (some p))] ++ vs.toArray)[0]? = some (Value.iface T (.pointer (some p))) := by simp
    have hy : (#[Value.iface T (.pointer (some p))] ++ vs.toArray).extract 1 (#[Value.iface T (.pointer (some p))] ++ vs.toArray).size = vs.toArray := by simp
    rw [hx, hy]
    have hp : (program).run X.P w = .ok X.P w := rfl
    simp only [callMethod, Sem.run_bind, hp, Result.andThen_ok, hm]
    rw [show #[Value.pointer (some p)] ++ vs.toArray = (Value.pointer (some p) :: vs).toArray by simp]
    exact hf _ _) hcall k
/-- len, cap of a slice -/
theorem WR.lenS {x : Operand} {T : TypeId} {A : Option Addr} {n c E : Nat} (hx : ev l x = some (.slice A n c)) (hu : X.P.underlying T = some (.slice E)) (hd : Nat.blt d X.n = true) (k : WR X m ops rest ks ds ((d, .int .i64 n) :: l) w) :
    WR X m ops (⟨some d, .call ⟨.builtin .len, #[x], #[T]⟩, ty, pos, aft, none⟩ :: rest) ks ds l w :=
  WR.still hd (by cases m <;> rfl) (fun a ha => by
    simp only [execOp, resolve, Sem.run_bind, Sem.run_pure, Result.andThen_ok, Go.invoke, builtin, List.map_toArray, List.map_cons, List.map_nil, ha.ev hx]
    simp [Builtin.len_, goInt, run_underlying hu]) k
/-- min of two integers -/
theorem WR.min2 {x y : Operand} {tys : Array TypeId} {k : IntKind} {a b : Int} (hx : ev l x = some (.int k a)) (hy : ev l y = some (.int k b)) (hd : Nat.blt d X.n = true) (kk : WR X m ops rest ks ds ((d, .int k (if b < a then b else a)) :: l) w) :
    WR X m ops (⟨some d, .call ⟨.builtin .min, #[x, y], tys⟩, ty, pos, aft, none⟩ :: rest) ks ds l w :=
  WR.still hd (by cases m <;> rfl) (fun c hc => by
    simp only [execOp, resolve, Sem.run_bind, Sem.run_pure, Result.andThen_ok, Go.invoke, builtin, List.map_toArray, List.map_cons, List.map_nil, hc.ev hx, hc.ev hy]
    simp [Builtin.min_, Builtin.min2]) kk
end
end Go.Proofs.YtajgdpiodpoooaaGreatDoor.Vm
