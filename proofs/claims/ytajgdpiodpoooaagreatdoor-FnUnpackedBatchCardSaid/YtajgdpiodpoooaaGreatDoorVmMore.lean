/- More operations: stores with the world named, interfaces, whole structs, copy. -/
import Derived.Test.YtajgdpiodpoooaaGreatDoorVmSl
import Derived.Laws.IdiomCopy
namespace Go.Proofs.YtajgdpiodpoooaaGreatDoor.Vm
open Go Mix Go.RowKit

section
variable {w w' : World} {b t n i : Nat} {f : Nat → Value} {v : Value} {S : List Nat}
theorem Row.set' (h : Row w b t n f) {i : Nat} {v : Value} (hw : w' = w.setCell ⟨b, i, none⟩ v) : Row w' b t n (upd f i v) := by rw [hw]; exact h.set i v
theorem Row.drew (h : Row w b t n f) : Row w.drew b t n f := h
theorem Rd.drew {o : Nat} (h : Rd w b o n f) : Rd w.drew b o n f := h
end

section
variable {X : Cx} {m : Option (List Nat)} {ops : Array Oper} {rest : List Oper} {ks : List KI} {ds : List Deferred} {l : Kn} {w : World} {d ty : Nat} {pos : String} {aft : Array Edge} {v : Value}
theorem WR.storeK {t : TypeId} {x y : Operand} {p : Addr} {old : Value} (hx : ev l x = some (.pointer (some p))) (hy : ev l y = some v) (h1 : v.oneCell' = true) (hs : (X.P.info? t).map (·.size) = some 1) (hc : w.cell? p = some old) (hf : w.frozen? p = false)
    (k : ∀ w', w' = w.setCell p v → Same [p.block] w w' → WR X m ops rest ks ds l w') : WR X m ops (⟨none, .store t x y, ty, pos, aft, none⟩ :: rest) ks ds l w :=
  WR.store hx hy h1 hs hc hf (k _ rfl (Same.setCell w p v))

def notNil : Value → Option Bool
  | .nilIface => some false
  | .iface _ _ => some true
  | _ => none
theorem run_equal_nil {P : Program} {t : TypeId} {ms : Array (String × TypeId)} {u : Value} {c : Bool} (hu : P.underlying t = some (.interface ms)) (hn : notNil u = some c) (w : World) : (Op.equal t u .nilIface).run P w = .ok (!c) w := by
  unfold Op.equal
  rw [show Op.maxDepth = 9999 + 1 from rfl]
  unfold Op.equalIn
  simp only [Sem.run_bind, run_underlying hu, Result.andThen_ok]
  cases u <;> simp [notNil] at hn <;> subst hn <;> rfl
theorem WR.neqNil {t t' : TypeId} {x : Operand} {u : Value} {c : Bool} {ms : Array (String × TypeId)} (hx : ev l x = some u) (hn : notNil u = some c) (hu : X.P.underlying t = some (.interface ms)) (hd : Nat.blt d X.n = true)
    (kk : WR X m ops rest ks ds ((d, .bool c) :: l) w) : WR X m ops (⟨some d, .binOp .neq t x (.const .nilIface) t', ty, pos, aft, none⟩ :: rest) ks ds l w :=
  WR.still hd (by cases m <;> rfl) (fun a ha => by
    have hcn : a.eval (.const .nilIface) = .nilIface := rfl
    simp only [execOp, ha.ev hx, hcn, Sem.run_bind]
    have hg : (eqGuard .neq t x (.const .nilIface) u .nilIface).run X.P w = .ok () w := by
      unfold eqGuard
      cases u <;> simp [notNil] at hn <;> simp
    rw [hg]
    have he := run_equal_nil hu hn w
    cases u <;> simp [notNil] at hn <;> subst hn <;> simp [binOp, he]) kk
theorem WR.eqlNil {t t' : TypeId} {x : Operand} {u : Value} {c : Bool} {ms : Array (String × TypeId)} (hx : ev l x = some u) (hn : notNil u = some c) (hu : X.P.underlying t = some (.interface ms)) (hd : Nat.blt d X.n = true)
    (kk : WR X m ops rest ks ds ((d, .bool (!c)) :: l) w) : WR X m ops (⟨some d, .binOp .eql t x (.const .nilIface) t', ty, pos, aft, none⟩ :: rest) ks ds l w :=
  WR.still hd (by cases m <;> rfl) (fun a ha => by
    have hcn : a.eval (.const .nilIface) = .nilIface := rfl
    simp only [execOp, ha.ev hx, hcn, Sem.run_bind]
    have hg : (eqGuard .eql t x (.const .nilIface) u .nilIface).run X.P w = .ok () w := by
      unfold eqGuard
      cases u <;> simp [notNil] at hn <;> simp
    rw [hg]
    have he := run_equal_nil hu hn w
    cases u <;> simp [notNil] at hn <;> subst hn <;> simp [binOp, he]) kk
theorem run_equal_same {P : Program} {t T E s : Nat} {ms : Array (String × TypeId)} (hu : P.underlying t = some (.interface ms)) (hc : (P.info? T).map (·.comparable) = some true) (hT : P.underlying T = some (.pointer E)) (hs : (P.info? E).map (·.size) = some (s + 1)) (p : Addr) (w : World) :
    (Op.equal t (.iface T (.pointer (some p))) (.iface T (.pointer (some p)))).run P w = .ok true w := by
  unfold Op.equal
  rw [show Op.maxDepth = 9998 + 1 + 1 from rfl]
  unfold Op.equalIn
  cases hi : P.info? T with
  | none => rw [hi] at hc; cases hc
  | some i =>
    rw [hi] at hc
    simp only [Option.map_some, Option.some.injEq] at hc
    have hti : (typeInfo T).run P w = .ok i w := by unfold typeInfo; simp [Sem.run_bind, hi]
    simp only [Sem.run_bind, run_underlying hu, Result.andThen_ok, hti, hc, ne_eq, not_true_eq_false, if_false, Bool.not_true, Bool.false_eq_true]
    unfold Op.equalIn
    simp only [Sem.run_bind, run_underlying hT, Result.andThen_ok, run_sizeOf hs]
    simp [sameAddr]
/-- the same pointer behind two interface values: a closed fact of the type says that it is found the same -/
theorem WR.binI {o : BinOp} {t t' T T' : TypeId} {x y : Operand} {p q : Addr} {c : Bool} (hx : ev l x = some (.iface T (.pointer (some p)))) (hy : ev l y = some (.iface T' (.pointer (some q))))
    (ho : o = .eql ∨ o = .neq) (he : (Op.equal t (.iface T (.pointer (some p))) (.iface T' (.pointer (some q)))).run X.P w = .ok c w) (hd : Nat.blt d X.n = true)
    (kk : WR X m ops rest ks ds ((d, .bool (if o = .eql then c else !c)) :: l) w) : WR X m ops (⟨some d, .binOp o t x y t', ty, pos, aft, none⟩ :: rest) ks ds l w :=
  WR.still hd (by cases m <;> rfl) (fun a ha => by
    simp only [execOp, ha.ev hx, ha.ev hy, Sem.run_bind]
    rcases ho with rfl | rfl
    · have hg : (eqGuard .eql t x y (.iface T (.pointer (some p))) (.iface T' (.pointer (some q)))).run X.P w = .ok () w := rfl
      rw [hg]; simp [binOp, he]
    · have hg : (eqGuard .neq t x y (.iface T (.pointer (some p))) (.iface T' (.pointer (some q)))).run X.P w = .ok () w := rfl
      rw [hg]; simp [binOp, he]) kk
def isIfaceD : TypeDesc → Bool
  | .interface _ => true
  | _ => false
theorem WR.mkIface {t : TypeId} {x : Operand} {D : TypeDesc} (hx : ev l x = some v) (hu : X.P.underlying t = some D) (hD : isIfaceD D = false) (hd : Nat.blt d X.n = true) (kk : WR X m ops rest ks ds ((d, .iface t v) :: l) w) :
    WR X m ops (⟨some d, .makeInterface t x, ty, pos, aft, none⟩ :: rest) ks ds l w :=
  WR.still hd (by cases m <;> rfl) (fun a ha => by
    simp only [execOp, ha.ev hx, Instr.makeInterface, Sem.run_bind, run_underlying hu, Result.andThen_ok]
    cases D <;> first | rfl | cases hD) kk
theorem WR.mkMethod {name : String} {x : Operand} (hx : ev l x = some v) (hd : Nat.blt d X.n = true) (kk : WR X m ops rest ks ds ((d, .func (.method name) #[v] #[]) :: l) w) :
    WR X m ops (⟨some d, .makeFunc (.method name) #[x] #[], ty, pos, aft, none⟩ :: rest) ks ds l w :=
  WR.still hd (by cases m <;> rfl) (fun a ha => by simp [execOp, ha.ev hx, Instr.makeFunc]) kk
theorem WR.nilCheckF {x : Operand} {name : String} {T : TypeId} {p : Addr} (hx : ev l x = some (.func (.method name) #[.iface T (.pointer (some p))] #[]))
    (hn : ∀ (p : Addr) (w : World), (nilAhead (X.P.types.size + Made.depth) T (.pointer (some p)) name).run X.P w = .ok (some false) w) (hd : Nat.blt d X.n = true)
    (kk : WR X m ops rest ks ds ((d, .func (.method name) #[.iface T (.pointer (some p))] #[]) :: l) w) : WR X m ops (⟨some d, .nilCheck x, ty, pos, aft, none⟩ :: rest) ks ds l w :=
  WR.still hd (by cases m <;> rfl) (fun a ha => by
    have hp : (program).run X.P w = .ok X.P w := rfl
    simp only [execOp, ha.ev hx]
    simp [hp, hn]) kk

/-- a load of a whole struct or array -/
theorem WR.loadAgg {t s : TypeId} {x : Operand} {b o : Nat} {D : TypeDesc} {f : Nat → Value} (hx : ev l x = some (.pointer (some ⟨b, o, none⟩))) (hu : X.P.underlying t = some D) (hD : plainD D = false) (hs : (X.P.info? t).map (·.size) = some s)
    (hc : Rd w b o s f) (hd : Nat.blt d X.n = true) (k : WR X m ops rest ks ds ((d, .agg ((List.range s).map f).toArray) :: l) w) : WR X m ops (⟨some d, .load t x, ty, pos, aft, none⟩ :: rest) ks ds l w :=
  WR.still hd (by cases m <;> rfl) (fun a ha => by
    have ha' : (isAgg t).run X.P w = .ok true w := by
      unfold isAgg
      simp only [Sem.run_bind, run_underlying hu, Result.andThen_ok]
      cases D <;> first | rfl | cases hD
    have hl := run_loadCells_list (P := X.P) w ⟨b, o, none⟩ ((List.range s).map f) (fun j v hv => by
      rw [add_none]
      have hj : j < s := by
        rcases Nat.lt_or_ge j s with h | h
        · exact h
        · simp [h] at hv
      rw [hc j hj]
      simpa [hj] using hv)
    simp only [List.length_map, List.length_range] at hl
    simp only [execOp, ha.ev hx, Instr.loadAt, Instr.sureAddr, loadVar, Sem.run_bind, Sem.run_pure, Result.andThen_ok, ha']
    simp [run_sizeOf hs, hl]) k
end

/-- a function with a stretch written over -/
def ovr (f : Nat → Value) (o : Nat) (cs : List Value) : Nat → Value := fun i => if o ≤ i ∧ i < o + cs.length then cs.getD (i - o) undef else f i
theorem Row.setCells {b t n : Nat} : ∀ (cs : List Value) (o : Nat) (w : World) (f : Nat → Value), Row w b t n f → Row (w.setCells b o cs) b t n (ovr f o cs)
  | [], o, w, f, h => h.congr fun i _ => by unfold ovr; rw [if_neg (by simp)]
  | v :: vs, o, w, f, h => by
    have h1 := Row.setCells vs (o + 1) _ _ (h.set o v)
    refine Row.congr h1 fun i hi => ?_
    unfold ovr upd
    by_cases h0 : o + 1 ≤ i ∧ i < o + 1 + vs.length
    · rw [if_pos h0, if_pos (by simp; omega)]
      rw [show i - o = (i - (o + 1)) + 1 by omega]
      simp
    · rw [if_neg h0]
      by_cases hio : i = o
      · subst hio; simp
      · rw [if_neg hio, if_neg (by simp; omega)]
theorem Same.setCells (b : Nat) : ∀ (cs : List Value) (o : Nat) (w : World), Same [b] w (w.setCells b o cs)
  | [], _, w => Same.refl _ w
  | v :: vs, o, w => (Same.setCell w ⟨b, o, none⟩ v).trans (Same.setCells b vs (o + 1) _) (fun _ hg => .inl hg)
section
variable {X : Cx} {m : Option (List Nat)} {ops : Array Oper} {rest : List Oper} {ks : List KI} {ds : List Deferred} {l : Kn} {w : World} {d ty : Nat} {pos : String} {aft : Array Edge} {v : Value}
/-- copy between two slices that are not empty -/
theorem WR.copyK {x y : Operand} {dT sT E b o dLen dCap sLen sCap t n k b2 o2 : Nat} {f g : Nat → Value} (hx : ev l x = some (.slice (some ⟨b, o, none⟩) dLen dCap)) (hy : ev l y = some (.slice (some ⟨b2, o2, none⟩) sLen sCap))
    (hu : X.P.underlying dT = some (.slice E)) (hs : (X.P.info? E).map (·.size) = some 1) (hk : k = Nat.min sLen dLen) (hb : Row w b t n f) (hfit : o + k ≤ n) (hsrc : Rd w b2 o2 k g) (h1 : ∀ i, i < k → (g i).oneCell' = true)
    (hc : eventOK m (.call ⟨.builtin .copy, #[x, y], #[dT, sT]⟩) ty = true) (hd : Nat.blt d X.n = true)
    (kk : ∀ w', Row w' b t n (ovr f o ((List.range k).map g)) → Same [b] w w' → WR X m ops rest ks ds ((d, .int .i64 k) :: l) w') :
    WR X m ops (⟨some d, .call ⟨.builtin .copy, #[x, y], #[dT, sT]⟩, ty, pos, aft, none⟩ :: rest) ks ds l w :=
  WR.event hd hc (w' := w.setCells b o ((List.range k).map g)) (fun a ha => by
    have hr := run_copy_cells (P := X.P) w dT sT ty E b o dLen dCap ⟨b2, o2, none⟩ sLen sCap ((List.range k).map g) hu hs (by simp [hk]) (fun j u hj => by
      rw [add_none]
      have hjk : j < k := by
        rcases Nat.lt_or_ge j k with h | h
        · exact h
        · simp [h] at hj
      rw [hsrc j hjk]
      simpa [hjk] using hj) (fun j hj => by
      rw [hb.cell (by simp at hj; omega)]; rfl) (fun j _ => hb.fz _) (fun u hu' => by
      obtain ⟨i, hi, rfl⟩ := List.mem_map.1 hu'
      exact h1 i (List.mem_range.1 hi))
    simp only [execOp, resolve, Sem.run_bind, Sem.run_pure, Result.andThen_ok, Go.invoke, builtin, List.map_toArray, List.map_cons, List.map_nil, ha.ev hx, ha.ev hy]
    rw [hr]
    simp [goInt]) (kk _ (hb.setCells _ _ _ _) (Same.setCells b _ o w))
theorem run_newVar {P : Program} {t : TypeId} {u : Value} (w : World) : (newVar t u).run P w = .ok ⟨w.heap.size, 0, none⟩ (w.alloc (.cells u.cells t)) := by
  unfold newVar newRow newObj
  simp only [Sem.run_bind]
  rfl
/-- a new variable at its zero value -/
theorem WR.alloc {t : TypeId} (hz : ∀ w, (zeroValue t).run X.P w = .ok v w) (hc : eventOK m (.alloc t) ty = true) (hd : Nat.blt d X.n = true)
    (kk : ∀ w', w' = w.alloc (.cells v.cells t) → Same [] w w' → WR X m ops rest ks ds ((d, .pointer (some ⟨w.heap.size, 0, none⟩)) :: l) w') : WR X m ops (⟨some d, .alloc t, ty, pos, aft, none⟩ :: rest) ks ds l w :=
  WR.event hd hc (w' := w.alloc (.cells v.cells t)) (fun a ha => by
    simp only [execOp, Instr.alloc, Sem.run_bind, hz, Result.andThen_ok, run_newVar, Sem.run_pure]) (kk _ rfl (Same.alloc w _))
/-- a new variable that holds a value -/
theorem WR.box {t : TypeId} {x : Operand} (hx : ev l x = some v) (hc : eventOK m (.box t x) ty = true) (hd : Nat.blt d X.n = true)
    (kk : ∀ w', w' = w.alloc (.cells v.cells t) → Same [] w w' → WR X m ops rest ks ds ((d, .pointer (some ⟨w.heap.size, 0, none⟩)) :: l) w') : WR X m ops (⟨some d, .box t x, ty, pos, aft, none⟩ :: rest) ks ds l w :=
  WR.event hd hc (w' := w.alloc (.cells v.cells t)) (fun a ha => by
    simp only [execOp, ha.ev hx, Instr.box, Sem.run_bind, run_newVar, Result.andThen_ok, Sem.run_pure]) (kk _ rfl (Same.alloc w _))
def evps (l : Kn) : List (Nat × Operand) → Option (List (Nat × Value))
  | [] => some []
  | (i, x) :: xs => match ev l x, evps l xs with
    | some v, some vs => some ((i, v) :: vs)
    | _, _ => none
theorem evps_of {a : Act} {n : Nat} (h : Fr a n ds l) : ∀ {xs : List (Nat × Operand)} {vs : List (Nat × Value)}, evps l xs = some vs → xs.map (fun p => (p.1, a.eval p.2)) = vs
  | [], vs, he => by simp only [evps, Option.some.injEq] at he; subst he; rfl
  | (i, x) :: xs, vs, he => by
    unfold evps at he
    cases hx : ev l x with
    | none => rw [hx] at he; cases he
    | some v =>
      cases hr : evps l xs with
      | none => rw [hx, hr] at he; cases he
      | some us =>
        rw [hx, hr] at he
        simp only [Option.some.injEq] at he
        subst he
        rw [List.map_cons, h.ev hx, evps_of h hr]
/-- a struct or array put together: a closed fact of the type says what it is -/
theorem WR.build {t : TypeId} {parts : Array (Nat × Operand)} {ps : List (Nat × Operand)} {vs : List (Nat × Value)} (hp : parts = ps.toArray) (hv : evps l ps = some vs) (hrun : ∀ w, (Instr.build t vs.toArray).run X.P w = .ok v w) (hd : Nat.blt d X.n = true)
    (hc : eventOK m (.build t parts) ty = true) (kk : WR X m ops rest ks ds ((d, v) :: l) w) : WR X m ops (⟨some d, .build t parts, ty, pos, aft, none⟩ :: rest) ks ds l w :=
  WR.event hd hc (fun a ha => by
    have he := evps_of ha hv
    subst hp
    simp only [execOp, Sem.run_bind, List.map_toArray]
    rw [show (ps.map fun (x : Nat × Operand) => match x with | (i, x) => (i, a.eval x)) = vs from he]
    simp [hrun]) kk
end
/-- a piece of code whose ways come together behind it -/
theorem WC.cut {α : Type} {X : Cx} {c : Code} {ks : List KI} {ds : List Deferred} {l : Kn} {w : World} (L : α → Kn) (Inv : α → World → Prop)
    (h1 : WC X c (.loop (rel X.n ds L fun _ => Inv) 1 :: ks) ds l w) (h2 : ∀ x w', Inv x w' → WN X ks ds (L x) w') : WC X c ks ds l w := fun a ha => by
  refine Code.wp_mono (fun e a' w' hq => ?_) (h1 a ha)
  cases e with
  | normal =>
    obtain ⟨k', _, x, hx, hI⟩ := hq
    exact h2 x w' hI a' hx
  | _ => exact hq
end Go.Proofs.YtajgdpiodpoooaaGreatDoor.Vm
