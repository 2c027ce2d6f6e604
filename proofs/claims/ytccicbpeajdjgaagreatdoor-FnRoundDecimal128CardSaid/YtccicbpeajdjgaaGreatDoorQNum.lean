/- Lists read through a slice, appends of them, fields of values, deferred calls. -/
import Derived.Test.YtccicbpeajdjgaaGreatDoorQVm
import Derived.Test.YtccicbpeajdjgaaGreatDoorQVmMake
import Derived.Recover
set_option linter.unusedVariables false
set_option linter.unusedSimpArgs false
namespace Go.Proofs.YtccicbpeajdjgaaGreatDoor.Vm
open Go Mix Go.RowKit
/-- the slice v reads as ys, in a block from base on -/
def Ls (w : World) (base : Nat) (v : Value) (ys : List Value) : Prop :=
 v = .slice none 0 0 ∧ ys = [] ∨ ∃ g o c, v = .slice (some ⟨g, o, none⟩) ys.length c ∧ base ≤ g ∧ g < w.heap.size ∧ Rd w g o ys.length (fun i => ys.getD i undef)
section
variable {w w' : World} {base : Nat} {E : TypeId} {v : Value} {xs ys : List Value} {S : List Nat}
theorem Own.one (h : Own w base E v xs) : v.oneCell' = true := by
 rcases h.read with ⟨rfl, _⟩ | ⟨g, c, rfl, _⟩ <;> rfl
theorem Own.ls (h : Own w base E v xs) : Ls w base v xs := by
 rcases h.read with h | ⟨g, c, h1, h2, h3, h4⟩
 ·exact .inl h
 ·exact .inr ⟨g, 0, c, h1, h2, h3, h4⟩
theorem Ls.same (h : Ls w base v ys) (hs : Same S w w') (hS : ∀ g, g ∈ S → g < base ∨ w.heap.size ≤ g := by first | (simp; done) | (simp; omega) | (simp only [List.mem_singleton]; rintro g rfl hg; omega)) : Ls w' base v ys := by
 rcases h with h | ⟨g, o, c, h1, h2, h3, h4⟩
 ·exact .inl h
 ·refine .inr ⟨g, o, c, h1, h2, hs.lt h3, h4.same hs (fun hm => ?_) h3⟩
  rcases hS g hm with h | h <;> omega
theorem Ls.low (h : Ls w base v ys) {b' : Nat} (hb : b' ≤ base) : Ls w b' v ys := by
 rcases h with h | ⟨g, o, c, h1, h2, h3⟩
 ·exact .inl h
 ·exact .inr ⟨g, o, c, h1, by omega, h3⟩
theorem Ls.shape (h : Ls w base v ys) : ∃ A c, v = .slice A ys.length c := by
 rcases h with ⟨h, rfl⟩ | ⟨g, o, c, h1, _⟩
 ·exact ⟨none, 0, h⟩
 ·exact ⟨_, c, h1⟩
theorem Ls.lit (h : Ls w base v ys) (h0 : 0 < ys.length) : ∃ g o c, v = .slice (some ⟨g, o, none⟩) ys.length c ∧ base ≤ g ∧ g < w.heap.size ∧ Rd w g o ys.length (fun i => ys.getD i undef) := by
 rcases h with ⟨_, rfl⟩ | h
 ·simp at h0
 ·exact h
theorem Row.ls {b t n o k c : Nat} {F : Nat → Value} (h : Row w b t n F) (hy : ys.length = k) (hk : o + k ≤ n) (hb : base ≤ b) (he : ∀ i, i < k → F (o + i) = ys.getD i undef) : Ls w base (.slice (some ⟨b, o, none⟩) k c) ys := by
 subst hy;exact .inr ⟨b, o, c, rfl, hb, h.lt, (h.rd o _ hk).congr he⟩
theorem qU (ys : List Value) : (List.range ys.length).map (fun i => ys.getD i undef) = ys := by
 refine List.ext_getElem zp fun i h1 h2 => ?_;simp only [List.getElem_map, List.getElem_range];simp at h1
 simp [h1]
end
section
variable {X : Cx} {m : Option (List Nat)} {ops : Array Oper} {rest : List Oper} {ks : List KI} {ds : List Deferred} {l : Kn} {w : World} {d ty : Nat} {pos : String} {aft : Array Edge} {v : Value}
theorem eZ {t E by' : Nat} {x y : Operand} {base base2 : Nat} {xs ys : List Value} {u z : Value} (hx : ev l x = some v) (hown : Own w base E v xs) (hy : ev l y = some u) (hls : Ls w base2 u ys) (h1 : ∀ i, i < ys.length → (ys.getD i undef).oneCell' = true)
 (hu : X.P.underlying t = some (.slice E)) (hi : (X.P.info? E).map (fun i => (i.size, i.bytes, i.zero)) = some (1, by', some z)) (hz : z.cells = #[z]) (hby : by' ≤ 16) (hn : xs.length + ys.length ≤ 1099511627776) (hbase : base ≤ w.heap.size)
 (hc : eventOK m (.call ⟨.builtin .append, #[x, y], #[t, t]⟩) ty = true) (hd : Nat.blt d X.n = true)
 (kk : ∀ v' w' S, Own w' base E v' (xs ++ ys) → Same S w w' → (∀ g, g ∈ S → base ≤ g) → WR X m ops rest ks ds ((d, v') :: l) w') :
 WR X m ops (⟨some d, .call ⟨.builtin .append, #[x, y], #[t, t]⟩, ty, pos, aft, none⟩ :: rest) ks ds l w := by
 rcases hls with ⟨rfl, rfl⟩ | ⟨g, o, c, rfl, _, hlt, hrd⟩
 ·cases hi' : X.P.info? E with
  | none => rw [hi'] at hi; cases hi
  | some i =>
   have hk := kk v w [] (by rw [List.append_nil]; exact hown) (Same.refl [] w) zp;refine eI hd hc (w' := w) (fun a ha => ?_) hk;rw [hi'] at hi;simp only [Option.map_some, Option.some.injEq, Prod.mk.injEq] at hi;have hr := run_append_owned_none (P := X.P) w base t ty E i 1 hu hi' v xs.length xs hown;simp only [execOp, resolve, Sem.run_bind, Sem.run_pure, Result.andThen_ok, Go.invoke, builtin, List.map_toArray, List.map_cons, List.map_nil, ha.ev hx, ha.ev hy, hr]
 ·refine pG hx hown hy hrd h1 hu hi hz hby hn hbase hc hd fun v' w' S h1 h2 h3 => kk v' w' S ?_ h2 h3;rw [qU] at h1;exact h1
/-- a field of a struct's value: a closed fact of the type says what it is -/
theorem WR.fieldV {t i : Nat} {x : Operand} {u : Value} (hx : ev l x = some u) (hr : ∀ w, (Instr.field t u i).run X.P w = .ok v w) (hd : Nat.blt d X.n = true)
 (kk : WR X m ops rest ks ds ((d, v) :: l) w) : WR X m ops (⟨some d, .field t x i, ty, pos, aft, none⟩ :: rest) ks ds l w :=
 cY hd (by cases m <;> rfl) (fun a ha => by
  simp only [execOp, ha.ev hx, Sem.run_bind, hr, Result.andThen_ok, Sem.run_pure]) kk
theorem wX {t : TypeId} {x : Operand} {k : IntKind} {a z : Int} (hx : ev l x = some (.int k a)) (hz : k.wrap (-a) = z) (hd : Nat.blt d X.n = true) (kk : WR X m ops rest ks ds ((d, .int k z) :: l) w) :
 WR X m ops (⟨some d, .unOp .neg t x, ty, pos, aft, none⟩ :: rest) ks ds l w :=
 cY hd (by cases m <;> rfl) (fun c hc => by simp [execOp, hc.ev hx, Op.unary, Op.intArith, hz]) kk
/-- a call put off -/
theorem jX {f : FuncId} {args : Array Operand} {tys : Array TypeId} {as : List Operand} {vs : List Value} (has : args = as.toArray) (hv : evs l as = some vs)
 (k : WR X none ops rest ks (⟨.fn (.func f) #[], vs.toArray⟩ :: ds) l w) :
 WR X none ops (⟨none, .defer ⟨.value (.func f), args, tys⟩, ty, pos, aft, none⟩ :: rest) ks ds l w := by
 intro a ha;have he := eX ha hv;subst has;have hf : Fr { a with defers := ⟨.fn (.func f) #[], vs.toArray⟩ :: a.defers } X.n (⟨.fn (.func f) #[], vs.toArray⟩ :: ds) l := ⟨by rw [ha.defers], ha.size, ha.get⟩;have hk := k _ hf
 have hr : (execOp a.eval (bare (.defer ⟨.value (.func f), as.toArray, tys⟩) ty)).run X.P w = .ok (.defer ⟨.fn (.func f) #[], vs.toArray⟩) w := by
  simp only [execOp, resolve, Deferred.ofValue, Act.eval, Sem.run_bind, Sem.run_pure, Result.andThen_ok, List.map_toArray, he, Array.append_empty, Array.empty_append]
 refine wpList_plain rfl fun K hK => ?_;unfold Oper.wp;rw [dN, hr];exact hK _ _ hk
end
/-- a store of a whole struct -/
theorem aU {X : Cx} {m : Option (List Nat)} {ops : Array Oper} {rest : List Oper} {ks : List KI} {ds : List Deferred} {l : Kn} {w : World} {ty : Nat} {pos : String} {aft : Array Edge} {t s b o n T : Nat} {x y : Operand} {f : Nat → Value} {cs : Array Value} (hx : ev l x = some (.pointer (some ⟨b, o, none⟩))) (hy : ev l y = some (.agg cs)) (hs : (X.P.info? t).map (·.size) = some s) (hsz : cs.size = s) (h1 : ∀ v ∈ cs.toList, v.oneCell' = true)
 (hb : Row w b T n f) (hfit : o + s ≤ n) (k : ∀ w', Row w' b T n (ovr f o cs.toList) → Same [b] w w' → WR X m ops rest ks ds l w') :
 WR X m ops (⟨none, .store t x y, ty, pos, aft, none⟩ :: rest) ks ds l w :=
 lQ (by cases m <;> rfl) (w' := w.setCells b o cs.toList) (fun a ha => by
  have hr := run_storeCells_cells (P := X.P) b o cs.toList 0 w (fun j hj => by
   rw [hb.cell (by simp at hj; omega)]; rfl) (fun j _ => hb.fz _) h1
  simp only [Nat.add_zero] at hr;have hc : (Value.agg cs).cells = cs := rfl;simp only [execOp, ha.ev hx, ha.ev hy, Instr.storeAt, Instr.sureAddr, storeVar, Sem.run_bind, Sem.run_pure, Result.andThen_ok, dP hs, hc];rw [if_neg (by rw [hsz]; simp)]
  simp [hr]) (k _ (hb.setCells _ _ _ _) (Same.setCells b _ o w))
theorem uR {P : Program} {fn : Func} {a1 t1 s b o : Nat} {D1 : TypeDesc} {f : Nat → Value} {tmps : Array Value} {w : World} (hrs : fn.results = #[.cell a1 t1]) (h1 : tmps.getD a1 undef = .pointer (some ⟨b, o, none⟩))
 (hu1 : P.underlying t1 = some D1) (hD1 : plainD D1 = false) (hs : (P.info? t1).map (·.size) = some s) (hc : Rd w b o s f) : (results fn tmps).run P w = .ok (.agg ((List.range s).map f).toArray) w := by
 have ha1 : (asAddr (tmps.getD a1 undef)).run P w = .ok ⟨b, o, none⟩ w := by rw [h1]; rfl
 have ha' : (isAgg t1).run P w = .ok true w := by
  unfold isAgg;simp only [Sem.run_bind, run_underlying hu1, Result.andThen_ok]
  cases D1 <;> first | rfl | cases hD1
 have hl := run_loadCells_list (P := P) w ⟨b, o, none⟩ ((List.range s).map f) (fun j v hv => by
  rw [eR]
  have hj : j < s := by
   rcases Nat.lt_or_ge j s with h | h
   ·exact h
   ·simp [h] at hv
  rw [hc j hj]
  simpa [hj] using hv)
 simp only [List.length_map, List.length_range] at hl
 have hl1 : (loadVar t1 ⟨b, o, none⟩).run P w = .ok (.agg ((List.range s).map f).toArray) w := by
  simp only [loadVar, Sem.run_bind, ha', Result.andThen_ok]
  simp [dP hs, hl]
 unfold results;rw [hrs, show (#[ResultVar.cell a1 t1] : Array ResultVar) = [ResultVar.cell a1 t1].toArray from rfl, List.mapM_toArray];simp only [map_eq_pure_bind, Sem.run_bind, List.mapM_cons, List.mapM_nil, Sem.run_pure, Result.andThen_ok, ha1, hl1]
 simp
/-- the way out of a function whose one result is a struct in a cell -/
theorem cS {P : Program} {fn : Func} {R : Value → World → Prop} {n : Nat} {ks : List KI} {l : Kn} {w : World} {a1 t1 s b o : Nat} {D1 : TypeDesc} {f : Nat → Value} (hrs : fn.results = #[.cell a1 t1]) (h1 : look l a1 = some (.pointer (some ⟨b, o, none⟩)))
 (hu1 : P.underlying t1 = some D1) (hD1 : plainD D1 = false) (hs : (P.info? t1).map (·.size) = some s) (hc : Rd w b o s f) (h : R (.agg ((List.range s).map f).toArray) w) :
 WC ⟨P, n, bodyPost P fn fun e w' => ∃ v, e = .returned v ∧ R v w'⟩ .ret ks [] l w :=
 jN fun a ha => ⟨ha.defers, _, uR hrs (ha.get _ _ h1) hu1 hD1 hs hc, _, rfl, h⟩
/-- a function that puts calls off -/
theorem jC {P : Program} {f : FuncId} {fn : Func} {n : Nat} {c : Code} {vs : List Value} {w : World} {R : Value → World → Prop} (hf : P.funcs[f]? = some fn) (hn : fn.ntmps = n) (hb : fn.body = some c)
 (hl : Nat.ble vs.length n = true) (h : WC ⟨P, n, bodyPostD P fn fun e w' => ∃ v, e = .returned v ∧ R v w'⟩ c [] [] (args0 0 vs) w) : Ret P f vs.toArray w R := by
 refine calls_of_wp_defers hf hb ?_;rw [hn];exact h _ (Fr.enter n vs (by simpa using hl))
theorem tB {P : Program} {fn : Func} {a1 t1 a2 t2 : Nat} {D1 D2 : TypeDesc} {p1 p2 : Addr} {v1 v2 : Value} {tmps : Array Value} {w : World} (hrs : fn.results = #[.cell a1 t1, .cell a2 t2]) (h1 : tmps.getD a1 undef = .pointer (some p1)) (h2 : tmps.getD a2 undef = .pointer (some p2))
 (hu1 : P.underlying t1 = some D1) (hD1 : plainD D1 = true) (hu2 : P.underlying t2 = some D2) (hD2 : plainD D2 = true) (hc1 : w.cell? p1 = some v1) (hc2 : w.cell? p2 = some v2) : (results fn tmps).run P w = .ok (.tuple #[v1, v2]) w := by
 have ha1 : (asAddr (tmps.getD a1 undef)).run P w = .ok p1 w := by rw [h1]; rfl
 have ha2 : (asAddr (tmps.getD a2 undef)).run P w = .ok p2 w := by rw [h2]; rfl
 have hl1 : (loadVar t1 p1).run P w = .ok v1 w := by
  simp only [loadVar, Sem.run_bind, iN hu1 hD1, Result.andThen_ok]
  simp [hc1]
 have hl2 : (loadVar t2 p2).run P w = .ok v2 w := by
  simp only [loadVar, Sem.run_bind, iN hu2 hD2, Result.andThen_ok]
  simp [hc2]
 unfold results;rw [hrs, show (#[ResultVar.cell a1 t1, .cell a2 t2] : Array ResultVar) = [ResultVar.cell a1 t1, .cell a2 t2].toArray from rfl, List.mapM_toArray];simp only [map_eq_pure_bind, Sem.run_bind, List.mapM_cons, List.mapM_nil, Sem.run_pure, Result.andThen_ok, ha1, ha2, hl1, hl2]
 simp
/-- the way out of a function with two result cells and one call put off, which does nothing -/
theorem vG {P : Program} {fn : Func} {R : Value → World → Prop} {n : Nat} {l : Kn} {w w2 : World} {F : FuncId} {dargs : Array Value} {a1 t1 a2 t2 : Nat} {D1 D2 : TypeDesc} {p1 p2 : Addr} {v1 v2 : Value}
 (hrs : fn.results = #[.cell a1 t1, .cell a2 t2]) (h1 : look l a1 = some (.pointer (some p1))) (h2 : look l a2 = some (.pointer (some p2)))
 (hu1 : P.underlying t1 = some D1) (hD1 : plainD D1 = true) (hu2 : P.underlying t2 = some D2) (hD2 : plainD D2 = true)
 (hcf : (callFunc F dargs).run P w = .ok (.enter F dargs) w) (hcall : CallsD P F dargs .returning w fun e u' w' => (∃ v, e = .returned v) ∧ u' = .returning ∧ w' = w2)
 (hc1 : w2.cell? p1 = some v1) (hc2 : w2.cell? p2 = some v2) (h : R (.tuple #[v1, v2]) w2) (a : Act) (ha : Fr a n [⟨.fn (.func F) #[], dargs⟩] l) :
 Leaves P fn a.tmps (fun e w' => ∃ v, e = .returned v ∧ R v w') a.defers .returning w := by
 rw [ha.defers];refine leaves_cons (f := F) (args := dargs) zp (by simp only [Go.invoke, Array.append_empty]; exact hcf) (hcall.mono ?_);rintro e u' w' ⟨⟨v, rfl⟩, rfl, rfl⟩;exact ⟨_, tB hrs (ha.get _ _ h1) (ha.get _ _ h2) hu1 hD1 hu2 hD2 hc1 hc2, _, rfl, h⟩
theorem qN {P : Program} {fn : Func} {R : Value → World → Prop} {n : Nat} {ks : List KI} {l : Kn} {w : World} (w2 : World) {F : FuncId} {dargs : Array Value} {a1 t1 a2 t2 : Nat} {D1 D2 : TypeDesc} {p1 p2 : Addr} {v1 v2 : Value}
 (hrs : fn.results = #[.cell a1 t1, .cell a2 t2]) (h1 : look l a1 = some (.pointer (some p1))) (h2 : look l a2 = some (.pointer (some p2)))
 (hu1 : P.underlying t1 = some D1) (hD1 : plainD D1 = true) (hu2 : P.underlying t2 = some D2) (hD2 : plainD D2 = true)
 (hcf : (callFunc F dargs).run P w = .ok (.enter F dargs) w) (hcall : CallsD P F dargs .returning w fun e u' w' => (∃ v, e = .returned v) ∧ u' = .returning ∧ w' = w2)
 (hc1 : w2.cell? p1 = some v1) (hc2 : w2.cell? p2 = some v2) (h : R (.tuple #[v1, v2]) w2) :
 WC ⟨P, n, bodyPostD P fn fun e w' => ∃ v, e = .returned v ∧ R v w'⟩ .ret ks [⟨.fn (.func F) #[], dargs⟩] l w :=
 jN fun a ha => vG hrs h1 h2 hu1 hD1 hu2 hD2 hcf hcall hc1 hc2 h a ha
theorem WN.endD2 {P : Program} {fn : Func} {R : Value → World → Prop} {n : Nat} {l : Kn} {w : World} (w2 : World) {F : FuncId} {dargs : Array Value} {a1 t1 a2 t2 : Nat} {D1 D2 : TypeDesc} {p1 p2 : Addr} {v1 v2 : Value}
 (hrs : fn.results = #[.cell a1 t1, .cell a2 t2]) (h1 : look l a1 = some (.pointer (some p1))) (h2 : look l a2 = some (.pointer (some p2)))
 (hu1 : P.underlying t1 = some D1) (hD1 : plainD D1 = true) (hu2 : P.underlying t2 = some D2) (hD2 : plainD D2 = true)
 (hcf : (callFunc F dargs).run P w = .ok (.enter F dargs) w) (hcall : CallsD P F dargs .returning w fun e u' w' => (∃ v, e = .returned v) ∧ u' = .returning ∧ w' = w2)
 (hc1 : w2.cell? p1 = some v1) (hc2 : w2.cell? p2 = some v2) (h : R (.tuple #[v1, v2]) w2) :
 WN ⟨P, n, bodyPostD P fn fun e w' => ∃ v, e = .returned v ∧ R v w'⟩ [] [⟨.fn (.func F) #[], dargs⟩] l w := fun a ha => vG hrs h1 h2 hu1 hD1 hu2 hD2 hcf hcall hc1 hc2 h a ha
end Go.Proofs.YtccicbpeajdjgaaGreatDoor.Vm
namespace Go.Proofs.YtccicbpeajdjgaaGreatDoor.Vm
open Go Mix Go.RowKit
section
variable {X : Cx} {m : Option (List Nat)} {ops : Array Oper} {rest : List Oper} {ks : List KI} {ds : List Deferred} {l : Kn} {w : World} {d ty : Nat} {pos : String} {aft : Array Edge} {v : Value}
/-- a type assertion whose outcome a closed fact tells -/
theorem WR.assertV {x : Operand} {u : Value} {xT aT : TypeId} {ok : Bool} (hx : ev l x = some u) (hr : ∀ w, (Instr.typeAssert u xT aT ok).run X.P w = .ok v w) (hc : stillOK m (.typeAssert x xT aT ok) ty = true) (hd : Nat.blt d X.n = true)
 (kk : WR X m ops rest ks ds ((d, v) :: l) w) : WR X m ops (⟨some d, .typeAssert x xT aT ok, ty, pos, aft, none⟩ :: rest) ks ds l w :=
 cY hd hc (fun a ha => by simp only [execOp, ha.ev hx, Sem.run_bind, hr, Result.andThen_ok, Sem.run_pure]) kk
theorem WR.assertE {x : Operand} {u : Value} {xT aT : TypeId} {ok : Bool} (hx : ev l x = some u) (hr : ∀ w, (Instr.typeAssert u xT aT ok).run X.P w = .ok v w) (hc : eventOK m (.typeAssert x xT aT ok) ty = true) (hd : Nat.blt d X.n = true)
 (kk : WR X m ops rest ks ds ((d, v) :: l) w) : WR X m ops (⟨some d, .typeAssert x xT aT ok, ty, pos, aft, none⟩ :: rest) ks ds l w :=
 eI hd hc (fun a ha => by simp only [execOp, ha.ev hx, Sem.run_bind, hr, Result.andThen_ok, Sem.run_pure]) kk
/-- a function's value put together -/
theorem WR.mkFunc {fn : Fn} {first : Array Operand} {fs : List Operand} {vs : List Value} (hf : first = fs.toArray) (hv : evs l fs = some vs) (hd : Nat.blt d X.n = true) (kk : WR X m ops rest ks ds ((d, .func fn vs.toArray #[]) :: l) w) :
 WR X m ops (⟨some d, .makeFunc fn first #[], ty, pos, aft, none⟩ :: rest) ks ds l w :=
 cY hd (by cases m <;> rfl) (fun a ha => by
  have he := eX ha hv;subst hf
  simp [execOp, Instr.makeFunc, he]) kk
/-- a call of a function's value that has its first arguments with it -/
theorem WR.callB {f : FuncId} {o : Operand} {args : Array Operand} {tys : Array TypeId} {as : List Operand} {fs vs : List Value} {R : Value → World → Prop} (ho : ev l o = some (.func (.func f) fs.toArray #[])) (has : args = as.toArray) (hv : evs l as = some vs) (hf : ∀ (us : Array Value) (w : World), (callFunc f us).run X.P w = .ok (.enter f us) w)
 (hc : eventOK m (.call ⟨.value o, args, tys⟩) ty = true) (hd : Nat.blt d X.n = true) (hcall : Ret X.P f (fs ++ vs).toArray w R) (k : ∀ v w', R v w' → WR X m ops rest ks ds ((d, v) :: l) w') :
 WR X m ops (⟨some d, .call ⟨.value o, args, tys⟩, ty, pos, aft, none⟩ :: rest) ks ds l w :=
 jY hd hc (fun a ha => by
  have he := eX ha hv;subst has;simp only [execOp, resolve, Deferred.ofValue, ha.ev ho, Sem.run_bind, Sem.run_pure, Result.andThen_ok, Go.invoke, List.map_toArray, he, Array.append_empty];rw [show fs.toArray ++ vs.toArray = (fs ++ vs).toArray by simp]
  exact hf _ _) hcall k
/-- a call of a method's value behind an interface whose dynamic type is known -/
theorem WR.callM {f : FuncId} {o : Operand} {name : String} {T : TypeId} {p : Addr} {args : Array Operand} {tys : Array TypeId} {as : List Operand} {vs : List Value} {R : Value → World → Prop} (ho : ev l o = some (.func (.method name) #[.iface T (.pointer (some p))] #[])) (has : args = as.toArray) (hv : evs l as = some vs)
 (hm : ∀ (p : Addr) (w : World), (method (X.P.types.size + Made.depth) T (.pointer (some p)) name).run X.P w = .ok (f, .pointer (some p)) w) (hf : ∀ (us : Array Value) (w : World), (callFunc f us).run X.P w = .ok (.enter f us) w)
 (hc : eventOK m (.call ⟨.value o, args, tys⟩) ty = true) (hd : Nat.blt d X.n = true) (hcall : Ret X.P f (Value.pointer (some p) :: vs).toArray w R) (k : ∀ v w', R v w' → WR X m ops rest ks ds ((d, v) :: l) w') :
 WR X m ops (⟨some d, .call ⟨.value o, args, tys⟩, ty, pos, aft, none⟩ :: rest) ks ds l w :=
 jY hd hc (fun a ha => by
  have he := eX ha hv;subst has;simp only [execOp, resolve, Deferred.ofValue, ha.ev ho, Sem.run_bind, Sem.run_pure, Result.andThen_ok, Go.invoke, List.map_toArray, he];have hx : (#[Value.iface T (.pointer (some p))] ++ vs.toArray)[0]? = some (Value.iface T (.pointer (some p))) := by simp
  have hy : (#[Value.iface T (.pointer (some p))] ++ vs.toArray).extract 1 (#[Value.iface T (.pointer (some p))] ++ vs.toArray).size = vs.toArray := by simp
  rw [hx, hy];have hp : (program).run X.P w = .ok X.P w := rfl;simp only [callMethod, Sem.run_bind, hp, Result.andThen_ok, hm];rw [show #[Value.pointer (some p)] ++ vs.toArray = (Value.pointer (some p) :: vs).toArray by simp]
  exact hf _ _) hcall k
end
theorem tC {P : Program} {fn : Func} {a1 t1 : Nat} {D1 : TypeDesc} {p1 : Addr} {v1 : Value} {tmps : Array Value} {w : World} (hrs : fn.results = #[.cell a1 t1]) (h1 : tmps.getD a1 undef = .pointer (some p1))
 (hu1 : P.underlying t1 = some D1) (hD1 : plainD D1 = true) (hc1 : w.cell? p1 = some v1) : (results fn tmps).run P w = .ok v1 w := by
 have ha1 : (asAddr (tmps.getD a1 undef)).run P w = .ok p1 w := by rw [h1]; rfl
 have hl1 : (loadVar t1 p1).run P w = .ok v1 w := by
  simp only [loadVar, Sem.run_bind, iN hu1 hD1, Result.andThen_ok]
  simp [hc1]
 unfold results;rw [hrs, show (#[ResultVar.cell a1 t1] : Array ResultVar) = [ResultVar.cell a1 t1].toArray from rfl, List.mapM_toArray];simp only [map_eq_pure_bind, Sem.run_bind, List.mapM_cons, List.mapM_nil, Sem.run_pure, Result.andThen_ok, ha1, hl1]
 simp
/-- the way out of a function whose one result lies in a cell -/
theorem WC.retC1 {P : Program} {fn : Func} {R : Value → World → Prop} {n : Nat} {ks : List KI} {l : Kn} {w : World} {a1 t1 : Nat} {D1 : TypeDesc} {p1 : Addr} {v1 : Value} (hrs : fn.results = #[.cell a1 t1]) (h1 : look l a1 = some (.pointer (some p1)))
 (hu1 : P.underlying t1 = some D1) (hD1 : plainD D1 = true) (hc1 : w.cell? p1 = some v1) (h : R v1 w) :
 WC ⟨P, n, bodyPost P fn fun e w' => ∃ v, e = .returned v ∧ R v w'⟩ .ret ks [] l w :=
 jN fun a ha => ⟨ha.defers, _, tC hrs (ha.get _ _ h1) hu1 hD1 hc1, _, rfl, h⟩
end Go.Proofs.YtccicbpeajdjgaaGreatDoor.Vm
namespace Go.Proofs.YtccicbpeajdjgaaGreatDoor.Vm
open Go Mix Go.RowKit
theorem tG {P : Program} (w : World) (base t ty e : Nat) (i : TypeInfo) (z : Value) (bytes : Nat) (ht : P.underlying t = some (.slice e)) (hi : P.info? e = some i) (hz : i.zero = some z)
 (hsize : i.size = 1) (hby : i.bytes = bytes) (hzs : z.cells.size = 1)
 (v : Value) (n : Nat) (xs : List Value) (hown : w.ownsRow base e 1 v n xs)
 (a : Addr) (m c : Nat) (news : List Value) (hl : news.length = m * 1) (hnews : ∀ j u, news[j]? = some u → w.cell? (a.add j) = some u) (h1 : ∀ u ∈ news, u.oneCell' = true)
 (h63 : n + m ≤ maxLen) (hbytes : (n + m) * bytes ≤ 140737488355328) (hbase : base ≤ w.heap.size) :
 ∃ v' w', (Builtin.append_ #[t, t] ty #[v, .slice (some a) m c]).run P w = .ok v' w' ∧ w'.ownsRow base e 1 v' (n + m) (xs ++ news) ∧ w.grownBy w' v.ownBlock ∧
  ∀ g', v'.ownBlock = some g' → v.ownBlock = some g' ∨ w.heap.size ≤ g' := by
 obtain ⟨v', w', hrun, ho, hg, _⟩ := run_append_own (P := P) w base t ty e i z 1 bytes ht hi hz hsize hby hzs zo v n xs hown a m c news hl hnews h1 h63 hbytes hbase;refine ⟨v', w', hrun, ho, hg, fun g' hg' => ?_⟩;rcases hown.2 with ⟨rfl, rfl⟩ | ⟨g, cap, cur, rfl, hbg, hgc, hnc, hcm, hcs, htake⟩
 ·have hx : xs = [] := List.eq_nil_of_length_eq_zero (by simpa using hown.1);subst hx;obtain ⟨v2, w2, hrun2, ho2, _, _⟩ := run_append_own (P := P) w w.heap.size t ty e i z 1 bytes ht hi hz hsize hby hzs zo (.slice none 0 0) 0 [] (World.ownsRow_nil w _ e 1) a m c news hl hnews h1 h63 hbytes (Nat.le_refl _);rw [hrun] at hrun2
  obtain ⟨rfl, rfl⟩ : v' = v2 ∧ w' = w2 := by injection hrun2 with h1 h2; exact ⟨h1, h2⟩
  exact .inr (World.ownsRow.lt ho2 g' hg').1
 ·by_cases hroom : n + m ≤ cap
  ·obtain ⟨w2, hrun2, _, _⟩ := run_append_fits (P := P) w base t ty e i 1 ht hi hsize g n cap xs hown a m c news hl hnews h1 hroom;rw [hrun] at hrun2
   obtain ⟨rfl, rfl⟩ : v' = .slice (some ⟨g, 0, none⟩) (n + m) cap ∧ w' = w2 := by injection hrun2 with h1 h2; exact ⟨h1, h2⟩
   exact .inl hg'
  ·have holds : ∀ j u, xs[j]? = some u → w.cell? ((⟨g, 0, none⟩ : Addr).add j) = some u := hown.cells (g := g) rfl
   have hsmall : n + m ≤ 9223372036854775807 := by simp only [maxLen] at h63; omega
   have hrun2 := run_append_grow (P := P) w t ty e i z ht hi hz ⟨g, 0, none⟩ n cap xs (by rw [hsize]; exact hown.1) holds a m c news (by rw [hsize]; exact hl) hnews zw zw (growslice_fits zw (by rw [hby]; exact hbytes));rw [hrun] at hrun2
   injection hrun2 with h1 h2
   subst h1;simp only [Value.ownBlock, Option.some.injEq] at hg';exact .inr (Nat.le_of_eq hg')
section
variable {X : Cx} {m : Option (List Nat)} {ops : Array Oper} {rest : List Oper} {ks : List KI} {ds : List Deferred} {l : Kn} {w : World} {d ty : Nat} {pos : String} {aft : Array Edge} {v : Value}
theorem WR.appendF {t E by' : Nat} {x y : Operand} {base base2 : Nat} {xs ys : List Value} {u z : Value} (hx : ev l x = some v) (hown : Own w base E v xs) (hy : ev l y = some u) (hls : Ls w base2 u ys) (h1 : ∀ i, i < ys.length → (ys.getD i undef).oneCell' = true)
 (hu : X.P.underlying t = some (.slice E)) (hi : (X.P.info? E).map (fun i => (i.size, i.bytes, i.zero)) = some (1, by', some z)) (hz : z.cells = #[z]) (hby : by' ≤ 16) (hn : xs.length + ys.length ≤ 1099511627776) (hbase : base ≤ w.heap.size)
 (hc : eventOK m (.call ⟨.builtin .append, #[x, y], #[t, t]⟩) ty = true) (hd : Nat.blt d X.n = true)
 (kk : ∀ v' w', Own w' base E v' (xs ++ ys) → Same v.ownBlock.toList w w' → (∀ g', v'.ownBlock = some g' → v.ownBlock = some g' ∨ w.heap.size ≤ g') → WR X m ops rest ks ds ((d, v') :: l) w') :
 WR X m ops (⟨some d, .call ⟨.builtin .append, #[x, y], #[t, t]⟩, ty, pos, aft, none⟩ :: rest) ks ds l w := by
 rcases hls with ⟨rfl, rfl⟩ | ⟨g, o, c, rfl, _, hlt, hrd⟩
 ·cases hi' : X.P.info? E with
  | none => rw [hi'] at hi; cases hi
  | some i =>
   have hk := kk v w (by rw [List.append_nil]; exact hown) (Same.refl _ w) (fun g' h => .inl h);refine eI hd hc (w' := w) (fun a ha => ?_) hk;have hr := run_append_owned_none (P := X.P) w base t ty E i 1 hu hi' v xs.length xs hown;simp only [execOp, resolve, Sem.run_bind, Sem.run_pure, Result.andThen_ok, Go.invoke, builtin, List.map_toArray, List.map_cons, List.map_nil, ha.ev hx, ha.ev hy, hr]
 ·cases hi' : X.P.info? E with
  | none => rw [hi'] at hi; cases hi
  | some i =>
   rw [hi'] at hi;simp only [Option.map_some, Option.some.injEq, Prod.mk.injEq] at hi;obtain ⟨hs, hb, hz'⟩ := hi;have hnb : (xs.length + ys.length) * by' ≤ 1099511627776 * 16 := Nat.mul_le_mul hn hby
   obtain ⟨v', w', hrun, ho, hg, hfr⟩ := tG (P := X.P) w base t ty E i z by' hu hi' hz' hs hb (by rw [hz]; rfl) v xs.length xs hown ⟨g, o, none⟩ ys.length c ys zp
    (fun j u hj => by
     have hj2 : j < ys.length := (List.getElem?_eq_some_iff.1 hj).1;rw [Addr.add_lit, hrd j hj2]
     simp only [List.getD_eq_getElem?_getD, hj, Option.getD_some])
    (fun u hu' => by
     obtain ⟨j, hj, rfl⟩ := List.getElem_of_mem hu';have := h1 j hj
     simpa [hj] using this)
    (by simp only [maxLen]; omega) zw hbase
   refine eI hd hc (w' := w') (fun a ha => ?_) (kk v' w' ?_ ⟨hg.size, fun q hq hqS => hg.block q hq fun e => hqS (by rw [← e]; simp), hg.os, hg.output, hg.tape⟩ hfr)
   ·simp only [execOp, resolve, Sem.run_bind, Sem.run_pure, Result.andThen_ok, Go.invoke, builtin, List.map_toArray, List.map_cons, List.map_nil, ha.ev hx, ha.ev hy, hrun]
   ·unfold Own;rw [List.length_append];exact ho
end
end Go.Proofs.YtccicbpeajdjgaaGreatDoor.Vm
namespace Go.Proofs.YtccicbpeajdjgaaGreatDoor.Num
/-- the first n bytes as one number -/
def num (d : Nat → Nat) : Nat → Nat
 | 0 => 0
 | n + 1 => num d n + d n * 256 ^ n
/-- w bts from bit p on -/
def bts (B p w : Nat) : Nat := B / 2 ^ p % 2 ^ w
theorem qZ {d : Nat → Nat} : ∀ (n : Nat), (∀ i, i < n → d i < 256) → num d n < 256 ^ n
 | 0, _ => by simp [num]
 | n + 1, h => by
  have h1 := qZ n fun i hi => h i (by omega);have h2 := h n (by omega);have h3 : d n * 256 ^ n ≤ 255 * 256 ^ n := Nat.mul_le_mul_right _ (by omega);simp only [num, Nat.pow_succ];omega
theorem lJ {d e : Nat → Nat} : ∀ (n : Nat), (∀ i, i < n → d i = e i) → num d n = num e n
 | 0, _ => rfl
 | n + 1, h => by simp only [num]; rw [lJ n fun i hi => h i (by omega), h n (by omega)]
theorem oQ (d : Nat → Nat) (o : Nat) : ∀ (n : Nat), num d (o + n) = num d o + num (fun i => d (o + i)) n * 256 ^ o
 | 0 => by simp [num]
 | n + 1 => by
  rw [← Nat.add_assoc];simp only [num];rw [oQ d o n, Nat.add_mul, Nat.pow_add];simp only [Nat.add_assoc, Nat.mul_assoc, Nat.mul_comm (256 ^ o) (256 ^ n)]
/-- a stretch of bytes is a stretch of the number -/
theorem pV {d : Nat → Nat} {n o m : Nat} (h : ∀ i, i < n → d i < 256) (hm : o + m ≤ n) : num (fun i => d (o + i)) m = num d n / 256 ^ o % 256 ^ m := by
 have h1 : num d n = num d o + num (fun i => d (o + i)) (n - o) * 256 ^ o := by
  have := oQ d o (n - o)
  rwa [show o + (n - o) = n by omega] at this
 have h2 := qZ (d := d) o fun i hi => h i (by omega);have hp : 0 < 256 ^ o := Nat.pow_pos (by decide)
 have h3 : num d n / 256 ^ o = num (fun i => d (o + i)) (n - o) := by
  rw [h1, Nat.add_mul_div_right _ _ hp, Nat.div_eq_of_lt h2, Nat.zero_add]
 rw [h3]
 have h4 : num (fun i => d (o + i)) (n - o) = num (fun i => d (o + i)) m + num (fun i => d (o + (m + i))) (n - o - m) * 256 ^ m := by
  have := oQ (fun i => d (o + i)) m (n - o - m)
  rwa [show m + (n - o - m) = n - o by omega] at this
 have h5 := qZ (d := fun i => d (o + i)) m fun i hi => h (o + i) (by omega);rw [h4, Nat.add_mul_mod_self_right, Nat.mod_eq_of_lt h5]
theorem mO {d : Nat → Nat} {n m : Nat} (h : ∀ i, n ≤ i → d i = 0) (hm : n ≤ m) : num d m = num d n := by
  induction m with
  | zero => have : n = 0 := by omega
            subst this; rfl
  | succ m ih =>
    by_cases hn : n = m + 1
    · subst hn; rfl
    · simp only [num]; rw [ih (by omega), h m (by omega)]; omega
theorem lZ (n : Nat) : 256 ^ n = 2 ^ (8 * n) := by rw [show (256 : Nat) = 2 ^ 8 from rfl, ← Nat.pow_mul]
theorem bts_lt (B p w : Nat) : bts B p w < 2 ^ w := Nat.mod_lt _ (Nat.pow_pos (by decide))
/-- bts of bts -/
theorem pA {B p w q v : Nat} (h : q + v ≤ w) : bts (bts B p w) q v = bts B (p + q) v := by
 unfold bts
 have hw : 2 ^ w = 2 ^ q * 2 ^ (w - q) := by rw [← Nat.pow_add]; congr 1; omega
 rw [hw, Nat.mod_mul_right_div_self, Nat.div_div_eq_div_mul, ← Nat.pow_add, Nat.mod_mod_of_dvd];exact Nat.pow_dvd_pow 2 (by omega)
/-- two stretches behind one another -/
theorem bts_add (B p w v : Nat) : bts B p (w + v) = bts B p w + bts B (p + w) v * 2 ^ w := by
 unfold bts;rw [Nat.pow_add, Nat.mod_mul, Nat.div_div_eq_div_mul, ← Nat.pow_add, Nat.mul_comm (2 ^ w)]
theorem bts_zero (B p : Nat) : bts B p 0 = 0 := by simp [bts, Nat.mod_one]
theorem eU (d : Nat → Nat) (n : Nat) : num d (n + 1) = num d n + d n * 256 ^ n := rfl
theorem num4 (e : Nat → Nat) : num e 4 = e 0 + e 1 * 256 + e 2 * 65536 + e 3 * 16777216 := by
 rw [eU e 3, eU e 2, eU e 1, eU e 0]; simp [num]
theorem num8 (e : Nat → Nat) : num e 8 = e 0 + e 1 * 256 + e 2 * 65536 + e 3 * 16777216 + e 4 * 4294967296 + e 5 * 1099511627776 + e 6 * 281474976710656 + e 7 * 72057594037927936 := by
 rw [eU e 7, eU e 6, eU e 5, eU e 4, eU e 3, eU e 2, eU e 1, eU e 0]; simp [num]
theorem num8i (e : Nat → Nat) : (e 0 : Int) + (e 1 : Int) * 256 + (e 2 : Int) * 65536 + (e 3 : Int) * 16777216 + (e 4 : Int) * 4294967296 + (e 5 : Int) * 1099511627776 + (e 6 : Int) * 281474976710656 + (e 7 : Int) * 72057594037927936 = (num e 8 : Int) := by
 rw [num8]; omega
theorem num4i (e : Nat → Nat) : (e 0 : Int) + (e 1 : Int) * 256 + (e 2 : Int) * 65536 + (e 3 : Int) * 16777216 = (num e 4 : Int) := by
 rw [num4]; omega
/-- bytes that are filled up with zeros -/
theorem num_pad {d : Nat → Nat} {n o m k : Nat} (h : ∀ i, i < n → d i < 256) (hk : k = min (n - o) m) : num (fun i => if i < k then d (o + i) else 0) m = bts (num d n) (8 * o) (8 * m) := by
 let d0 : Nat → Nat := fun i => if i < n then d i else 0
 have h0 : ∀ i, d0 i < 256 := fun i => by
  show (if i < n then d i else 0) < 256
  split
  ·exact h i ‹_›
  ·omega
 have e1 : num (fun i => if i < k then d (o + i) else 0) m = num (fun i => d0 (o + i)) m := lJ m fun i hi => by
  show (if i < k then d (o + i) else 0) = if o + i < n then d (o + i) else 0
  by_cases hc : i < k
  ·rw [if_pos hc, if_pos (by omega)]
  ·rw [if_neg hc, if_neg (by omega)]
 have e2 : num d0 (max n (o + m)) = num d n := by
  rw [mO (n := n) (fun i hi => by show (if i < n then d i else 0) = 0; rw [if_neg (by omega)]) (by omega)]
  exact lJ n fun i hi => by show (if i < n then d i else 0) = d i; rw [if_pos hi]
 rw [e1, pV (n := max n (o + m)) (fun i _ => h0 i) (by omega), e2, lZ, lZ];rfl
theorem sA (x q n : Nat) : x % 2 ^ (q + n) / 2 ^ q = bts x q n := by
 unfold bts;rw [Nat.pow_add, Nat.mod_mul_right_div_self]
theorem rJ (B p q : Nat) (h : q ≤ 64) : bts B p 64 / 2 ^ q = bts B (p + q) (64 - q) := by
 have h1 := sA (bts B p 64) q (64 - q);rw [show q + (64 - q) = 64 by omega, Nat.mod_eq_of_lt (bts_lt B p 64)] at h1;rw [h1, pA (by omega)]
theorem mul_pow_lt {x r f : Nat} (h : r + f ≤ 64) : x % 2 ^ r * 2 ^ f < 18446744073709551616 := by
 have h1 : x % 2 ^ r < 2 ^ r := Nat.mod_lt _ (Nat.pow_pos (by decide));have h2 : x % 2 ^ r * 2 ^ f < 2 ^ r * 2 ^ f := Nat.mul_lt_mul_of_pos_right h1 (Nat.pow_pos (by decide));rw [← Nat.pow_add] at h2;have h3 : 2 ^ (r + f) ≤ 2 ^ 64 := Nat.pow_le_pow_right (by decide) h;omega
theorem bts_mod {B p w r : Nat} (h : r ≤ w) : bts B p w % 2 ^ r = bts B p r := by
 have := pA (B := B) (p := p) (w := w) (q := 0) (v := r) (by omega)
 simpa [bts] using this
theorem next_join {B bo bit n : Nat} (h : 64 < bit + n) (hb : bit < 64) (hn : n ≤ 64) : bts B (8 * bo) 64 / 2 ^ bit + bts B (8 * (bo + 8)) 64 % 2 ^ (n - (64 - bit)) * 2 ^ (64 - bit) = bts B (8 * bo + bit) n := by
 rw [rJ _ _ _ (by omega), bts_mod (by omega)];have := bts_add B (8 * bo + bit) (64 - bit) (n - (64 - bit));rw [show 64 - bit + (n - (64 - bit)) = n by omega, show 8 * bo + bit + (64 - bit) = 8 * (bo + 8) by omega] at this;exact this.symm
theorem next_plain {B p bit n : Nat} (h : bit + n ≤ 64) : bts B p 64 % 2 ^ (bit + n) / 2 ^ bit = bts B (p + bit) n := by
 rw [sA, pA h]
theorem num_bts {d : Nat → Nat} {n o m : Nat} (h : ∀ i, i < n → d i < 256) (hm : o + m ≤ n) : num (fun i => d (o + i)) m = bts (num d n) (8 * o) (8 * m) := by
 rw [pV h hm, lZ, lZ]; rfl
attribute [irreducible] num bts
end Go.Proofs.YtccicbpeajdjgaaGreatDoor.Num
