/- Lists read through a slice, appends of them, fields of values, deferred calls. -/
import Derived.Test.YthmknddfkmklfaaGreatDoorVmMake
import Derived.Recover
namespace Go.Proofs.YthmknddfkmklfaaGreatDoor.Vm
open Go Mix Go.RowKit
/-- the slice v reads as ys, in a block from base on -/
def Ls (w : World) (base : Nat) (v : Value) (ys : List Value) : Prop :=
  v = .slice none 0 0 ∧ ys = [] ∨ ∃ g o c, v = .slice (some ⟨g, o, none⟩) ys.length c ∧ base ≤ g ∧ g < w.heap.size ∧ Rd w g o ys.length (fun i => ys.getD i undef)
section
variable {w w' : World} {base : Nat} {E : TypeId} {v : Value} {xs ys : List Value} {S : List Nat}
theorem Own.one (h : Own w base E v xs) : v.oneCell' = true := by
  rcases h.read with ⟨rfl, _⟩ | ⟨g, c, rfl, _⟩ <;> rfl
theorem Own.ls (h : Own w base E v xs) : Ls w base v xs := by
  rcases h.read with h | ⟨g, c, h1, h2, h3, h4⟩
  · exact .inl h
  · exact .inr ⟨g, 0, c, h1, h2, h3, h4⟩
theorem Ls.same (h : Ls w base v ys) (hs : Same S w w') (hS : ∀ g, g ∈ S → g < base ∨ w.heap.size ≤ g) : Ls w' base v ys := by
  rcases h with h | ⟨g, o, c, h1, h2, h3, h4⟩
  · exact .inl h
  · refine .inr ⟨g, o, c, h1, h2, Nat.lt_of_lt_of_le h3 hs.size, h4.same hs (fun hm => ?_) h3⟩
    rcases hS g hm with h | h <;> omega
theorem Ls.low (h : Ls w base v ys) {b' : Nat} (hb : b' ≤ base) : Ls w b' v ys := by
  rcases h with h | ⟨g, o, c, h1, h2, h3⟩
  · exact .inl h
  · exact .inr ⟨g, o, c, h1, by omega, h3⟩
theorem Ls.shape (h : Ls w base v ys) : ∃ A c, v = .slice A ys.length c := by
  rcases h with ⟨h, rfl⟩ | ⟨g, o, c, h1, _⟩
  · exact ⟨none, 0, h⟩
  · exact ⟨_, c, h1⟩
theorem Ls.lit (h : Ls w base v ys) (h0 : 0 < ys.length) : ∃ g o c, v = .slice (some ⟨g, o, none⟩) ys.length c ∧ base ≤ g ∧ g < w.heap.size ∧ Rd w g o ys.length (fun i => ys.getD i undef) := by
  rcases h with ⟨_, rfl⟩ | h
  · simp at h0
  · exact h
theorem Row.ls {b t n o k c : Nat} {F : Nat → Value} (h : Row w b t n F) (hy : ys.length = k) (hk : o + k ≤ n) (hb : base ≤ b) (he : ∀ i, i < k → F (o + i) = ys.getD i undef) : Ls w base (.slice (some ⟨b, o, none⟩) k c) ys := by
  subst hy
  exact .inr ⟨b, o, c, rfl, hb, h.lt, (h.rd o _ hk).congr he⟩
theorem range_getD (ys : List Value) : (List.range ys.length).map (fun i => ys.getD i undef) = ys := by
  refine List.ext_getElem (by simp) fun i h1 h2 => ?_
  simp only [List.getElem_map, List.getElem_range]
  simp at h1
  simp [h1]
end
section
variable {X : Cx} {m : Option (List Nat)} {ops : Array Oper} {rest : List Oper} {ks : List KI} {ds : List Deferred} {l : Kn} {w : World} {d ty : Nat} {pos : String} {aft : Array Edge} {v : Value}
theorem WR.appendL {t E by' : Nat} {x y : Operand} {base base2 : Nat} {xs ys : List Value} {u z : Value} (hx : ev l x = some v) (hown : Own w base E v xs) (hy : ev l y = some u) (hls : Ls w base2 u ys) (h1 : ∀ i, i < ys.length → (ys.getD i undef).oneCell' = true)
    (hu : X.P.underlying t = some (.slice E)) (hi : (X.P.info? E).map (fun i => (i.size, i.bytes, i.zero)) = some (1, by', some z)) (hz : z.cells = #[z]) (hby : by' ≤ 16) (hn : xs.length + ys.length ≤ 1099511627776) (hbase : base ≤ w.heap.size)
    (hc : eventOK m (.call ⟨.builtin .append, #[x, y], #[t, t]⟩) ty = true) (hd : Nat.blt d X.n = true)
    (kk : ∀ v' w' S, Own w' base E v' (xs ++ ys) → Same S w w' → (∀ g, g ∈ S → base ≤ g) → WR X m ops rest ks ds ((d, v') :: l) w') :
    WR X m ops (⟨some d, .call ⟨.builtin .append, #[x, y], #[t, t]⟩, ty, pos, aft, none⟩ :: rest) ks ds l w := by
  rcases hls with ⟨rfl, rfl⟩ | ⟨g, o, c, rfl, _, hlt, hrd⟩
  · cases hi' : X.P.info? E with
    | none => rw [hi'] at hi; cases hi
    | some i =>
      have hk := kk v w [] (by rw [List.append_nil]; exact hown) (Same.refl [] w) (by simp)
      refine WR.event hd hc (w' := w) (fun a ha => ?_) hk
      rw [hi'] at hi
      simp only [Option.map_some, Option.some.injEq, Prod.mk.injEq] at hi
      have hr := run_append_owned_none (P := X.P) w base t ty E i 1 hu hi' v xs.length xs hown
      simp only [execOp, resolve, Sem.run_bind, Sem.run_pure, Result.andThen_ok, Go.invoke, builtin, List.map_toArray, List.map_cons, List.map_nil, ha.ev hx, ha.ev hy, hr]
  · refine WR.appendOwn hx hown hy hrd h1 hu hi hz hby hn hbase hc hd fun v' w' S h1 h2 h3 => kk v' w' S ?_ h2 h3
    rw [range_getD] at h1
    exact h1
/-- a field of a struct's value: a closed fact of the type says what it is -/
theorem WR.fieldV {t i : Nat} {x : Operand} {u : Value} (hx : ev l x = some u) (hr : ∀ w, (Instr.field t u i).run X.P w = .ok v w) (hd : Nat.blt d X.n = true)
    (kk : WR X m ops rest ks ds ((d, v) :: l) w) : WR X m ops (⟨some d, .field t x i, ty, pos, aft, none⟩ :: rest) ks ds l w :=
  WR.still hd (by cases m <;> rfl) (fun a ha => by
    simp only [execOp, ha.ev hx, Sem.run_bind, hr, Result.andThen_ok, Sem.run_pure]) kk
theorem WR.negOp {t : TypeId} {x : Operand} {k : IntKind} {a z : Int} (hx : ev l x = some (.int k a)) (hz : k.wrap (-a) = z) (hd : Nat.blt d X.n = true) (kk : WR X m ops rest ks ds ((d, .int k z) :: l) w) :
    WR X m ops (⟨some d, .unOp .neg t x, ty, pos, aft, none⟩ :: rest) ks ds l w :=
  WR.still hd (by cases m <;> rfl) (fun c hc => by simp [execOp, hc.ev hx, Op.unary, Op.intArith, hz]) kk
/-- a call put off -/
theorem WR.deferF {f : FuncId} {args : Array Operand} {tys : Array TypeId} {as : List Operand} {vs : List Value} (has : args = as.toArray) (hv : evs l as = some vs)
    (k : WR X none ops rest ks (⟨.fn (.func f) #[], vs.toArray⟩ :: ds) l w) :
    WR X none ops (⟨none, .defer ⟨.value (.func f), args, tys⟩, ty, pos, aft, none⟩ :: rest) ks ds l w := by
  intro a ha
  have he := evs_of ha hv
  subst has
  have hf : Fr { a with defers := ⟨.fn (.func f) #[], vs.toArray⟩ :: a.defers } X.n (⟨.fn (.func f) #[], vs.toArray⟩ :: ds) l := ⟨by rw [ha.defers], ha.size, ha.get⟩
  have hk := k _ hf
  have hr : (execOp a.eval (bare (.defer ⟨.value (.func f), as.toArray, tys⟩) ty)).run X.P w = .ok (.defer ⟨.fn (.func f) #[], vs.toArray⟩) w := by
    simp only [execOp, resolve, Deferred.ofValue, Act.eval, Sem.run_bind, Sem.run_pure, Result.andThen_ok, List.map_toArray, he, Array.append_empty, Array.empty_append]
  refine wpList_plain rfl fun K hK => ?_
  unfold Oper.wp
  rw [execOp_bare, hr]
  exact hK _ _ hk
end
/-- a store of a whole struct -/
theorem WR.storeAgg {X : Cx} {m : Option (List Nat)} {ops : Array Oper} {rest : List Oper} {ks : List KI} {ds : List Deferred} {l : Kn} {w : World} {ty : Nat} {pos : String} {aft : Array Edge} {t s b o n T : Nat} {x y : Operand} {f : Nat → Value} {cs : Array Value} (hx : ev l x = some (.pointer (some ⟨b, o, none⟩))) (hy : ev l y = some (.agg cs)) (hs : (X.P.info? t).map (·.size) = some s) (hsz : cs.size = s) (h1 : ∀ v ∈ cs.toList, v.oneCell' = true)
    (hb : Row w b T n f) (hfit : o + s ≤ n) (k : ∀ w', Row w' b T n (ovr f o cs.toList) → Same [b] w w' → WR X m ops rest ks ds l w') :
    WR X m ops (⟨none, .store t x y, ty, pos, aft, none⟩ :: rest) ks ds l w :=
  WR.eventN (by cases m <;> rfl) (w' := w.setCells b o cs.toList) (fun a ha => by
    have hr := run_storeCells_cells (P := X.P) b o cs.toList 0 w (fun j hj => by
      rw [hb.cell (by simp at hj; omega)]; rfl) (fun j _ => hb.fz _) h1
    simp only [Nat.add_zero] at hr
    have hc : (Value.agg cs).cells = cs := rfl
    simp only [execOp, ha.ev hx, ha.ev hy, Instr.storeAt, Instr.sureAddr, storeVar, Sem.run_bind, Sem.run_pure, Result.andThen_ok, run_sizeOf hs, hc]
    rw [if_neg (by rw [hsz]; simp)]
    simp [hr]) (k _ (hb.setCells _ _ _ _) (Same.setCells b _ o w))
theorem run_resA {P : Program} {fn : Func} {a1 t1 s b o : Nat} {D1 : TypeDesc} {f : Nat → Value} {tmps : Array Value} {w : World} (hrs : fn.results = #[.cell a1 t1]) (h1 : tmps.getD a1 undef = .pointer (some ⟨b, o, none⟩))
    (hu1 : P.underlying t1 = some D1) (hD1 : plainD D1 = false) (hs : (P.info? t1).map (·.size) = some s) (hc : Rd w b o s f) : (results fn tmps).run P w = .ok (.agg ((List.range s).map f).toArray) w := by
  have ha1 : (asAddr (tmps.getD a1 undef)).run P w = .ok ⟨b, o, none⟩ w := by rw [h1]; rfl
  have ha' : (isAgg t1).run P w = .ok true w := by
    unfold isAgg
    simp only [Sem.run_bind, run_underlying hu1, Result.andThen_ok]
    cases D1 <;> first | rfl | cases hD1
  have hl := run_loadCells_list (P := P) w ⟨b, o, none⟩ ((List.range s).map f) (fun j v hv => by
    rw [add_none]
    have hj : j < s := by
      rcases Nat.lt_or_ge j s with h | h
      · exact h
      · simp [h] at hv
    rw [hc j hj]
    simpa [hj] using hv)
  simp only [List.length_map, List.length_range] at hl
  have hl1 : (loadVar t1 ⟨b, o, none⟩).run P w = .ok (.agg ((List.range s).map f).toArray) w := by
    simp only [loadVar, Sem.run_bind, ha', Result.andThen_ok]
    simp [run_sizeOf hs, hl]
  unfold results
  rw [hrs, show (#[ResultVar.cell a1 t1] : Array ResultVar) = [ResultVar.cell a1 t1].toArray from rfl, List.mapM_toArray]
  simp only [map_eq_pure_bind, Sem.run_bind, List.mapM_cons, List.mapM_nil, Sem.run_pure, Result.andThen_ok, ha1, hl1]
  simp
/-- the way out of a function whose one result is a struct in a cell -/
theorem WC.retA {P : Program} {fn : Func} {R : Value → World → Prop} {n : Nat} {ks : List KI} {l : Kn} {w : World} {a1 t1 s b o : Nat} {D1 : TypeDesc} {f : Nat → Value} (hrs : fn.results = #[.cell a1 t1]) (h1 : look l a1 = some (.pointer (some ⟨b, o, none⟩)))
    (hu1 : P.underlying t1 = some D1) (hD1 : plainD D1 = false) (hs : (P.info? t1).map (·.size) = some s) (hc : Rd w b o s f) (h : R (.agg ((List.range s).map f).toArray) w) :
    WC ⟨P, n, bodyPost P fn fun e w' => ∃ v, e = .returned v ∧ R v w'⟩ .ret ks [] l w :=
  WC.ret fun a ha => ⟨ha.defers, _, run_resA hrs (ha.get _ _ h1) hu1 hD1 hs hc, _, rfl, h⟩
/-- a function that puts calls off -/
theorem Ret.enterD {P : Program} {f : FuncId} {fn : Func} {n : Nat} {c : Code} {vs : List Value} {w : World} {R : Value → World → Prop} (hf : P.funcs[f]? = some fn) (hn : fn.ntmps = n) (hb : fn.body = some c)
    (hl : Nat.ble vs.length n = true) (h : WC ⟨P, n, bodyPostD P fn fun e w' => ∃ v, e = .returned v ∧ R v w'⟩ c [] [] (args0 0 vs) w) : Ret P f vs.toArray w R := by
  refine calls_of_wp_defers hf hb ?_
  rw [hn]
  exact h _ (Fr.enter n vs (by simpa using hl))
theorem run_resC2 {P : Program} {fn : Func} {a1 t1 a2 t2 : Nat} {D1 D2 : TypeDesc} {p1 p2 : Addr} {v1 v2 : Value} {tmps : Array Value} {w : World} (hrs : fn.results = #[.cell a1 t1, .cell a2 t2]) (h1 : tmps.getD a1 undef = .pointer (some p1)) (h2 : tmps.getD a2 undef = .pointer (some p2))
    (hu1 : P.underlying t1 = some D1) (hD1 : plainD D1 = true) (hu2 : P.underlying t2 = some D2) (hD2 : plainD D2 = true) (hc1 : w.cell? p1 = some v1) (hc2 : w.cell? p2 = some v2) : (results fn tmps).run P w = .ok (.tuple #[v1, v2]) w := by
  have ha1 : (asAddr (tmps.getD a1 undef)).run P w = .ok p1 w := by rw [h1]; rfl
  have ha2 : (asAddr (tmps.getD a2 undef)).run P w = .ok p2 w := by rw [h2]; rfl
  have hl1 : (loadVar t1 p1).run P w = .ok v1 w := by
    simp only [loadVar, Sem.run_bind, run_isAgg hu1 hD1, Result.andThen_ok]
    simp [hc1]
  have hl2 : (loadVar t2 p2).run P w = .ok v2 w := by
    simp only [loadVar, Sem.run_bind, run_isAgg hu2 hD2, Result.andThen_ok]
    simp [hc2]
  unfold results
  rw [hrs, show (#[ResultVar.cell a1 t1, .cell a2 t2] : Array ResultVar) = [ResultVar.cell a1 t1, .cell a2 t2].toArray from rfl, List.mapM_toArray]
  simp only [map_eq_pure_bind, Sem.run_bind, List.mapM_cons, List.mapM_nil, Sem.run_pure, Result.andThen_ok, ha1, ha2, hl1, hl2]
  simp
/-- the way out of a function with two result cells and one call put off, which does nothing -/
theorem leave2 {P : Program} {fn : Func} {R : Value → World → Prop} {n : Nat} {l : Kn} {w w2 : World} {F : FuncId} {dargs : Array Value} {a1 t1 a2 t2 : Nat} {D1 D2 : TypeDesc} {p1 p2 : Addr} {v1 v2 : Value}
    (hrs : fn.results = #[.cell a1 t1, .cell a2 t2]) (h1 : look l a1 = some (.pointer (some p1))) (h2 : look l a2 = some (.pointer (some p2)))
    (hu1 : P.underlying t1 = some D1) (hD1 : plainD D1 = true) (hu2 : P.underlying t2 = some D2) (hD2 : plainD D2 = true)
    (hcf : (callFunc F dargs).run P w = .ok (.enter F dargs) w) (hcall : CallsD P F dargs .returning w fun e u' w' => (∃ v, e = .returned v) ∧ u' = .returning ∧ w' = w2)
    (hc1 : w2.cell? p1 = some v1) (hc2 : w2.cell? p2 = some v2) (h : R (.tuple #[v1, v2]) w2) (a : Act) (ha : Fr a n [⟨.fn (.func F) #[], dargs⟩] l) :
    Leaves P fn a.tmps (fun e w' => ∃ v, e = .returned v ∧ R v w') a.defers .returning w := by
  rw [ha.defers]
  refine leaves_cons (f := F) (args := dargs) (by simp) (by simp only [Go.invoke, Array.append_empty]; exact hcf) (hcall.mono ?_)
  rintro e u' w' ⟨⟨v, rfl⟩, rfl, rfl⟩
  exact ⟨_, run_resC2 hrs (ha.get _ _ h1) (ha.get _ _ h2) hu1 hD1 hu2 hD2 hc1 hc2, _, rfl, h⟩
theorem WC.retD2 {P : Program} {fn : Func} {R : Value → World → Prop} {n : Nat} {ks : List KI} {l : Kn} {w : World} (w2 : World) {F : FuncId} {dargs : Array Value} {a1 t1 a2 t2 : Nat} {D1 D2 : TypeDesc} {p1 p2 : Addr} {v1 v2 : Value}
    (hrs : fn.results = #[.cell a1 t1, .cell a2 t2]) (h1 : look l a1 = some (.pointer (some p1))) (h2 : look l a2 = some (.pointer (some p2)))
    (hu1 : P.underlying t1 = some D1) (hD1 : plainD D1 = true) (hu2 : P.underlying t2 = some D2) (hD2 : plainD D2 = true)
    (hcf : (callFunc F dargs).run P w = .ok (.enter F dargs) w) (hcall : CallsD P F dargs .returning w fun e u' w' => (∃ v, e = .returned v) ∧ u' = .returning ∧ w' = w2)
    (hc1 : w2.cell? p1 = some v1) (hc2 : w2.cell? p2 = some v2) (h : R (.tuple #[v1, v2]) w2) :
    WC ⟨P, n, bodyPostD P fn fun e w' => ∃ v, e = .returned v ∧ R v w'⟩ .ret ks [⟨.fn (.func F) #[], dargs⟩] l w :=
  WC.ret fun a ha => leave2 hrs h1 h2 hu1 hD1 hu2 hD2 hcf hcall hc1 hc2 h a ha
theorem WN.endD2 {P : Program} {fn : Func} {R : Value → World → Prop} {n : Nat} {l : Kn} {w : World} (w2 : World) {F : FuncId} {dargs : Array Value} {a1 t1 a2 t2 : Nat} {D1 D2 : TypeDesc} {p1 p2 : Addr} {v1 v2 : Value}
    (hrs : fn.results = #[.cell a1 t1, .cell a2 t2]) (h1 : look l a1 = some (.pointer (some p1))) (h2 : look l a2 = some (.pointer (some p2)))
    (hu1 : P.underlying t1 = some D1) (hD1 : plainD D1 = true) (hu2 : P.underlying t2 = some D2) (hD2 : plainD D2 = true)
    (hcf : (callFunc F dargs).run P w = .ok (.enter F dargs) w) (hcall : CallsD P F dargs .returning w fun e u' w' => (∃ v, e = .returned v) ∧ u' = .returning ∧ w' = w2)
    (hc1 : w2.cell? p1 = some v1) (hc2 : w2.cell? p2 = some v2) (h : R (.tuple #[v1, v2]) w2) :
    WN ⟨P, n, bodyPostD P fn fun e w' => ∃ v, e = .returned v ∧ R v w'⟩ [] [⟨.fn (.func F) #[], dargs⟩] l w := fun a ha => leave2 hrs h1 h2 hu1 hD1 hu2 hD2 hcf hcall hc1 hc2 h a ha
end Go.Proofs.YthmknddfkmklfaaGreatDoor.Vm
