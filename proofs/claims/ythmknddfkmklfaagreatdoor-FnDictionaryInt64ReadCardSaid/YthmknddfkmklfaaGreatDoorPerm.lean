/- A region that draws its order, walked in an order that is named: steps that know nothing of the world may be taken ahead of those that turn it. -/
import Derived.Test.YthmknddfkmklfaaGreatDoorVmMore
namespace Go.Proofs.YthmknddfkmklfaaGreatDoor.Mix
open Go
def lexP (qs : List Nat) (ops : Array Oper) : List Nat → Array Bool → Bool
  | [], listed => (Region.ready .any ops listed).isEmpty
  | k :: π, listed => (match ops[k]? with
      | none => false
      | some o => o.guard.isNone && (if cls qs o == 2 then Region.ready .any ops listed == [k] else (Region.ready .any ops listed).contains k && Region.free .any ops listed k)) &&
    lexP qs ops π (listed.setIfInBounds k true)
def permB (qs : List Nat) (π : List Nat) (ops : Array Oper) : Bool := Nat.beq π.length ops.size && Region.noSelect ops && lexP qs ops π (Array.replicate ops.size false)
def wpPerm (qs : List Nat) (P : Program) (ops : Array Oper) (Q : Exit → Act → World → Prop) : List Nat → Act → World → Prop
  | [], a, w => Q .normal a w
  | k :: π, a, w => match ops[k]? with
    | none => False
    | some o => if cls qs o = 2 then o.wp P a w (wpPerm qs P ops Q π) Q else ∃ v, (∀ w', (execOp a.eval o).run P w' = .ok (.value v) w') ∧ wpPerm qs P ops Q π (a.put o.dst v) w
section
variable {qs : List Nat} {P : Program} {ops : Array Oper} {Q : Exit → Act → World → Prop}
theorem anyM_perm (hQ : ∀ c a w, ¬ Q (.panic c) a w) (hs : Region.noSelect ops = true) : ∀ (π : List Nat) (listed : Array Bool) (a : Act) (w : World),
    lexP qs ops π listed = true → wpPerm qs P ops Q π a w → anyM qs P ops Q π.length listed a w
  | [], _, _, _, hB, h => ⟨by simpa [lexP] using hB, h⟩
  | k :: π, listed, a, w, hB, h => by
    have hsel := Region.noSelect_spec hs
    cases h0 : ops[k]? with
    | none => simp [lexP, h0] at hB
    | some o =>
      simp only [lexP, h0, Bool.and_eq_true] at hB
      obtain ⟨⟨hg, hB0⟩, hB1⟩ := hB
      have hcls := isEv_of (qs := qs) h0
      have hw : Region.wanted o (yielded ops a.tmps) = true := by
        have : o.guard = none := by simpa using hg
        simp [Region.wanted, this]
      unfold wpPerm at h
      simp only [h0] at h
      by_cases hc : cls qs o = 2
      · rw [if_pos hc] at h
        rw [if_pos (by simpa using hc)] at hB0
        have hr : Region.ready .any ops listed = [k] := by simpa using hB0
        refine ⟨fun h1 => (by rw [h1] at hr; cases hr), fun i hi => ?_⟩
        rw [hr] at hi
        have hik : i = k := by simpa using hi
        subst hik
        unfold opM
        rw [hcls, hc, if_pos (by simp)]
        have hw2 : wpOp P ops Q i (wpPerm qs P ops Q π) a w := by
          unfold wpOp; simp only [h0]; rw [if_pos hw]; exact .inl h
        exact wpOp_mono (fun a' w' h' => anyM_perm hQ hs π _ a' w' hB1 h') hw2
      · rw [if_neg hc] at h
        rw [if_neg (by simpa using hc)] at hB0
        simp only [Bool.and_eq_true] at hB0
        obtain ⟨hr, hf⟩ := hB0
        have hev : isEv qs ops k = false := by rw [hcls]; simpa using hc
        obtain ⟨v, hv, hK⟩ := h
        have IH := anyM_perm hQ hs π _ _ w hB1 hK
        exact anyM_pure h0 hev hsel (fun c a w hh => absurd hh (hQ c _ w)) π.length listed a w (Region.free_spec h0 hf) (by simpa using hr) (.inl ⟨hw, hv⟩) IH
theorem wp_region_perm {id : Nat} {a : Act} {w : World} {l : List Oper} (qs π : List Nat) (hm : P.follows .mixedOrders = true) (hB : permB qs π l.toArray = true)
    (h : wpPerm qs P l.toArray (calm Q) π a w.drew) : (Code.region id l.toArray true).wp P Q a w := by
  simp only [permB, Bool.and_eq_true] at hB
  have hl := Nat.eq_of_beq_eq_true hB.1.1
  refine Code.wp_mono calm_le (wp_region_any hm (any_of_anyM (qs := qs) _ _ _ _ ?_))
  change wpPerm qs P l.toArray (calm Q) π a { w with drawn := w.drawn + 1 } at h
  have := anyM_perm (P := P) (Q := calm Q) (fun _ _ _ h => h) hB.1.2 π (Array.replicate l.toArray.size false) a { w with drawn := w.drawn + 1 } hB.2 h
  rw [hl] at this
  exact this
end
end Go.Proofs.YthmknddfkmklfaaGreatDoor.Mix
namespace Go.Proofs.YthmknddfkmklfaaGreatDoor.Vm
open Go Mix
def WP (X : Cx) (qs : List Nat) (ops : Array Oper) (π : List Nat) (ks : List KI) (ds : List Deferred) (l : Kn) (w : World) : Prop := ∀ a, Fr a X.n ds l → wpPerm qs X.P ops (calm (post X.P X.B ks)) π a w
section
variable {X : Cx} {qs : List Nat} {ops : Array Oper} {π : List Nat} {k : Nat} {ks : List KI} {ds : List Deferred} {l : Kn} {w : World} {d ty : Nat} {pos : String} {aft : Array Edge} {v : Value} {op : Op}
theorem WC.perm {id : Nat} {lo : List Oper} (qs π : List Nat) (hm : X.P.follows .mixedOrders = true) (hB : permB qs π lo.toArray = true) (h : WP X qs lo.toArray π ks ds l w.drew) : WC X (.region id lo.toArray true) ks ds l w :=
  fun a ha => wp_region_perm qs π hm hB (h a ha)
theorem WP.nil (h : WN X ks ds l w) : WP X qs ops [] ks ds l w := fun a ha => by
  have := h a ha
  exact this
theorem WP.pure (ho : ops[k]? = some ⟨some d, op, ty, pos, aft, none⟩) (hc : (cls qs (bare op ty) == 2) = false) (hd : Nat.blt d X.n = true) (hrun : ∀ a, Fr a X.n ds l → ∀ w, (execOp a.eval (bare op ty)).run X.P w = .ok (.value v) w)
    (kk : WP X qs ops π ks ds ((d, v) :: l) w) : WP X qs ops (k :: π) ks ds l w := fun a ha => by
  unfold wpPerm
  simp only [ho]
  rw [if_neg (by simpa [cls] using hc)]
  exact ⟨v, fun w' => by rw [execOp_bare]; exact hrun a ha w', kk _ (ha.put hd v)⟩
theorem WP.call {f : FuncId} {vs : Array Value} {R : Value → World → Prop} (ho : ops[k]? = some ⟨some d, op, ty, pos, aft, none⟩) (hc : (cls qs (bare op ty) == 2) = true) (hd : Nat.blt d X.n = true) (hrun : ∀ a, Fr a X.n ds l → (execOp a.eval (bare op ty)).run X.P w = .ok (.enter f vs) w)
    (hcall : Ret X.P f vs w R) (kk : ∀ v w', R v w' → WP X qs ops π ks ds ((d, v) :: l) w') : WP X qs ops (k :: π) ks ds l w := fun a ha => by
  unfold wpPerm
  simp only [ho]
  rw [if_pos (by simpa [cls] using hc)]
  simp only [Oper.wp]
  rw [execOp_bare, hrun a ha]
  refine Calls.mono hcall fun e w' ⟨v, he, hv⟩ => ?_
  subst he
  exact kk v w' hv _ (ha.put hd v)
theorem WP.move {x : Operand} (ho : ops[k]? = some ⟨some d, .move x, ty, pos, aft, none⟩) (hx : ev l x = some v) (hd : Nat.blt d X.n = true) (kk : WP X qs ops π ks ds ((d, v) :: l) w) : WP X qs ops (k :: π) ks ds l w :=
  WP.pure ho rfl hd (fun a ha w => by simp only [execOp, ha.ev hx, Sem.run_pure]) kk
theorem WP.bin {o : BinOp} {t t' : TypeId} {x y : Operand} {k' : IntKind} {a b : Int} (ho : ops[k]? = some ⟨some d, .binOp o t x y t', ty, pos, aft, none⟩) (hx : ev l x = some (.int k' a)) (hy : ev l y = some (.int k' b)) (hv : arith o k' a b = some v) (hd : Nat.blt d X.n = true)
    (kk : WP X qs ops π ks ds ((d, v) :: l) w) : WP X qs ops (k :: π) ks ds l w :=
  WP.pure ho rfl hd (fun c hc w => by
    simp only [execOp, hc.ev hx, hc.ev hy, Sem.run_bind]
    have hg : (eqGuard o t x y (.int k' a) (.int k' b)).run X.P w = .ok () w := by unfold eqGuard; cases o <;> rfl
    rw [hg]
    cases o <;> simp only [arith, Option.some.injEq, reduceCtorEq] at hv <;> first
      | (subst hv; simp [binOp, Op.intArith, Op.intBits, Op.intCmp]; done)
      | (split at hv
         · cases hv
         · rename_i hb
           simp only [Option.some.injEq] at hv
           subst hv
           simp [binOp, Op.intDiv, hb])) kk
theorem WP.slice {T E s : Nat} {x : Operand} {L H : Option Operand} {b o len cap lo hi : Nat} (ho : ops[k]? = some ⟨some d, .slice T x L H none, ty, pos, aft, none⟩) (hx : ev l x = some (.slice (some ⟨b, o, none⟩) len cap)) (hu : X.P.underlying T = some (.slice E)) (hs : (X.P.info? E).map (·.size) = some s)
    (hH : bndH l len cap hi H) (hL : bndL l lo hi L) (hd : Nat.blt d X.n = true)
    (kk : WP X qs ops π ks ds ((d, .slice (some ⟨b, if cap = lo then o else o + lo * s, none⟩) (hi - lo) (cap - lo)) :: l) w) : WP X qs ops (k :: π) ks ds l w :=
  WP.pure ho rfl hd (fun a ha w => by
    simp only [execOp, ha.ev hx, Instr.sliceAt, Instr.slice, Option.map_none, Sem.run_bind, Sem.run_pure, Result.andThen_ok, run_underlying hu, run_bounds (bndH_run ha hH) (bndL_run ha hL), run_sizeOf hs]
    split <;> simp_all [add_none]) kk
theorem WP.sliceA {T E s n : Nat} {x : Operand} {L H : Option Operand} {b o lo hi : Nat} (ho : ops[k]? = some ⟨some d, .slice T x L H none, ty, pos, aft, none⟩) (hx : ev l x = some (.pointer (some ⟨b, o, none⟩))) (hu : X.P.underlying T = some (.array n E)) (hs : (X.P.info? E).map (·.size) = some s)
    (hH : bndH l n n hi H) (hL : bndL l lo hi L) (hd : Nat.blt d X.n = true)
    (kk : WP X qs ops π ks ds ((d, .slice (some ⟨b, if n = lo then o else o + lo * s, none⟩) (hi - lo) (n - lo)) :: l) w) : WP X qs ops (k :: π) ks ds l w :=
  WP.pure ho rfl hd (fun a ha w => by
    simp only [execOp, ha.ev hx, Instr.sliceAt, Instr.sureAddr, Option.map_none, Sem.run_bind, Sem.run_pure, Result.andThen_ok, run_underlying hu, run_bounds (bndH_run ha hH) (bndL_run ha hL), run_sizeOf hs]
    split <;> simp_all [add_none]) kk
theorem WP.mkIface {t : TypeId} {x : Operand} {D : TypeDesc} (ho : ops[k]? = some ⟨some d, .makeInterface t x, ty, pos, aft, none⟩) (hx : ev l x = some v) (hu : X.P.underlying t = some D) (hD : isIfaceD D = false) (hd : Nat.blt d X.n = true) (kk : WP X qs ops π ks ds ((d, .iface t v) :: l) w) :
    WP X qs ops (k :: π) ks ds l w :=
  WP.pure ho rfl hd (fun a ha w => by
    simp only [execOp, ha.ev hx, Instr.makeInterface, Sem.run_bind, run_underlying hu, Result.andThen_ok]
    cases D <;> first | rfl | cases hD) kk
theorem WP.callF {f : FuncId} {args : Array Operand} {tys : Array TypeId} {as : List Operand} {vs : List Value} {R : Value → World → Prop} (ho : ops[k]? = some ⟨some d, .call ⟨.value (.func f), args, tys⟩, ty, pos, aft, none⟩) (has : args = as.toArray) (hv : evs l as = some vs) (hf : ∀ (us : Array Value) (w : World), (callFunc f us).run X.P w = .ok (.enter f us) w)
    (hc : (cls qs (bare (.call ⟨.value (.func f), args, tys⟩) ty) == 2) = true) (hd : Nat.blt d X.n = true) (hcall : Ret X.P f vs.toArray w R) (kk : ∀ v w', R v w' → WP X qs ops π ks ds ((d, v) :: l) w') : WP X qs ops (k :: π) ks ds l w :=
  WP.call ho hc hd (fun a ha => by
    have he := evs_of ha hv
    subst has
    simp only [execOp, resolve, Deferred.ofValue, Act.eval, Sem.run_bind, Sem.run_pure, Result.andThen_ok, invoke, List.map_toArray, he, Array.append_empty, Array.empty_append]
    exact hf _ _) hcall kk
theorem WP.callV {f : FuncId} {o : Operand} {args : Array Operand} {tys : Array TypeId} {as : List Operand} {vs : List Value} {R : Value → World → Prop} (hop : ops[k]? = some ⟨some d, .call ⟨.value o, args, tys⟩, ty, pos, aft, none⟩) (ho : ev l o = some (.func (.func f) #[] #[])) (has : args = as.toArray) (hv : evs l as = some vs) (hf : ∀ (us : Array Value) (w : World), (callFunc f us).run X.P w = .ok (.enter f us) w)
    (hc : (cls qs (bare (.call ⟨.value o, args, tys⟩) ty) == 2) = true) (hd : Nat.blt d X.n = true) (hcall : Ret X.P f vs.toArray w R) (kk : ∀ v w', R v w' → WP X qs ops π ks ds ((d, v) :: l) w') : WP X qs ops (k :: π) ks ds l w :=
  WP.call hop hc hd (fun a ha => by
    have he := evs_of ha hv
    subst has
    simp only [execOp, resolve, Deferred.ofValue, ha.ev ho, Sem.run_bind, Sem.run_pure, Result.andThen_ok, invoke, List.map_toArray, he, Array.append_empty, Array.empty_append]
    exact hf _ _) hcall kk
end
end Go.Proofs.YthmknddfkmklfaaGreatDoor.Vm
