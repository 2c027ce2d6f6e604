/- Regions that draw their order: one where a load may come ahead of a call or behind it; checks and addresses taken in a named order. -/
import Derived.Test.YthmknddfkmklfaaGreatDoorPerm
import Derived.Test.YthmknddfkmklfaaGreatDoorFnZd
namespace Go.Proofs.YthmknddfkmklfaaGreatDoor.Mix
open Go
def setB (l : Array Bool) (i : Nat) : Array Bool := l.setIfInBounds i true
def lateB (qs : List Nat) (ops : Array Oper) : Bool :=
  Region.noSelect ops && (Region.ready .any ops (Array.replicate ops.size false) == [0, 2]) && (Region.ready .any ops (setB (Array.replicate ops.size false) 0) == [1, 2]) &&
  (Region.ready .any ops (setB (Array.replicate ops.size false) 2) == [0]) && (Region.ready .any ops (setB (setB (Array.replicate ops.size false) 0) 1) == [2]) &&
  (Region.ready .any ops (setB (setB (Array.replicate ops.size false) 0) 2) == [1]) && (Region.ready .any ops (setB (setB (Array.replicate ops.size false) 2) 0) == [1]) &&
  lexM qs ops (ops.size - 3) 3 (setB (setB (setB (Array.replicate ops.size false) 0) 1) 2) && lexM qs ops (ops.size - 3) 3 (setB (setB (setB (Array.replicate ops.size false) 0) 2) 1) && lexM qs ops (ops.size - 3) 3 (setB (setB (setB (Array.replicate ops.size false) 2) 0) 1)
end Go.Proofs.YthmknddfkmklfaaGreatDoor.Mix
namespace Go.Proofs.YthmknddfkmklfaaGreatDoor.Vm
open Go Mix
def WA (X : Cx) (qs : List Nat) (ops : Array Oper) (fuel : Nat) (listed : Array Bool) (ks : List KI) (ds : List Deferred) (l : Kn) (w : World) : Prop :=
  ∀ a, Fr a X.n ds l → anyM qs X.P ops (calm (post X.P X.B ks)) fuel listed a w
def SA (X : Cx) (qs : List Nat) (ops : Array Oper) (fuel : Nat) (listed : Array Bool) (i : Nat) (ks : List KI) (ds : List Deferred) (l : Kn) (w : World) : Prop :=
  ∀ a, Fr a X.n ds l → opM qs X.P ops (calm (post X.P X.B ks)) i (anyM qs X.P ops (calm (post X.P X.B ks)) fuel (setB listed i)) a w
section
variable {X : Cx} {qs : List Nat} {ops : Array Oper} {fuel k : Nat} {listed : Array Bool} {ks : List KI} {ds : List Deferred} {l : Kn} {w : World} {d ty : Nat} {pos : String} {aft : Array Edge} {v : Value} {op : Op}
theorem WA.one {i : Nat} (hr : Region.ready .any ops listed = [i]) (h : SA X qs ops fuel listed i ks ds l w) : WA X qs ops (fuel + 1) listed ks ds l w := fun a ha =>
  ⟨fun h1 => (by rw [h1] at hr; cases hr), fun j hj => by
    rw [hr] at hj
    obtain rfl : j = i := by simpa using hj
    exact h a ha⟩
theorem WA.two {i i2 : Nat} (hr : Region.ready .any ops listed = [i, i2]) (h : SA X qs ops fuel listed i ks ds l w) (h2 : SA X qs ops fuel listed i2 ks ds l w) : WA X qs ops (fuel + 1) listed ks ds l w := fun a ha =>
  ⟨fun h1 => (by rw [h1] at hr; cases hr), fun j hj => by
    rw [hr] at hj
    have hj2 : j = i ∨ j = i2 := by simpa using hj
    rcases hj2 with rfl | rfl
    · exact h a ha
    · exact h2 a ha⟩
theorem SA.still (ho : ops[k]? = some ⟨some d, op, ty, pos, aft, none⟩) (hc : (cls qs (bare op ty) == 2) = false) (hd : Nat.blt d X.n = true) (hrun : ∀ a, Fr a X.n ds l → (execOp a.eval (bare op ty)).run X.P w = .ok (.value v) w)
    (kk : WA X qs ops fuel (setB listed k) ks ds ((d, v) :: l) w) : SA X qs ops fuel listed k ks ds l w := fun a ha => by
  have hcls : isEv qs ops k = false := by rw [isEv_of ho]; simpa [cls] using hc
  unfold opM
  rw [hcls, if_neg (by simp)]
  unfold stOp
  simp only [ho, Region.wanted, if_true, Oper.still]
  rw [execOp_bare]
  have hr := hrun a ha
  simp only [bare] at hr
  rw [hr]
  exact ⟨rfl, kk _ (ha.put hd v)⟩
theorem SA.call {f : FuncId} {vs : Array Value} {R : Value → World → Prop} (ho : ops[k]? = some ⟨some d, op, ty, pos, aft, none⟩) (hc : (cls qs (bare op ty) == 2) = true) (hd : Nat.blt d X.n = true) (hrun : ∀ a, Fr a X.n ds l → (execOp a.eval (bare op ty)).run X.P w = .ok (.enter f vs) w)
    (hcall : Ret X.P f vs w R) (kk : ∀ v w', R v w' → WA X qs ops fuel (setB listed k) ks ds ((d, v) :: l) w') : SA X qs ops fuel listed k ks ds l w := fun a ha => by
  have hcls : isEv qs ops k = true := by rw [isEv_of ho]; simpa [cls] using hc
  unfold opM
  rw [hcls, if_pos rfl]
  unfold wpOp
  simp only [ho, Region.wanted, if_true]
  refine .inl ?_
  simp only [Oper.wp]
  rw [execOp_bare, hrun a ha]
  refine Calls.mono hcall fun e w' ⟨v, he, hv⟩ => ?_
  subst he
  exact kk v w' hv _ (ha.put hd v)
theorem WA.lex {rest : List Oper} (hs : Region.noSelect ops = true) (hl : ∀ j, rest[j]? = ops[k + j]?) (hB : lexM qs ops rest.length k listed = true) (h : WR X (some qs) ops rest ks ds l w) : WA X qs ops rest.length listed ks ds l w := fun a ha =>
  anyM_lex (fun _ _ _ h => h) hs rest k listed a w hl hB (h a ha)
/-- a move, a call, and a load that may come ahead of the call or behind it: what it loads is there both before and behind -/
theorem WC.late {id d0 d1 d2 t t0 t1 t2 : Nat} {o3 : List Oper} {x0 x : Operand} {p0 p1 p2 : String} {a0 a1 a2 : Array Edge} {v0 v2 : Value} {p : Addr} {D : TypeDesc} {f : FuncId} {args : Array Operand} {tys : Array TypeId} {bs : List Operand} {vs : List Value} {R : Value → World → Prop} (hm : X.P.follows .mixedOrders = true)
    (hB : lateB qs (⟨some d0, .move x0, t0, p0, a0, none⟩ :: ⟨some d1, .call ⟨.value (.func f), args, tys⟩, t1, p1, a1, none⟩ :: ⟨some d2, .load t x, t2, p2, a2, none⟩ :: o3).toArray = true)
    (hx0 : ev l x0 = some v0) (hx1 : ev ((d2, v2) :: l) x0 = some v0) (has : args = bs.toArray) (hv1 : evs ((d0, v0) :: l) bs = some vs) (hv2 : evs ((d2, v2) :: (d0, v0) :: l) bs = some vs) (hv3 : evs ((d0, v0) :: (d2, v2) :: l) bs = some vs) (hf : ∀ (us : Array Value) (w : World), (callFunc f us).run X.P w = .ok (.enter f us) w)
    (hc : (cls qs (bare (.call ⟨.value (.func f), args, tys⟩) t1) == 2) = true) (hd0 : Nat.blt d0 X.n = true) (hd1 : Nat.blt d1 X.n = true) (hd2 : Nat.blt d2 X.n = true)
    (hp1 : ev l x = some (.pointer (some p))) (hp2 : ev ((d0, v0) :: l) x = some (.pointer (some p))) (hp3 : ∀ v, ev ((d1, v) :: (d0, v0) :: l) x = some (.pointer (some p))) (hu : X.P.underlying t = some D) (hD : plainD D = true) (hcell : w.cell? p = some v2)
    (hcall : Ret X.P f vs.toArray w.drew R) (hR : ∀ v w', R v w' → w'.cell? p = some v2)
    (hne1 : d0 ≠ d1) (hne2 : d0 ≠ d2) (hne3 : d1 ≠ d2)
    (kk : ∀ v w', R v w' → WR X (some qs) (⟨some d0, .move x0, t0, p0, a0, none⟩ :: ⟨some d1, .call ⟨.value (.func f), args, tys⟩, t1, p1, a1, none⟩ :: ⟨some d2, .load t x, t2, p2, a2, none⟩ :: o3).toArray o3 ks ds ((d2, v2) :: (d1, v) :: (d0, v0) :: l) w') :
    WC X (.region id (⟨some d0, .move x0, t0, p0, a0, none⟩ :: ⟨some d1, .call ⟨.value (.func f), args, tys⟩, t1, p1, a1, none⟩ :: ⟨some d2, .load t x, t2, p2, a2, none⟩ :: o3).toArray true) ks ds l w := by
  obtain ⟨lo, hlo⟩ : ∃ lo : List Oper, lo = ⟨some d0, .move x0, t0, p0, a0, none⟩ :: ⟨some d1, .call ⟨.value (.func f), args, tys⟩, t1, p1, a1, none⟩ :: ⟨some d2, .load t x, t2, p2, a2, none⟩ :: o3 := ⟨_, rfl⟩
  have g0 : lo.toArray[0]? = some ⟨some d0, .move x0, t0, p0, a0, none⟩ := by rw [hlo]; simp
  have g1 : lo.toArray[1]? = some ⟨some d1, .call ⟨.value (.func f), args, tys⟩, t1, p1, a1, none⟩ := by rw [hlo]; simp
  have g2 : lo.toArray[2]? = some ⟨some d2, .load t x, t2, p2, a2, none⟩ := by rw [hlo]; simp
  have gl : lo.length = o3.length + 3 := by rw [hlo]; simp
  have g3 : ∀ j, o3[j]? = lo.toArray[3 + j]? := fun j => by rw [hlo]; simp [Nat.add_comm 3 j]
  rw [← hlo] at hB kk ⊢
  have gsz : lo.toArray.size = o3.length + 3 := by simpa using gl
  simp only [lateB, Bool.and_eq_true, beq_iff_eq, show lo.toArray.size - 3 = o3.length by omega] at hB
  obtain ⟨⟨⟨⟨⟨⟨⟨⟨⟨hs, r0⟩, r1⟩, r2⟩, r3⟩, r4⟩, r5⟩, l1⟩, l2⟩, l3⟩ := hB
  have swap : ∀ {dA dB : Nat} {vA vB : Value} {r : Kn}, dA ≠ dB → ∀ t, look ((dA, vA) :: (dB, vB) :: r) t = look ((dB, vB) :: (dA, vA) :: r) t := by
    intro dA dB vA vB r hne t
    simp only [look]
    cases h1 : Nat.beq dA t with
    | false => rfl
    | true =>
      cases h2 : Nat.beq dB t with
      | false => rfl
      | true => exact absurd ((Nat.eq_of_beq_eq_true h1).trans (Nat.eq_of_beq_eq_true h2).symm) hne
  have under : ∀ {dA : Nat} {vA : Value} {r r' : Kn}, (∀ t, look r t = look r' t) → ∀ t, look ((dA, vA) :: r) t = look ((dA, vA) :: r') t := by
    intro dA vA r r' h t
    simp only [look, h]
  have pm : ∀ {fuel : Nat} {listed : Array Bool} {l1 l2 : Kn} {w : World}, (∀ t, look l1 t = look l2 t) → WA X qs lo.toArray fuel listed ks ds l2 w → WA X qs lo.toArray fuel listed ks ds l1 w :=
    fun h hw a ha => hw a ⟨ha.defers, ha.size, fun t v hv => ha.get t v (by rw [h]; exact hv)⟩
  have mv : ∀ {fuel : Nat} {listed : Array Bool} {l1 : Kn} {w : World}, ev l1 x0 = some v0 → WA X qs lo.toArray fuel (setB listed 0) ks ds ((d0, v0) :: l1) w → SA X qs lo.toArray fuel listed 0 ks ds l1 w :=
    fun hx k => SA.still g0 rfl hd0 (fun a ha => by simp only [execOp, ha.ev hx, Sem.run_pure]) k
  have ld : ∀ {fuel : Nat} {listed : Array Bool} {l1 : Kn} {w : World}, ev l1 x = some (.pointer (some p)) → w.cell? p = some v2 → WA X qs lo.toArray fuel (setB listed 2) ks ds ((d2, v2) :: l1) w → SA X qs lo.toArray fuel listed 2 ks ds l1 w :=
    fun hx hcl k => SA.still g2 rfl hd2 (fun a ha => by
      simp only [execOp, ha.ev hx, Instr.loadAt, Instr.sureAddr, loadVar, Sem.run_bind, Sem.run_pure, Result.andThen_ok, run_isAgg hu hD]
      simp [hcl]) k
  have cl : ∀ {fuel : Nat} {listed : Array Bool} {l1 : Kn}, evs l1 bs = some vs → (∀ v w', R v w' → WA X qs lo.toArray fuel (setB listed 1) ks ds ((d1, v) :: l1) w') → SA X qs lo.toArray fuel listed 1 ks ds l1 w.drew :=
    fun hv k => SA.call g1 hc hd1 (fun a ha => by
      have he := evs_of ha hv
      subst has
      simp only [execOp, resolve, Deferred.ofValue, Act.eval, Sem.run_bind, Sem.run_pure, Result.andThen_ok, invoke, List.map_toArray, he, Array.append_empty, Array.empty_append]
      exact hf _ _) hcall k
  have hcd : w.drew.cell? p = some v2 := hcell
  have fin : ∀ {listed : Array Bool} (v : Value) (w' : World), R v w' → lexM qs lo.toArray o3.length 3 listed = true → WA X qs lo.toArray o3.length listed ks ds ((d2, v2) :: (d1, v) :: (d0, v0) :: l) w' :=
    fun v w' hr hl => WA.lex hs g3 hl (kk v w' hr)
  have main : WA X qs lo.toArray (o3.length + 3) (Array.replicate lo.toArray.size false) ks ds l w.drew := by
    refine WA.two r0 (mv hx0 (WA.two r1 (cl hv1 fun v w' hr => WA.one r3 (ld (hp3 v) (hR v w' hr) (fin v w' hr l1))) (ld hp2 hcd (WA.one r4 (cl hv2 fun v w' hr => pm (swap hne3) (fin v w' hr l2)))))) (ld hp1 hcd (WA.one r2 (mv hx1 (WA.one r5 (cl hv3 fun v w' hr => pm (fun t => (under (swap hne2) t).trans (swap hne3 t)) (fin v w' hr l3))))))
  intro a ha
  refine Code.wp_mono calm_le (wp_region_any hm (any_of_anyM (qs := qs) _ _ _ _ ?_))
  have := main a ha
  rw [gsz] at this ⊢
  exact this
end
section
variable {X : Cx} {qs : List Nat} {ops : Array Oper} {π : List Nat} {k : Nat} {ks : List KI} {ds : List Deferred} {l : Kn} {w : World} {d ty : Nat} {pos : String} {aft : Array Edge} {v : Value} {op : Op}
theorem WP.nilCheck {x : Operand} {p : Addr} (ho : ops[k]? = some ⟨some d, .nilCheck x, ty, pos, aft, none⟩) (hx : ev l x = some (.pointer (some p))) (hd : Nat.blt d X.n = true) (kk : WP X qs ops π ks ds ((d, .pointer (some p)) :: l) w) : WP X qs ops (k :: π) ks ds l w :=
  WP.pure ho rfl hd (fun a ha w => by simp only [execOp, ha.ev hx, Sem.run_pure]) kk
theorem WP.field {s i : Nat} {x : Operand} {b o off : Nat} (ho : ops[k]? = some ⟨some d, .fieldAddr s x i, ty, pos, aft, none⟩) (hx : ev l x = some (.pointer (some ⟨b, o, none⟩)))
    (hf : ∀ (b o : Nat) (w : World), (Instr.fieldAt s (.pointer (some ⟨b, o, none⟩)) i).run X.P w = .ok (.pointer (some ⟨b, o + off, none⟩)) w) (hd : Nat.blt d X.n = true)
    (kk : WP X qs ops π ks ds ((d, .pointer (some ⟨b, o + off, none⟩)) :: l) w) : WP X qs ops (k :: π) ks ds l w :=
  WP.pure ho rfl hd (fun a ha w => by simp only [execOp, ha.ev hx, Sem.run_bind, hf, Result.andThen_ok, Sem.run_pure]) kk
theorem WP.neqNil {t t' : TypeId} {x : Operand} {u : Value} {c : Bool} {ms : Array (String × TypeId)} (ho : ops[k]? = some ⟨some d, .binOp .neq t x (.const .nilIface) t', ty, pos, aft, none⟩) (hx : ev l x = some u) (hn : notNil u = some c) (hu : X.P.underlying t = some (.interface ms)) (hd : Nat.blt d X.n = true)
    (kk : WP X qs ops π ks ds ((d, .bool c) :: l) w) : WP X qs ops (k :: π) ks ds l w :=
  WP.pure ho rfl hd (fun a ha w => by
    have hcn : a.eval (.const .nilIface) = .nilIface := rfl
    simp only [execOp, ha.ev hx, hcn, Sem.run_bind]
    have hg : (eqGuard .neq t x (.const .nilIface) u .nilIface).run X.P w = .ok () w := by
      unfold eqGuard
      cases u <;> simp [notNil] at hn <;> simp
    rw [hg]
    have he := run_equal_nil hu hn w
    cases u <;> simp [notNil] at hn <;> subst hn <;> simp [binOp, he]) kk
end
end Go.Proofs.YthmknddfkmklfaaGreatDoor.Vm
