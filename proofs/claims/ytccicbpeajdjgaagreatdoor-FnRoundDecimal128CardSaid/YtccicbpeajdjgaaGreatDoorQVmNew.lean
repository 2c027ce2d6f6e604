/- A region that draws its order, walked in an order that is named: steps that know nothing of the world may be taken ahead of those that turn it. -/
import Derived.Test.YtccicbpeajdjgaaGreatDoorQVmMake
import Derived.Test.YtccicbpeajdjgaaGreatDoorQNum
import Derived.LaidEql
import Derived.Laws.BytesArg
set_option linter.unusedVariables false
set_option linter.unusedSimpArgs false
namespace Go.Proofs.YtccicbpeajdjgaaGreatDoor.Mix
open Go
def lexP (qs : List Nat) (ops : Array Oper) : List Nat → Array Bool → Bool
 | [], listed => (Region.ready .any ops listed).isEmpty
 | k :: π, listed => (match ops[k]? with
  | none => false
  | some o => o.guard.isNone && (if cls qs o == 2 then Region.ready .any ops listed == [k] else (Region.ready .any ops listed).contains k && Region.free .any ops listed k)) &&
  lexP qs ops π (listed.setIfInBounds k true)
def permB (qs : List Nat) (π : List Nat) (ops : Array Oper) : Bool := Nat.beq π.length ops.size && Region.noSelect ops && lexP qs ops π (Array.replicate ops.size false)
def wpPerm (qs : List Nat) (P : Program) (ops : Array Oper) (Q : Exit → Act → World → Prop) : List Nat → Act → World → Prop
 | [], a, w => Q .normal a w
 | k :: π, a, w => match ops[k]? with
  | none => False
  | some o => if cls qs o = 2 then o.wp P a w (wpPerm qs P ops Q π) Q else ∃ v, (∀ w', (execOp a.eval o).run P w' = .ok (.value v) w') ∧ wpPerm qs P ops Q π (a.put o.dst v) w
section
variable {qs : List Nat} {P : Program} {ops : Array Oper} {Q : Exit → Act → World → Prop}
theorem lO (hQ : ∀ c a w, ¬ Q (.panic c) a w) (hs : Region.noSelect ops = true) : ∀ (π : List Nat) (listed : Array Bool) (a : Act) (w : World),
 lexP qs ops π listed = true → wpPerm qs P ops Q π a w → anyM qs P ops Q π.length listed a w
 | [], _, _, _, hB, h => ⟨by simpa [lexP] using hB, h⟩
 | k :: π, listed, a, w, hB, h => by
  have hsel := Region.noSelect_spec hs;cases h0 : ops[k]? with
  | none => simp [lexP, h0] at hB
  | some o =>
   simp only [lexP, h0, Bool.and_eq_true] at hB;obtain ⟨⟨hg, hB0⟩, hB1⟩ := hB;have hcls := sE (qs := qs) h0
   have hw : Region.wanted o (yielded ops a.tmps) = true := by
    have : o.guard = none := by simpa using hg
    simp [Region.wanted, this]
   unfold wpPerm at h;simp only [h0] at h
   by_cases hc : cls qs o = 2
   ·rw [if_pos hc] at h;rw [if_pos (by simpa using hc)] at hB0;have hr : Region.ready .any ops listed = [k] := by simpa using hB0
    refine ⟨fun h1 => (by rw [h1] at hr; cases hr), fun i hi => ?_⟩;rw [hr] at hi;have hik : i = k := by simpa using hi
    subst hik;unfold opM;rw [hcls, hc, if_pos (by simp)]
    have hw2 : wpOp P ops Q i (wpPerm qs P ops Q π) a w := by
     unfold wpOp; simp only [h0]; rw [if_pos hw]; exact .inl h
    exact wpOp_mono (fun a' w' h' => lO hQ hs π _ a' w' hB1 h') hw2
   ·rw [if_neg hc] at h;rw [if_neg (by simpa using hc)] at hB0;simp only [Bool.and_eq_true] at hB0;obtain ⟨hr, hf⟩ := hB0
    have hev : isEv qs ops k = false := by rw [hcls]; simpa using hc
    obtain ⟨v, hv, hK⟩ := h;have IH := lO hQ hs π _ _ w hB1 hK;exact nW h0 hev hsel (fun c a w hh => absurd hh (hQ c _ w)) π.length listed a w (Region.free_spec h0 hf) (by simpa using hr) (.inl ⟨hw, hv⟩) IH
theorem mI {id : Nat} {a : Act} {w : World} {l : List Oper} (qs π : List Nat) (hm : P.follows .mixedOrders = true) (hB : permB qs π l.toArray = true)
 (h : wpPerm qs P l.toArray (calm Q) π a w.drew) : (Code.region id l.toArray true).wp P Q a w := by
 simp only [permB, Bool.and_eq_true] at hB;have hl := Nat.eq_of_beq_eq_true hB.1.1;refine Code.wp_mono oZ (wp_region_any hm (iE (qs := qs) _ _ _ _ ?_))
 change wpPerm qs P l.toArray (calm Q) π a { w with drawn := w.drawn + 1 } at h
 have := lO (P := P) (Q := calm Q) (fun _ _ _ h => h) hB.1.2 π (Array.replicate l.toArray.size false) a { w with drawn := w.drawn + 1 } hB.2 h;rw [hl] at this;exact this
end
end Go.Proofs.YtccicbpeajdjgaaGreatDoor.Mix
namespace Go.Proofs.YtccicbpeajdjgaaGreatDoor.Vm
open Go Mix
def WP (X : Cx) (qs : List Nat) (ops : Array Oper) (π : List Nat) (ks : List KI) (ds : List Deferred) (l : Kn) (w : World) : Prop := ∀ a, Fr a X.n ds l → wpPerm qs X.P ops (calm (post X.P X.B ks)) π a w
section
variable {X : Cx} {qs : List Nat} {ops : Array Oper} {π : List Nat} {k : Nat} {ks : List KI} {ds : List Deferred} {l : Kn} {w : World} {d ty : Nat} {pos : String} {aft : Array Edge} {v : Value} {op : Op}
theorem WC.perm {id : Nat} {lo : List Oper} (qs π : List Nat) (hm : X.P.follows .mixedOrders = true) (hB : permB qs π lo.toArray = true) (h : WP X qs lo.toArray π ks ds l w.drew) : WC X (.region id lo.toArray true) ks ds l w :=
 fun a ha => mI qs π hm hB (h a ha)
theorem WP.nil (h : WN X ks ds l w) : WP X qs ops [] ks ds l w := fun a ha => by
 have := h a ha;exact this
theorem WP.pure (ho : ops[k]? = some ⟨some d, op, ty, pos, aft, none⟩) (hc : (cls qs (bare op ty) == 2) = false) (hd : Nat.blt d X.n = true) (hrun : ∀ a, Fr a X.n ds l → ∀ w, (execOp a.eval (bare op ty)).run X.P w = .ok (.value v) w)
 (kk : WP X qs ops π ks ds ((d, v) :: l) w) : WP X qs ops (k :: π) ks ds l w := fun a ha => by
 unfold wpPerm;simp only [ho];rw [if_neg (by simpa [cls] using hc)];exact ⟨v, fun w' => by rw [dN]; exact hrun a ha w', kk _ (ha.put hd v)⟩
theorem WP.call {f : FuncId} {vs : Array Value} {R : Value → World → Prop} (ho : ops[k]? = some ⟨some d, op, ty, pos, aft, none⟩) (hc : (cls qs (bare op ty) == 2) = true) (hd : Nat.blt d X.n = true) (hrun : ∀ a, Fr a X.n ds l → (execOp a.eval (bare op ty)).run X.P w = .ok (.enter f vs) w)
 (hcall : Ret X.P f vs w R) (kk : ∀ v w', R v w' → WP X qs ops π ks ds ((d, v) :: l) w') : WP X qs ops (k :: π) ks ds l w := fun a ha => by
 unfold wpPerm;simp only [ho];rw [if_pos (by simpa [cls] using hc)];simp only [Oper.wp];rw [dN, hrun a ha];refine Calls.mono hcall fun e w' ⟨v, he, hv⟩ => ?_;subst he;exact kk v w' hv _ (ha.put hd v)
theorem WP.move {x : Operand} (ho : ops[k]? = some ⟨some d, .move x, ty, pos, aft, none⟩) (hx : ev l x = some v) (hd : Nat.blt d X.n = true) (kk : WP X qs ops π ks ds ((d, v) :: l) w) : WP X qs ops (k :: π) ks ds l w :=
 WP.pure ho rfl hd (fun a ha w => by simp only [execOp, ha.ev hx, Sem.run_pure]) kk
theorem WP.bin {o : BinOp} {t t' : TypeId} {x y : Operand} {k' : IntKind} {a b : Int} (ho : ops[k]? = some ⟨some d, .binOp o t x y t', ty, pos, aft, none⟩) (hx : ev l x = some (.int k' a)) (hy : ev l y = some (.int k' b)) (hv : arith o k' a b = some v) (hd : Nat.blt d X.n = true)
    (kk : WP X qs ops π ks ds ((d, v) :: l) w) : WP X qs ops (k :: π) ks ds l w :=
  WP.pure ho rfl hd (fun c hc w => by
    simp only [execOp, hc.ev hx, hc.ev hy, Sem.run_bind]
    have hg : (eqGuard o t x y (.int k' a) (.int k' b)).run X.P w = .ok () w := by unfold eqGuard; cases o <;> rfl
    rw [hg]
    cases o <;> simp only [arith, Option.some.injEq, reduceCtorEq] at hv <;> first
      | (subst hv; simp [binOp, Op.intArith, Op.intBits, Op.intCmp]; done)
      | (split at hv
         · cases hv
         · rename_i hb
           simp only [Option.some.injEq] at hv
           subst hv
           simp [binOp, Op.intDiv, hb])) kk
theorem WP.slice {T E s : Nat} {x : Operand} {L H : Option Operand} {b o len cap lo hi : Nat} (ho : ops[k]? = some ⟨some d, .slice T x L H none, ty, pos, aft, none⟩) (hx : ev l x = some (.slice (some ⟨b, o, none⟩) len cap)) (hu : X.P.underlying T = some (.slice E)) (hs : (X.P.info? E).map (·.size) = some s)
 (hH : bndH l len cap hi H) (hL : bndL l lo hi L) (hd : Nat.blt d X.n = true)
 (kk : WP X qs ops π ks ds ((d, .slice (some ⟨b, if cap = lo then o else o + lo * s, none⟩) (hi - lo) (cap - lo)) :: l) w) : WP X qs ops (k :: π) ks ds l w :=
 WP.pure ho rfl hd (fun a ha w => by
  simp only [execOp, ha.ev hx, Instr.sliceAt, Instr.slice, Option.map_none, Sem.run_bind, Sem.run_pure, Result.andThen_ok, run_underlying hu, gW (jL ha hH) (jK ha hL), dP hs]
  split <;> simp_all [eR]) kk
theorem WP.sliceA {T E s n : Nat} {x : Operand} {L H : Option Operand} {b o lo hi : Nat} (ho : ops[k]? = some ⟨some d, .slice T x L H none, ty, pos, aft, none⟩) (hx : ev l x = some (.pointer (some ⟨b, o, none⟩))) (hu : X.P.underlying T = some (.array n E)) (hs : (X.P.info? E).map (·.size) = some s)
 (hH : bndH l n n hi H) (hL : bndL l lo hi L) (hd : Nat.blt d X.n = true)
 (kk : WP X qs ops π ks ds ((d, .slice (some ⟨b, if n = lo then o else o + lo * s, none⟩) (hi - lo) (n - lo)) :: l) w) : WP X qs ops (k :: π) ks ds l w :=
 WP.pure ho rfl hd (fun a ha w => by
  simp only [execOp, ha.ev hx, Instr.sliceAt, Instr.sureAddr, Option.map_none, Sem.run_bind, Sem.run_pure, Result.andThen_ok, run_underlying hu, gW (jL ha hH) (jK ha hL), dP hs]
  split <;> simp_all [eR]) kk
theorem WP.mkIface {t : TypeId} {x : Operand} {D : TypeDesc} (ho : ops[k]? = some ⟨some d, .makeInterface t x, ty, pos, aft, none⟩) (hx : ev l x = some v) (hu : X.P.underlying t = some D) (hD : isIfaceD D = false) (hd : Nat.blt d X.n = true) (kk : WP X qs ops π ks ds ((d, .iface t v) :: l) w) :
 WP X qs ops (k :: π) ks ds l w :=
 WP.pure ho rfl hd (fun a ha w => by
  simp only [execOp, ha.ev hx, Instr.makeInterface, Sem.run_bind, run_underlying hu, Result.andThen_ok]
  cases D <;> first | rfl | cases hD) kk
theorem WP.callF {f : FuncId} {args : Array Operand} {tys : Array TypeId} {as : List Operand} {vs : List Value} {R : Value → World → Prop} (ho : ops[k]? = some ⟨some d, .call ⟨.value (.func f), args, tys⟩, ty, pos, aft, none⟩) (has : args = as.toArray) (hv : evs l as = some vs) (hf : ∀ (us : Array Value) (w : World), (callFunc f us).run X.P w = .ok (.enter f us) w)
 (hc : (cls qs (bare (.call ⟨.value (.func f), args, tys⟩) ty) == 2) = true) (hd : Nat.blt d X.n = true) (hcall : Ret X.P f vs.toArray w R) (kk : ∀ v w', R v w' → WP X qs ops π ks ds ((d, v) :: l) w') : WP X qs ops (k :: π) ks ds l w :=
 WP.call ho hc hd (fun a ha => by
  have he := eX ha hv;subst has;simp only [execOp, resolve, Deferred.ofValue, Act.eval, Sem.run_bind, Sem.run_pure, Result.andThen_ok, invoke, List.map_toArray, he, Array.append_empty, Array.empty_append]
  exact hf _ _) hcall kk
theorem WP.callV {f : FuncId} {o : Operand} {args : Array Operand} {tys : Array TypeId} {as : List Operand} {vs : List Value} {R : Value → World → Prop} (hop : ops[k]? = some ⟨some d, .call ⟨.value o, args, tys⟩, ty, pos, aft, none⟩) (ho : ev l o = some (.func (.func f) #[] #[])) (has : args = as.toArray) (hv : evs l as = some vs) (hf : ∀ (us : Array Value) (w : World), (callFunc f us).run X.P w = .ok (.enter f us) w)
 (hc : (cls qs (bare (.call ⟨.value o, args, tys⟩) ty) == 2) = true) (hd : Nat.blt d X.n = true) (hcall : Ret X.P f vs.toArray w R) (kk : ∀ v w', R v w' → WP X qs ops π ks ds ((d, v) :: l) w') : WP X qs ops (k :: π) ks ds l w :=
 WP.call hop hc hd (fun a ha => by
  have he := eX ha hv;subst has;simp only [execOp, resolve, Deferred.ofValue, ha.ev ho, Sem.run_bind, Sem.run_pure, Result.andThen_ok, invoke, List.map_toArray, he, Array.append_empty, Array.empty_append]
  exact hf _ _) hcall kk
end
end Go.Proofs.YtccicbpeajdjgaaGreatDoor.Vm
namespace Go.Proofs.YtccicbpeajdjgaaGreatDoor.Wd
/-- the number of n digits -/
def bn (a : Nat → Nat) : Nat → Nat
 | 0 => 0
 | n + 1 => bn a n + a n * 4294967296 ^ n
theorem pB (a : Nat → Nat) : bn a 0 = 0 := rfl
theorem eG (a : Nat → Nat) (n : Nat) : bn a (n + 1) = bn a n + a n * 4294967296 ^ n := rfl
theorem iP {a b : Nat → Nat} : ∀ {n : Nat}, (∀ i, i < n → a i = b i) → bn a n = bn b n
 | 0, _ => rfl
 | n + 1, h => by rw [eG, eG, iP (n := n) fun i hi => h i (by omega), h n (by omega)]
theorem bpos (n : Nat) : 0 < 4294967296 ^ n := Nat.pow_pos (by decide)
theorem kD {a : Nat → Nat} : ∀ {n : Nat}, (∀ i, i < n → a i < 4294967296) → bn a n < 4294967296 ^ n
 | 0, _ => by simp [bn]
 | n + 1, h => by
  have h1 := kD (n := n) fun i hi => h i (by omega);have h2 := h n (by omega);have h3 : a n * 4294967296 ^ n ≤ 4294967295 * 4294967296 ^ n := Nat.mul_le_mul_right _ (by omega);rw [eG, Nat.pow_succ];omega
theorem qG {a : Nat → Nat} {n : Nat} : ∀ {k : Nat}, (∀ i, n ≤ i → i < n + k → a i = 0) → bn a (n + k) = bn a n
 | 0, _ => rfl
 | k + 1, h => by
  rw [← Nat.add_assoc, eG, qG (k := k) fun i h1 h2 => h i h1 (by omega), h (n + k) (by omega) (by omega), Nat.zero_mul, Nat.add_zero]
theorem nB {a : Nat → Nat} {n k : Nat} (hk : k ≤ n) (h : ∀ i, k ≤ i → i < n → a i = 0) : bn a n = bn a k := by
 have := qG (a := a) (n := k) (k := n - k) fun i h1 h2 => h i h1 (by omega)
 rwa [show k + (n - k) = n by omega] at this
theorem bn_mono (a : Nat → Nat) {n m : Nat} (h : n ≤ m) : bn a n ≤ bn a m := by
 induction m with
 | zero => rw [show n = 0 by omega]; exact Nat.le_refl _
 | succ m ih =>
  rcases Nat.lt_or_ge n (m + 1) with h2 | h2
  ·have := ih (by omega)
   rw [eG]; omega
  ·rw [show n = m + 1 by omega]; exact Nat.le_refl _
theorem bn_top {a : Nat → Nat} {n : Nat} (h : a n ≠ 0) : 4294967296 ^ n ≤ bn a (n + 1) := by
 rw [eG];have : 1 * 4294967296 ^ n ≤ a n * 4294967296 ^ n := Nat.mul_le_mul_right _ (by omega);omega
theorem iO (a : Nat → Nat) (k : Nat) : ∀ n, bn a (k + n) = bn a k + bn (fun i => a (k + i)) n * 4294967296 ^ k
 | 0 => by simp [bn]
 | n + 1 => by
  rw [← Nat.add_assoc, eG, iO a k n, eG, Nat.add_mul, Nat.pow_add];simp only [Nat.add_assoc, Nat.mul_assoc, Nat.mul_comm (4294967296 ^ k) (4294967296 ^ n)]
/-- digits that are normal: the topmost is not zero -/
def Nm (a : Nat → Nat) (n : Nat) : Prop := n = 0 ∨ a (n - 1) ≠ 0
theorem Nm.ge {a : Nat → Nat} {n : Nat} (h : Nm a n) (h0 : 0 < n) : 4294967296 ^ (n - 1) ≤ bn a n := by
 have := bn_top (a := a) (n := n - 1) (h.resolve_left (by omega))
 rwa [show n - 1 + 1 = n by omega] at this
theorem mN {n m : Nat} (h : n ≤ m) : 4294967296 ^ n ≤ 4294967296 ^ m := Nat.pow_le_pow_right (by decide) h
theorem Nm.len {a : Nat → Nat} {n k : Nat} (h : Nm a n) (hx : bn a n < 4294967296 ^ k) : n ≤ k := by
 rcases Nat.eq_zero_or_pos n with rfl | h0
 ·exact Nat.zero_le _
 ·refine Nat.le_of_not_lt fun hc => ?_;have h1 := h.ge h0;have h2 := mN (show k ≤ n - 1 by omega);omega
theorem Nm.lens {a b : Nat → Nat} {n m : Nat} (hb : Nm b m) (ha : ∀ i, i < n → a i < 4294967296) (h : n < m) : bn a n < bn b m := by
 have h1 := kD ha;have h2 := hb.ge (by omega);have h3 := mN (show n ≤ m - 1 by omega);omega
/-- alike from i on, less at i - 1 -/
theorem sN {a b : Nat → Nat} {n i : Nat} (ha : ∀ i, i < n → a i < 4294967296) (hi : i < n) (h : ∀ j, i < j → j < n → a j = b j) (hlt : a i < b i) : bn a n < bn b n := by
 have h1 := iO a (i + 1) (n - (i + 1));have h2 := iO b (i + 1) (n - (i + 1));rw [show i + 1 + (n - (i + 1)) = n by omega] at h1 h2;have h3 : bn (fun j => a (i + 1 + j)) (n - (i + 1)) = bn (fun j => b (i + 1 + j)) (n - (i + 1)) := iP fun j hj => h (i + 1 + j) (by omega) (by omega);have h4 := kD (a := a) (n := i) fun j hj => ha j (by omega);have h5 : (a i + 1) * 4294967296 ^ i ≤ b i * 4294967296 ^ i := Nat.mul_le_mul_right _ hlt;rw [Nat.add_mul, Nat.one_mul] at h5;rw [h1, h2, h3, eG, eG];omega
theorem bn_one (d : Nat) : bn (fun i => if i = 0 then d else 0) 1 = d := by simp [bn]
/-- a digit replaced -/
def st (a : Nat → Nat) (i d : Nat) : Nat → Nat := fun j => if j = i then d else a j
theorem nA {a : Nat → Nat} {i d : Nat} : ∀ {n : Nat}, n ≤ i → bn (st a i d) n = bn a n := fun {n} h => iP fun j hj => by simp [st, show j ≠ i by omega]
theorem sM {a : Nat → Nat} {i d n : Nat} (hi : i < n) : bn (st a i d) n + a i * 4294967296 ^ i = bn a n + d * 4294967296 ^ i := by
 induction n with
 | zero => omega
 | succ n ih =>
  rw [eG, eG];rcases Nat.lt_or_ge i n with h | h
  ·have := ih h;have e : st a i d n = a n := by simp [st, show n ≠ i by omega]
   rw [e]; omega
  ·obtain rfl : i = n := by omega
   rw [nA (Nat.le_refl _)];have e : st a i d i = d := by simp [st]
   rw [e]; omega
/-- one step of a sum -/
theorem lA {o a b : Nat → Nat} {i c t : Nat} (h : bn o i + c * 4294967296 ^ i = bn a i + bn b i) (ht : t = c + a i + b i) :
 bn (st o i (t % 4294967296)) (i + 1) + t / 4294967296 * 4294967296 ^ (i + 1) = bn a (i + 1) + bn b (i + 1) := by
 rw [eG, nA (Nat.le_refl _), show st o i (t % 4294967296) i = t % 4294967296 by simp [st], eG a, eG b]
 have h1 : t * 4294967296 ^ i = t % 4294967296 * 4294967296 ^ i + t / 4294967296 * 4294967296 ^ (i + 1) := by
  rw [Nat.pow_succ, Nat.mul_comm (4294967296 ^ i), ← Nat.mul_assoc, ← Nat.add_mul, Nat.mod_add_div' t]
 have h2 : t * 4294967296 ^ i = c * 4294967296 ^ i + a i * 4294967296 ^ i + b i * 4294967296 ^ i := by rw [ht, Nat.add_mul, Nat.add_mul]
 omega
/-- one step of a difference: d is what stands there, c the new borrow -/
theorem iM {o a b : Nat → Nat} {i c c' d : Nat} (h : bn o i + bn b i = bn a i + c * 4294967296 ^ i) (hd : d + b i + c = a i + c' * 4294967296) :
 bn (st o i d) (i + 1) + bn b (i + 1) = bn a (i + 1) + c' * 4294967296 ^ (i + 1) := by
 rw [eG, nA (Nat.le_refl _), show st o i d i = d by simp [st], eG a, eG b, Nat.pow_succ];have h1 : (d + b i + c) * 4294967296 ^ i = (a i + c' * 4294967296) * 4294967296 ^ i := by rw [hd]
 simp only [Nat.add_mul] at h1;have h2 : c' * 4294967296 * 4294967296 ^ i = c' * (4294967296 ^ i * 4294967296) := by rw [Nat.mul_assoc, Nat.mul_comm 4294967296]
 omega
/-- one step of a product -/
theorem mQ {F a b : Nat → Nat} {i k n c t X : Nat} (hj : i + k < n) (h : bn F n + c * 4294967296 ^ (i + k) = X + a i * bn b k * 4294967296 ^ i) (ht : t = c + a i * b k + F (i + k)) :
 bn (st F (i + k) (t % 4294967296)) n + t / 4294967296 * 4294967296 ^ (i + k + 1) = X + a i * bn b (k + 1) * 4294967296 ^ i := by
 have h0 := sM (a := F) (d := t % 4294967296) hj
 have h1 : t * 4294967296 ^ (i + k) = t % 4294967296 * 4294967296 ^ (i + k) + t / 4294967296 * 4294967296 ^ (i + k + 1) := by
  rw [Nat.pow_succ, Nat.mul_comm (4294967296 ^ (i + k)), ← Nat.mul_assoc, ← Nat.add_mul, Nat.mod_add_div' t]
 have h2 : t * 4294967296 ^ (i + k) = c * 4294967296 ^ (i + k) + a i * b k * 4294967296 ^ (i + k) + F (i + k) * 4294967296 ^ (i + k) := by rw [ht, Nat.add_mul, Nat.add_mul]
 have h3 : a i * bn b (k + 1) * 4294967296 ^ i = a i * bn b k * 4294967296 ^ i + a i * b k * 4294967296 ^ (i + k) := by
  rw [eG, Nat.mul_add, Nat.add_mul, Nat.pow_add, ← Nat.mul_assoc (a i) (b k), Nat.mul_assoc (a i * b k), Nat.mul_comm (4294967296 ^ k)]
 omega
/-- the last digit of a row of a product -/
theorem mul_row {F a b : Nat → Nat} {i m n c : Nat} (hj : i + m < n) (h : bn F n + c * 4294967296 ^ (i + m) = bn a i * bn b m + a i * bn b m * 4294967296 ^ i) (h0 : F (i + m) = 0) :
 bn (st F (i + m) c) n = bn a (i + 1) * bn b m := by
 have h1 := sM (a := F) (d := c) hj;rw [h0, Nat.zero_mul, Nat.add_zero] at h1;rw [h1, h, eG, Nat.add_mul, Nat.mul_right_comm]
theorem mul_lt {x y c f : Nat} (hx : x < 4294967296) (hy : y < 4294967296) (hc : c < 4294967296) (hf : f < 4294967296) : c + x * y + f < 18446744073709551616 := by
 have : x * y ≤ 4294967295 * 4294967295 := Nat.mul_le_mul (by omega) (by omega);omega
theorem wN (n : Nat) : 4294967296 ^ n = 2 ^ (32 * n) := by rw [show (4294967296 : Nat) = 2 ^ 32 from rfl, ← Nat.pow_mul]
/-- a digit of the number -/
theorem qH {a : Nat → Nat} {n j : Nat} (h : ∀ i, i < n → a i < 4294967296) (hj : j < n) : bn a n / 4294967296 ^ j % 4294967296 = a j := by
 have h1 := iO a j (n - j);rw [show j + (n - j) = n by omega] at h1;have h2 := kD (a := a) (n := j) fun i hi => h i (by omega);have h3 : bn a n / 4294967296 ^ j = bn (fun i => a (j + i)) (n - j) := by rw [h1, Nat.add_mul_div_right _ _ (bpos j), Nat.div_eq_of_lt h2, Nat.zero_add]
 have h4 := iO (fun i => a (j + i)) 1 (n - j - 1);rw [show 1 + (n - j - 1) = n - j by omega] at h4;have h5 := h j hj;rw [h3, h4, Nat.pow_one, Nat.add_mul_mod_self_right]
 simp [bn, Nat.mod_eq_of_lt h5]
/-- a bit of the number -/
theorem bn_bit {a : Nat → Nat} {n i : Nat} (h : ∀ i, i < n → a i < 4294967296) (hi : i < 32 * n) : a (i / 32) / 2 ^ (i % 32) % 2 = bn a n / 2 ^ i % 2 := by
 have h1 := qH h (j := i / 32) (by omega)
 have h2 : bn a n / 2 ^ i = bn a n / 4294967296 ^ (i / 32) / 2 ^ (i % 32) := by
  rw [wN, Nat.div_div_eq_div_mul, ← Nat.pow_add, show 32 * (i / 32) + i % 32 = i by omega]
 have h3 : ∀ x s : Nat, s < 32 → x % 4294967296 / 2 ^ s % 2 = x / 2 ^ s % 2 := fun x s hs => by
  have e : (4294967296 : Nat) = 2 ^ s * 2 ^ (32 - s) := by rw [← Nat.pow_add, show s + (32 - s) = 32 by omega]
  rw [e, Nat.mod_mul_right_div_self, Nat.mod_mod_of_dvd];exact ⟨2 ^ (31 - s), by rw [show 32 - s = 31 - s + 1 by omega, Nat.pow_succ, Nat.mul_comm]⟩
 rw [← h1, h3 _ _ (by omega), h2]
/-- a bit that is put where none stands -/
theorem pC {a : Nat → Nat} {n i Q : Nat} (h : ∀ i, i < n → a i < 4294967296) (hi : i < 32 * n) (hQ : bn a n = Q * 2 ^ (i + 1)) :
 a (i / 32) % 2 ^ (i % 32 + 1) = 0 ∧ bn (st a (i / 32) (a (i / 32) + 2 ^ (i % 32))) n = (2 * Q + 1) * 2 ^ i := by
 have h1 := qH h (j := i / 32) (by omega);have hd : 4294967296 ^ (i / 32) * 2 ^ (i % 32) = 2 ^ i := by rw [wN, ← Nat.pow_add, show 32 * (i / 32) + i % 32 = i by omega]
 constructor
 ·have h2 : bn a n / 4294967296 ^ (i / 32) = Q * 2 ^ (i % 32 + 1) := by
   rw [hQ, Nat.pow_succ, ← hd, Nat.mul_assoc (4294967296 ^ (i / 32)), ← Nat.pow_succ, Nat.mul_left_comm, Nat.mul_div_cancel_left _ (bpos _)]
  rw [← h1, h2, Nat.mod_mod_of_dvd]
  ·exact Nat.mul_mod_left _ _
  ·have e : (4294967296 : Nat) = 2 ^ (i % 32 + 1) * 2 ^ (31 - i % 32) := by rw [← Nat.pow_add, show i % 32 + 1 + (31 - i % 32) = 32 by omega]
   exact ⟨_, e⟩
 ·have h2 := sM (a := a) (d := a (i / 32) + 2 ^ (i % 32)) (i := i / 32) (n := n) (by omega);rw [Nat.add_mul, hQ, Nat.mul_comm (2 ^ (i % 32)), hd, Nat.pow_succ] at h2;rw [Nat.add_mul, Nat.one_mul, Nat.mul_assoc, Nat.mul_left_comm];rw [Nat.mul_comm (2 ^ i) 2] at h2;have h3 : Q * (2 * 2 ^ i) = 2 * (Q * 2 ^ i) := by rw [Nat.mul_left_comm]
  omega
/-- one bit more of a quotient -/
theorem div_bit {X D Q R i bit : Nat} (h : X / 2 ^ (i + 1) = Q * D + R) (hb : bit = X / 2 ^ i % 2) : X / 2 ^ i = 2 * Q * D + (R + R + bit) := by
 have h1 : X / 2 ^ (i + 1) = X / 2 ^ i / 2 := by rw [Nat.div_div_eq_div_mul, Nat.pow_succ]
 have h2 : 2 * Q * D = 2 * (Q * D) := by rw [Nat.mul_assoc]
 omega
end Go.Proofs.YtccicbpeajdjgaaGreatDoor.Wd
namespace Go.Proofs.YtccicbpeajdjgaaGreatDoor.Vm
open Go Wd
def dg (a : Nat → Nat) : Nat → Value := fun i => .int .u32 (a i : Nat)
/-- the slice v holds n digits, in a block of the kind I -/
def Mg (w : World) (I : Nat → Prop) (v : Value) (n : Nat) (a : Nat → Nat) : Prop :=
 v = .slice none 0 0 ∧ n = 0 ∨ ∃ g o c, v = .slice (some ⟨g, o, none⟩) n c ∧ I g ∧ g < w.heap.size ∧ n ≤ c ∧ Rd w g o n (dg a)
section
variable {w w' : World} {I J : Nat → Prop} {v : Value} {n k : Nat} {a b : Nat → Nat} {S : List Nat}
theorem Mg.same (h : Mg w I v n a) (hs : Same S w w') (hS : ∀ g, g ∈ S → ¬ I g := by first | (simp; done) | (simp; omega) | (simp only [List.mem_singleton]; rintro g rfl hg; omega)) : Mg w' I v n a := by
 rcases h with h | ⟨g, o, c, h1, hl, h2, h3, h4⟩
 ·exact .inl h
 ·exact .inr ⟨g, o, c, h1, hl, hs.lt h2, h3, h4.same hs (fun hm => hS g hm hl) h2⟩
theorem Mg.mono (h : Mg w I v n a) (hl : ∀ g, I g → g < w.heap.size → J g) : Mg w J v n a := by
 rcases h with h | ⟨g, o, c, h1, hi, h2, h3⟩
 ·exact .inl h
 ·exact .inr ⟨g, o, c, h1, hl g hi h2, h2, h3⟩
theorem Mg.shape (h : Mg w I v n a) : ∃ A c, v = .slice A n c := by
 rcases h with ⟨h, rfl⟩ | ⟨g, o, c, h, _⟩
 ·exact ⟨_, _, h⟩
 ·exact ⟨_, _, h⟩
theorem Mg.lit {A : Option Addr} {c : Nat} (h : Mg w I (.slice A n c) n a) (h0 : 0 < n) : ∃ g o, A = some ⟨g, o, none⟩ ∧ I g ∧ g < w.heap.size ∧ n ≤ c ∧ Rd w g o n (dg a) := by
 rcases h with ⟨_, rfl⟩ | ⟨g, o, c, h1, h⟩
 ·omega
 ·cases h1;exact ⟨g, o, rfl, h⟩
theorem Mg.congr (h : Mg w I v n a) (he : ∀ i, i < n → a i = b i) : Mg w I v n b := by
 rcases h with h | ⟨g, o, c, h1, hl, h2, h3, h4⟩
 ·exact .inl h
 ·exact .inr ⟨g, o, c, h1, hl, h2, h3, h4.congr fun i hi => by unfold dg; rw [he i hi]⟩
end
/-- the slice v holds the number x, its digits normal -/
def Mz (w : World) (I : Nat → Prop) (v : Value) (x : Nat) : Prop := ∃ n a, Mg w I v n a ∧ (∀ i, i < n → a i < 4294967296) ∧ Nm a n ∧ bn a n = x
/-- a value of type Wide -/
def Wz (w : World) (I : Nat → Prop) (v : Value) (z : Int) : Prop := ∃ s, v = .agg #[.bool (decide (z < 0)), s] ∧ Mz w I s z.natAbs
section
variable {w w' : World} {I J : Nat → Prop} {v : Value} {x : Nat} {z : Int} {S : List Nat}
theorem Mz.same (h : Mz w I v x) (hs : Same S w w') (hS : ∀ g, g ∈ S → ¬ I g := by first | (simp; done) | (simp; omega) | (simp only [List.mem_singleton]; rintro g rfl hg; omega)) : Mz w' I v x := by
 obtain ⟨n, a, h1, h2, h3, h4⟩ := h;exact ⟨n, a, h1.same hs hS, h2, h3, h4⟩
theorem Mz.mono (h : Mz w I v x) (hl : ∀ g, I g → g < w.heap.size → J g) : Mz w J v x := by
 obtain ⟨n, a, h1, h2⟩ := h;exact ⟨n, a, h1.mono hl, h2⟩
theorem Wz.same (h : Wz w I v z) (hs : Same S w w') (hS : ∀ g, g ∈ S → ¬ I g := by first | (simp; done) | (simp; omega) | (simp only [List.mem_singleton]; rintro g rfl hg; omega)) : Wz w' I v z := by
 obtain ⟨s, h1, h2⟩ := h;exact ⟨s, h1, h2.same hs hS⟩
theorem Wz.mono (h : Wz w I v z) (hl : ∀ g, I g → g < w.heap.size → J g) : Wz w J v z := by
 obtain ⟨s, h1, h2⟩ := h;exact ⟨s, h1, h2.mono hl⟩
end
end Go.Proofs.YtccicbpeajdjgaaGreatDoor.Vm
namespace Go.Proofs.YtccicbpeajdjgaaGreatDoor.Vm
open Go Mix Go.RowKit
theorem pT {P : Program} {t e s : Nat} {p q : Addr} {w : World} {c : Bool} (hu : P.underlying t = some (.pointer e)) (hs : (P.info? e).map (·.size) = some (s + 1)) (h : (sameAddr p q).run P w = .ok c w) : (Op.equal t (.pointer (some p)) (.pointer (some q))).run P w = .ok c w := by
 unfold Op.equal;rw [show Op.maxDepth = 9999 + 1 from rfl];unfold Op.equalIn
 simp [Sem.run_bind, run_underlying hu, dP hs, h]
theorem Row.other {w : World} {b b' t t' n n' : Nat} {f f' : Nat → Value} {o o' : Nat} (P : Program) (h : Row w b t n f) (h' : Row w b' t' n' f') (hne : b ≠ b') : (sameAddr ⟨b, o, none⟩ ⟨b', o', none⟩).run P w = .ok false w := by
 obtain ⟨c, hc, _⟩ := h;obtain ⟨c', hc', _⟩ := h';exact run_sameAddr_other w (by simp [hne]) hc hc'
section
variable {X : Cx} {m : Option (List Nat)} {ops : Array Oper} {rest : List Oper} {ks : List KI} {ds : List Deferred} {l : Kn} {w : World} {d ty : Nat} {pos : String} {aft : Array Edge} {v : Value}
theorem sU {t t' e s : TypeId} {x y : Operand} {p q : Addr} {c : Bool} (hx : ev l x = some (.pointer (some p))) (hy : ev l y = some (.pointer (some q))) (hu : X.P.underlying t = some (.pointer e)) (hs : (X.P.info? e).map (·.size) = some (s + 1)) (h : (sameAddr p q).run X.P w = .ok c w) (hd : Nat.blt d X.n = true)
 (kk : WR X m ops rest ks ds ((d, .bool c) :: l) w) : WR X m ops (⟨some d, .binOp .eql t x y t', ty, pos, aft, none⟩ :: rest) ks ds l w :=
 cY hd (by cases m <;> rfl) (fun a ha => by
  simp only [execOp, ha.ev hx, ha.ev hy, Sem.run_bind];have hg : (eqGuard .eql t x y (.pointer (some p)) (.pointer (some q))).run X.P w = .ok () w := rfl
  rw [hg]; simp [binOp, pT hu hs h]) kk
theorem WR.neqP {t t' e s : TypeId} {x y : Operand} {p q : Addr} {c : Bool} (hx : ev l x = some (.pointer (some p))) (hy : ev l y = some (.pointer (some q))) (hu : X.P.underlying t = some (.pointer e)) (hs : (X.P.info? e).map (·.size) = some (s + 1)) (h : (sameAddr p q).run X.P w = .ok c w) (hd : Nat.blt d X.n = true)
 (kk : WR X m ops rest ks ds ((d, .bool (!c)) :: l) w) : WR X m ops (⟨some d, .binOp .neq t x y t', ty, pos, aft, none⟩ :: rest) ks ds l w :=
 cY hd (by cases m <;> rfl) (fun a ha => by
  simp only [execOp, ha.ev hx, ha.ev hy, Sem.run_bind];have hg : (eqGuard .neq t x y (.pointer (some p)) (.pointer (some q))).run X.P w = .ok () w := rfl
  rw [hg]; simp [binOp, pT hu hs h]) kk
theorem WR.neqS {t t' : TypeId} {x y : Operand} {a b : ByteArray} (hx : ev l x = some (.string a)) (hy : ev l y = some (.string b)) (hd : Nat.blt d X.n = true)
 (kk : WR X m ops rest ks ds ((d, .bool (!(a.toList == b.toList))) :: l) w) : WR X m ops (⟨some d, .binOp .neq t x y t', ty, pos, aft, none⟩ :: rest) ks ds l w :=
 cY hd (by cases m <;> rfl) (fun e he => by
  simp only [execOp, he.ev hx, he.ev hy, Sem.run_bind]
  have hg : (eqGuard .neq t x y (.string a) (.string b)).run X.P w = .ok () w := by unfold eqGuard; rfl
  rw [hg]
  simp [binOp, Op.stringOp]) kk
/-- strings put together -/
theorem sV {t t' : TypeId} {x y : Operand} {a b : ByteArray} (hx : ev l x = some (.string a)) (hy : ev l y = some (.string b)) (hl : a.size + b.size ≤ 9223372036854775807) (hd : Nat.blt d X.n = true)
 (kk : WR X m ops rest ks ds ((d, .string (a ++ b)) :: l) w) : WR X m ops (⟨some d, .binOp .add t x y t', ty, pos, aft, none⟩ :: rest) ks ds l w :=
 cY hd (by cases m <;> rfl) (fun e he => by
  simp only [execOp, he.ev hx, he.ev hy, Sem.run_bind]
  have hg : (eqGuard .add t x y (.string a) (.string b)).run X.P w = .ok () w := by unfold eqGuard; rfl
  rw [hg]
  have h9 : ¬ (((a.size + b.size : Nat) : Int) > IntKind.i64.max) := by simp [IntKind.max, IntKind.signed, IntKind.bits]; omega
  simp only [Result.andThen_ok, binOp, Op.stringOp];rw [if_neg h9]
  rfl) kk
theorem tU {x : Operand} {T : TypeId} {a : ByteArray} (hx : ev l x = some (.string a)) (hu : X.P.underlying T = some .string) (hd : Nat.blt d X.n = true) (k : WR X m ops rest ks ds ((d, .int .i64 (a.size : Nat)) :: l) w) :
 WR X m ops (⟨some d, .call ⟨.builtin .len, #[x], #[T]⟩, ty, pos, aft, none⟩ :: rest) ks ds l w :=
 cY hd (by cases m <;> rfl) (fun a ha => by
  simp only [execOp, resolve, Sem.run_bind, Sem.run_pure, Result.andThen_ok, Go.invoke, builtin, List.map_toArray, List.map_cons, List.map_nil, ha.ev hx]
  simp [Builtin.len_, goInt, run_underlying hu]) k
theorem fU {x : Operand} {T : TypeId} {A : Option Addr} {n c E : Nat} (hx : ev l x = some (.slice A n c)) (hu : X.P.underlying T = some (.slice E)) (hd : Nat.blt d X.n = true) (k : WR X m ops rest ks ds ((d, .int .i64 c) :: l) w) :
 WR X m ops (⟨some d, .call ⟨.builtin .cap, #[x], #[T]⟩, ty, pos, aft, none⟩ :: rest) ks ds l w :=
 cY hd (by cases m <;> rfl) (fun a ha => by
  simp only [execOp, resolve, Sem.run_bind, Sem.run_pure, Result.andThen_ok, Go.invoke, builtin, List.map_toArray, List.map_cons, List.map_nil, ha.ev hx]
  simp [Builtin.cap_, goInt, run_underlying hu]) k
/-- a byte of a string -/
theorem fO {x i : Operand} {T : TypeId} {s : ByteArray} {k : IntKind} {j : Int} {b : UInt8} (hx : ev l x = some (.string s)) (hi : ev l i = some (.int k j)) (hu : X.P.underlying T = some .string) (h0 : 0 ≤ j) (hb : s[j.toNat]? = some b) (hd : Nat.blt d X.n = true)
 (kk : WR X m ops rest ks ds ((d, .int .u8 (b.toNat : Nat)) :: l) w) : WR X m ops (⟨some d, .index T x i, ty, pos, aft, none⟩ :: rest) ks ds l w :=
 cY hd (by cases m <;> rfl) (fun a ha => by
  simp only [execOp, ha.ev hx, ha.ev hi, Instr.index, asIntOf, Sem.run_bind, Sem.run_pure, Result.andThen_ok, run_underlying hu]
  simp [h0, hb]) kk
/-- one byte as a string -/
theorem nY {t t' e : TypeId} {x : Operand} {g o c : Nat} {z : Int} (hx : ev l x = some (.slice (some ⟨g, o, none⟩) 1 c)) (hs : X.P.underlying t = some (.slice e)) (he : X.P.underlying e = some (.int .u8)) (hdst : X.P.underlying t' = some .string) (hc : w.cell? ⟨g, o, none⟩ = some (.int .u8 z)) (hk : eventOK m (.convert t t' x) ty = true) (hd : Nat.blt d X.n = true)
 (kk : ∀ s : ByteArray, s.size = 1 → WR X m ops rest ks ds ((d, .string s) :: l) w) : WR X m ops (⟨some d, .convert t t' x, ty, pos, aft, none⟩ :: rest) ks ds l w :=
 eI hd hk (w' := w) (fun a ha => by
  have hr := run_convert_bytes_arg (P := X.P) w t e hs he g o 1 c [z] rfl (fun i hi => by obtain rfl : i = 0 := (by omega); simpa using hc) t' hdst
  simp only [execOp, ha.ev hx, Sem.run_bind, hr, Result.andThen_ok, Sem.run_pure]) (kk (strOfNums [z]) (by rfl))
/-- a call of a function's value with what it has captured -/
theorem nE {f : FuncId} {o : Operand} {args : Array Operand} {tys : Array TypeId} {as : List Operand} {vs cs : List Value} {R : Value → World → Prop} (ho : ev l o = some (.func (.func f) #[] cs.toArray)) (has : args = as.toArray) (hv : evs l as = some vs) (hf : ∀ (us : Array Value) (w : World), (callFunc f us).run X.P w = .ok (.enter f us) w)
 (hc : eventOK m (.call ⟨.value o, args, tys⟩) ty = true) (hd : Nat.blt d X.n = true) (hcall : Ret X.P f (vs ++ cs).toArray w R) (k : ∀ v w', R v w' → WR X m ops rest ks ds ((d, v) :: l) w') :
 WR X m ops (⟨some d, .call ⟨.value o, args, tys⟩, ty, pos, aft, none⟩ :: rest) ks ds l w :=
 jY hd hc (fun a ha => by
  have he := eX ha hv;subst has;simp only [execOp, resolve, Deferred.ofValue, ha.ev ho, Sem.run_bind, Sem.run_pure, Result.andThen_ok, List.map_toArray, he, Array.empty_append];have h2 := hf (vs.toArray ++ cs.toArray) w;simp only [List.append_toArray] at h2
  simpa [Go.invoke] using h2) hcall k
end
end Go.Proofs.YtccicbpeajdjgaaGreatDoor.Vm
