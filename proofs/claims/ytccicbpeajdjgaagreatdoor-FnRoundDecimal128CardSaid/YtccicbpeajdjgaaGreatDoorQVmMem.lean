/- One lemma an operation, over the layer Vm. -/
import Derived.Test.YtccicbpeajdjgaaGreatDoorQVm
import Derived.WalkSpells
import Derived.WalkLawsBesides
set_option linter.unusedVariables false
set_option linter.unusedSimpArgs false
namespace Go.Proofs.YtccicbpeajdjgaaGreatDoor.Vm
open Go Mix
theorem eF {l : Kn} {t : Nat} {k : IntKind} {a b : Int} (h : look l t = some (.int k a)) (e : a = b) : look l t = some (.int k b) := by rw [h, e]
def stillOK (m : Option (List Nat)) (op : Op) (ty : TypeId) : Bool := match m with | none => true | some qs => cls qs ⟨none, op, ty, "", #[], none⟩ != 2
def eventOK (m : Option (List Nat)) (op : Op) (ty : TypeId) : Bool := match m with | none => true | some qs => cls qs ⟨none, op, ty, "", #[], none⟩ == 2
abbrev bare (op : Op) (ty : TypeId) : Oper := ⟨none, op, ty, "", #[], none⟩
section
variable {X : Cx} {m : Option (List Nat)} {ops : Array Oper} {rest : List Oper} {ks : List KI} {ds : List Deferred} {l : Kn} {w w' : World} {d ty : Nat} {op : Op} {pos : String} {aft : Array Edge} {v : Value}
theorem WR.weak (l' : Kn) (hs : subK l l') (h : WR X m ops rest ks ds l' w) : WR X m ops rest ks ds l w := fun a ha => h a (ha.sub hs)
theorem cY (hd : Nat.blt d X.n = true) (hc : stillOK m op ty = true) (hrun : ∀ a, Fr a X.n ds l → (execOp a.eval (bare op ty)).run X.P w = .ok (.value v) w)
 (k : WR X m ops rest ks ds ((d, v) :: l) w) : WR X m ops (⟨some d, op, ty, pos, aft, none⟩ :: rest) ks ds l w := by
 intro a ha;have hk := k _ (ha.put hd v);have hr := hrun a ha;cases m with
 | none =>
  refine wpList_plain rfl fun K hK => ?_;unfold Oper.wp;rw [dN, hr];exact hK _ _ hk
 | some qs =>
  refine rR (by simpa [stillOK] using hc) fun K hK => ?_;rw [hr];exact ⟨rfl, hK _ hk⟩
theorem eI (hd : Nat.blt d X.n = true) (hc : eventOK m op ty = true) (hrun : ∀ a, Fr a X.n ds l → (execOp a.eval (bare op ty)).run X.P w = .ok (.value v) w')
 (k : WR X m ops rest ks ds ((d, v) :: l) w') : WR X m ops (⟨some d, op, ty, pos, aft, none⟩ :: rest) ks ds l w := by
 intro a ha;have hk := k _ (ha.put hd v);have hr := hrun a ha;cases m with
 | none =>
  refine wpList_plain rfl fun K hK => ?_;unfold Oper.wp;rw [dN, hr];exact hK _ _ hk
 | some qs =>
  refine oE (by simpa [eventOK] using hc) fun K hK => ?_;rw [hr];exact hK _ _ hk
theorem lQ (hc : eventOK m op ty = true) (hrun : ∀ a, Fr a X.n ds l → (execOp a.eval (bare op ty)).run X.P w = .ok .skip w')
 (k : WR X m ops rest ks ds l w') : WR X m ops (⟨none, op, ty, pos, aft, none⟩ :: rest) ks ds l w := by
 intro a ha;have hk := k _ ha;have hr := hrun a ha;cases m with
 | none =>
  refine wpList_plain rfl fun K hK => ?_;unfold Oper.wp;rw [dN, hr];exact hK _ _ hk
 | some qs =>
  refine oE (by simpa [eventOK] using hc) fun K hK => ?_;rw [hr];exact hK _ _ hk
theorem jY {f : FuncId} {vs : Array Value} {R : Value → World → Prop} (hd : Nat.blt d X.n = true) (hc : eventOK m op ty = true) (hrun : ∀ a, Fr a X.n ds l → (execOp a.eval (bare op ty)).run X.P w = .ok (.enter f vs) w)
 (hcall : Ret X.P f vs w R) (k : ∀ v w', R v w' → WR X m ops rest ks ds ((d, v) :: l) w') : WR X m ops (⟨some d, op, ty, pos, aft, none⟩ :: rest) ks ds l w := by
 intro a ha;have hr := hrun a ha;cases m with
 | none =>
  refine wpList_plain rfl fun K hK => ?_;unfold Oper.wp;rw [dN, hr];refine Calls.mono hcall fun e w' ⟨v, he, hv⟩ => ?_;subst he;exact hK _ _ (k v w' hv _ (ha.put hd v))
 | some qs =>
  refine oE (by simpa [eventOK] using hc) fun K hK => ?_;rw [hr];refine Calls.mono hcall fun e w' ⟨v, he, hv⟩ => ?_;subst he;exact hK _ _ (k v w' hv _ (ha.put hd v))
/-- a call that leaves the world alone -/
theorem xA {f : FuncId} {vs : Array Value} (hd : Nat.blt d X.n = true) (hc : stillOK m op ty = true) (hrun : ∀ a, Fr a X.n ds l → (execOp a.eval (bare op ty)).run X.P w = .ok (.enter f vs) w)
 (hcall : Ret X.P f vs w fun u w' => u = v ∧ w' = w) (k : WR X m ops rest ks ds ((d, v) :: l) w) : WR X m ops (⟨some d, op, ty, pos, aft, none⟩ :: rest) ks ds l w := by
 intro a ha;have hr := hrun a ha;have hk := k _ (ha.put hd v);cases m with
 | none =>
  refine wpList_plain rfl fun K hK => ?_;unfold Oper.wp;rw [dN, hr];refine Calls.mono hcall fun e w' ⟨u, he, hv, hw⟩ => ?_
  subst he; subst hv; subst hw
  exact hK _ _ hk
 | some qs =>
  refine rR (by simpa [stillOK] using hc) fun K hK => ?_;rw [hr];exact ⟨rfl, v, Calls.mono hcall fun e w' ⟨u, he, hv, hw⟩ => ⟨by rw [he, hv], hw⟩, hK _ hk⟩
/-- a guarded operation: taken -/
theorem aJ {dst : Option Tmp} {j t : Nat} {b want : Bool} (hj : (ops[j]?).bind (·.dst) = some t) (hb : look l t = some (.bool b)) (he : b = want)
 (k : WR X m ops (⟨dst, op, ty, pos, aft, none⟩ :: rest) ks ds l w) : WR X m ops (⟨dst, op, ty, pos, aft, some (j, want)⟩ :: rest) ks ds l w := by
 subst he;intro a ha;have hk := k a ha
 have hwt : Region.wanted ⟨dst, op, ty, pos, aft, some (j, b)⟩ (yielded ops a.tmps) = true := by
  have hg := ha.get t _ hb;rw [Array.getD_eq_getD_getElem?] at hg;unfold Region.wanted yielded;simp only [hj];cases hq : a.tmps[t]? with
  | none => rw [hq] at hg; cases hg
  | some u => rw [hq] at hg; simp only [Option.getD_some] at hg; subst hg; simp [hq]
 cases m with
 | none =>
  show wpList _ _ _ _ _ _
  have hk' : wpList X.P ops (post X.P X.B ks) (⟨dst, op, ty, pos, aft, none⟩ :: rest) a w := hk;unfold wpList at hk' ⊢;rw [if_pos hwt];simp only [Region.wanted, if_true] at hk';refine hk'.imp (fun h => ?_) (fun h => ?_)
  ·unfold Oper.wp at h ⊢;rw [dN] at h ⊢
   revert h
   generalize (execOp a.eval ⟨none, op, ty, "", #[], none⟩).run X.P w = r
   cases r with
   | ok n w' => cases n <;> exact fun h => h
   | halt x w' => cases x <;> exact fun h => h
  ·unfold Oper.asks at h ⊢;rw [dN] at h ⊢;exact h
 | some qs =>
  show wpMix _ _ _ _ _ _ _
  have hk' : wpMix qs X.P ops (calm (post X.P X.B ks)) (⟨dst, op, ty, pos, aft, none⟩ :: rest) a w := hk;unfold wpMix at hk' ⊢;have hcl : cls qs ⟨dst, op, ty, pos, aft, some (j, b)⟩ = cls qs ⟨dst, op, ty, pos, aft, none⟩ := rfl;rw [hcl]
  by_cases hc : cls qs ⟨dst, op, ty, pos, aft, none⟩ = 2
  ·rw [if_pos hc] at hk' ⊢;rw [if_pos hwt];simp only [Region.wanted, if_true] at hk';unfold Oper.wp at hk' ⊢;rw [dN] at hk' ⊢
   revert hk'
   generalize (execOp a.eval ⟨none, op, ty, "", #[], none⟩).run X.P w = r
   cases r with
   | ok n w' => cases n <;> exact fun h => h
   | halt x w' => cases x <;> exact fun h => h
  ·rw [if_neg hc] at hk' ⊢;rw [if_pos hwt];simp only [Region.wanted, if_true] at hk';unfold Oper.still at hk' ⊢;rw [dN] at hk' ⊢
   revert hk'
   generalize (execOp a.eval ⟨none, op, ty, "", #[], none⟩).run X.P w = r
   cases r with
   | ok n w' => cases n <;> exact fun h => h
   | halt x w' => cases x <;> exact fun h => h
/-- a guarded operation: passed over -/
theorem aW {j t : Nat} {b want : Bool} (hd : Nat.blt d X.n = true) (hj : (ops[j]?).bind (·.dst) = some t) (hb : look l t = some (.bool b)) (he : b = !want)
 (k : WR X m ops rest ks ds ((d, undef) :: l) w) : WR X m ops (⟨some d, op, ty, pos, aft, some (j, want)⟩ :: rest) ks ds l w := by
 subst he;intro a ha;have hk := k _ (ha.put hd undef)
 have hwt : Region.wanted ⟨some d, op, ty, pos, aft, some (j, want)⟩ (yielded ops a.tmps) = false := by
  have hg := ha.get t _ hb;rw [Array.getD_eq_getD_getElem?] at hg;unfold Region.wanted yielded;simp only [hj];cases hq : a.tmps[t]? with
  | none => rw [hq] at hg; cases hg
  | some u => rw [hq] at hg; simp only [Option.getD_some] at hg; subst hg; simp [hq]
 cases m with
 | none =>
  show wpList _ _ _ _ _ _
  unfold wpList;rw [hwt, if_neg zp];exact hk
 | some qs =>
  show wpMix _ _ _ _ _ _ _
  unfold wpMix;rw [hwt]
  split
  ·rw [if_neg zp]; exact hk
  ·rw [if_neg zp]; exact hk
theorem WR.passN {j t : Nat} {b want : Bool} (hj : (ops[j]?).bind (·.dst) = some t) (hb : look l t = some (.bool b)) (he : b = !want)
 (k : WR X m ops rest ks ds l w) : WR X m ops (⟨none, op, ty, pos, aft, some (j, want)⟩ :: rest) ks ds l w := by
 subst he;intro a ha;have hk := k _ ha
 have hwt : Region.wanted ⟨none, op, ty, pos, aft, some (j, want)⟩ (yielded ops a.tmps) = false := by
  have hg := ha.get t _ hb;rw [Array.getD_eq_getD_getElem?] at hg;unfold Region.wanted yielded;simp only [hj];cases hq : a.tmps[t]? with
  | none => rw [hq] at hg; cases hg
  | some u => rw [hq] at hg; simp only [Option.getD_some] at hg; subst hg; simp [hq]
 cases m with
 | none =>
  show wpList _ _ _ _ _ _
  unfold wpList;rw [hwt, if_neg zp];exact hk
 | some qs =>
  show wpMix _ _ _ _ _ _ _
  unfold wpMix;rw [hwt]
  split
  ·rw [if_neg zp]; exact hk
  ·rw [if_neg zp]; exact hk
/- the single operations -/
theorem aA {x : Operand} (hx : ev l x = some v) (hd : Nat.blt d X.n = true) (k : WR X m ops rest ks ds ((d, v) :: l) w) : WR X m ops (⟨some d, .move x, ty, pos, aft, none⟩ :: rest) ks ds l w :=
 cY hd (by cases m <;> rfl) (fun a ha => by simp only [execOp, Sem.run_pure, ha.ev hx]) k
theorem aF {x : Operand} (hx : ev l x = some v) (hd : Nat.blt d X.n = true) (k : WR X m ops rest ks ds ((d, v) :: l) w) : WR X m ops (⟨some d, .assign x, ty, pos, aft, none⟩ :: rest) ks ds l w :=
 cY hd (by cases m <;> rfl) (fun a ha => by simp only [execOp, Sem.run_pure, ha.ev hx]) k
theorem sR {c x y : Operand} {b : Bool} {u : Value} (hc : ev l c = some (.bool b)) (hu : ev l (bif b then x else y) = some u) (hd : Nat.blt d X.n = true) (k : WR X m ops rest ks ds ((d, u) :: l) w) :
 WR X m ops (⟨some d, .pick c x y, ty, pos, aft, none⟩ :: rest) ks ds l w :=
 cY hd (by cases m <;> rfl) (fun a ha => by
  have h1 := ha.ev hu;simp only [execOp, ha.ev hc, asBool, Sem.run_bind, Sem.run_pure, Result.andThen_ok]
  cases b <;> simp_all) k
theorem cH {c x y : Operand} {b : Bool} {u : Value} (hc : ev l c = some (.bool b)) (he : b = true) (hu : ev l x = some u) (hd : Nat.blt d X.n = true) (k : WR X m ops rest ks ds ((d, u) :: l) w) :
 WR X m ops (⟨some d, .pick c x y, ty, pos, aft, none⟩ :: rest) ks ds l w := by subst he; exact sR hc hu hd k
theorem cE {c x y : Operand} {b : Bool} {u : Value} (hc : ev l c = some (.bool b)) (he : b = false) (hu : ev l y = some u) (hd : Nat.blt d X.n = true) (k : WR X m ops rest ks ds ((d, u) :: l) w) :
 WR X m ops (⟨some d, .pick c x y, ty, pos, aft, none⟩ :: rest) ks ds l w := by subst he; exact sR hc hu hd k
theorem aP {x : Operand} {p : Addr} (hx : ev l x = some (.pointer (some p))) (hd : Nat.blt d X.n = true) (k : WR X m ops rest ks ds ((d, .pointer (some p)) :: l) w) : WR X m ops (⟨some d, .nilCheck x, ty, pos, aft, none⟩ :: rest) ks ds l w :=
 cY hd (by cases m <;> rfl) (fun a ha => by simp only [execOp, ha.ev hx, Sem.run_pure]) k
theorem WR.nilCheckI {x : Operand} {t : TypeId} {u : Value} (hx : ev l x = some (.iface t u)) (hd : Nat.blt d X.n = true) (k : WR X m ops rest ks ds ((d, .iface t u) :: l) w) : WR X m ops (⟨some d, .nilCheck x, ty, pos, aft, none⟩ :: rest) ks ds l w :=
 cY hd (by cases m <;> rfl) (fun a ha => by simp only [execOp, ha.ev hx, Sem.run_pure]) k
/-- what a binary operation on two integers gives -/
def arith (op : BinOp) (k : IntKind) (a b : Int) : Option Value :=
 match op with
 | .add => some (.int k (k.wrap (a + b)))
 | .sub => some (.int k (k.wrap (a - b)))
 | .mul => some (.int k (k.wrap (a * b)))
 | .quo => if b = 0 then none else some (.int k (k.wrap (a.tdiv b)))
 | .rem => if b = 0 then none else some (.int k (a.tmod b))
 | .and => some (.int k (k.wrap (BitVec.ofInt k.bits a &&& BitVec.ofInt k.bits b).toNat))
 | .or => some (.int k (k.wrap (BitVec.ofInt k.bits a ||| BitVec.ofInt k.bits b).toNat))
 | .xor => some (.int k (k.wrap (BitVec.ofInt k.bits a ^^^ BitVec.ofInt k.bits b).toNat))
 | .andNot => some (.int k (k.wrap (BitVec.ofInt k.bits a &&& ~~~BitVec.ofInt k.bits b).toNat))
 | .eql => some (.bool (a == b))
 | .neq => some (.bool (a != b))
 | .lss => some (.bool (decide (a < b)))
 | .leq => some (.bool (decide (a ≤ b)))
 | .gtr => some (.bool (decide (a > b)))
 | .geq => some (.bool (decide (a ≥ b)))
 | _ => none
theorem aV {n : Int} (h0 : -9223372036854775808 ≤ n) (h1 : n ≤ 9223372036854775807) : IntKind.i64.wrap n = n := by simp [IntKind.wrap, IntKind.bits, IntKind.signed]; omega
theorem gE {n : Int} (h0 : -2147483648 ≤ n) (h1 : n ≤ 2147483647) : IntKind.i32.wrap n = n := by simp [IntKind.wrap, IntKind.bits, IntKind.signed]; omega
theorem wrap_i16 {n : Int} (h0 : -32768 ≤ n) (h1 : n ≤ 32767) : IntKind.i16.wrap n = n := by simp [IntKind.wrap, IntKind.bits, IntKind.signed]; omega
theorem wrap_i8 {n : Int} (h0 : -128 ≤ n) (h1 : n ≤ 127) : IntKind.i8.wrap n = n := by simp [IntKind.wrap, IntKind.bits, IntKind.signed]; omega
theorem dD {n : Int} (h0 : 0 ≤ n) (h1 : n ≤ 18446744073709551615) : IntKind.u64.wrap n = n := by simp [IntKind.wrap, IntKind.bits, IntKind.signed]; omega
theorem iK {n : Int} (h0 : 0 ≤ n) (h1 : n ≤ 4294967295) : IntKind.u32.wrap n = n := by simp [IntKind.wrap, IntKind.bits, IntKind.signed]; omega
theorem wrap_u16 {n : Int} (h0 : 0 ≤ n) (h1 : n ≤ 65535) : IntKind.u16.wrap n = n := by simp [IntKind.wrap, IntKind.bits, IntKind.signed]; omega
theorem gC {n : Int} (h0 : 0 ≤ n) (h1 : n ≤ 255) : IntKind.u8.wrap n = n := by simp [IntKind.wrap, IntKind.bits, IntKind.signed]; omega
theorem cJ {k : IntKind} {a b z : Int} (h : k.wrap (a + b) = z) : arith .add k a b = some (.int k z) := by rw [← h]; rfl
theorem cT {k : IntKind} {a b z : Int} (h : k.wrap (a - b) = z) : arith .sub k a b = some (.int k z) := by rw [← h]; rfl
theorem dE {k : IntKind} {a b z : Int} (h : k.wrap (a * b) = z) : arith .mul k a b = some (.int k z) := by rw [← h]; rfl
theorem gM {k : IntKind} {a b z : Int} (hb : b ≠ 0) (h : k.wrap (a.tdiv b) = z) : arith .quo k a b = some (.int k z) := by rw [← h]; simp [arith, hb]
theorem iJ {k : IntKind} {a b z : Int} (hb : b ≠ 0) (h : a.tmod b = z) : arith .rem k a b = some (.int k z) := by rw [← h]; simp [arith, hb]
theorem mK {a b : Int} (h : 0 ≤ a) : a.tdiv b = a / b := Int.tdiv_eq_ediv_of_nonneg h
theorem kO {a b : Int} (h : 0 ≤ a) : a.tmod b = a % b := Int.tmod_eq_emod_of_nonneg h
theorem eL {n : Nat} {a : Int} (h0 : 0 ≤ a) (h1 : a < 2 ^ n) : (BitVec.ofInt n a).toNat = a.toNat := by
 rw [BitVec.toNat_ofInt]
 congr 1
 exact Int.emod_eq_of_lt h0 (by exact_mod_cast h1)
/-- 'or' of two numbers whose bits lie apart is their sum -/
theorem wT {a c D : Int} (k : Nat) (hD : D = ((2 ^ k : Nat) : Int)) (h0 : 0 ≤ a) (h1 : a < D) (hc : 0 ≤ c) (h2 : a + c * D < 18446744073709551616) : arith .or .u64 a (c * D) = some (.int .u64 (a + c * D)) := by
 have hcD : 0 ≤ c * D := Int.mul_nonneg hc (by rw [hD]; exact Int.natCast_nonneg _);obtain ⟨a', rfl⟩ := Int.eq_ofNat_of_zero_le h0;obtain ⟨c', rfl⟩ := Int.eq_ofNat_of_zero_le hc
 have hlt : a' < 2 ^ k := by rw [hD] at h1; exact_mod_cast h1
 have e : (BitVec.ofInt IntKind.u64.bits (a' : Int) ||| BitVec.ofInt IntKind.u64.bits ((c' : Int) * D)).toNat = a' + c' * 2 ^ k := by
  have hmul : ((c' : Int) * D).toNat = c' * 2 ^ k := by rw [hD]; exact_mod_cast Int.toNat_natCast (c' * 2 ^ k)
  rw [BitVec.toNat_or, eL zw (by show _ < (2 : Int) ^ 64; omega), eL hcD (by show _ < (2 : Int) ^ 64; omega), hmul, Int.toNat_natCast];have := Nat.two_pow_add_eq_or_of_lt hlt c';rw [Nat.or_comm, Nat.mul_comm c', ← this, Nat.add_comm]
 unfold arith;simp only [e]
 congr 2
 rw [hD]
 have : ((a' + c' * 2 ^ k : Nat) : Int) = (a' : Int) + (c' : Int) * ((2 ^ k : Nat) : Int) := by push_cast; rfl
 rw [this, ← hD];exact dD zw zw
theorem ar_or32 {a c D : Int} (k : Nat) (hD : D = ((2 ^ k : Nat) : Int)) (h0 : 0 ≤ a) (h1 : a < D) (hc : 0 ≤ c) (h2 : a + c * D < 4294967296) : arith .or .u32 a (c * D) = some (.int .u32 (a + c * D)) := by
 have hcD : 0 ≤ c * D := Int.mul_nonneg hc (by rw [hD]; exact Int.natCast_nonneg _);obtain ⟨a', rfl⟩ := Int.eq_ofNat_of_zero_le h0;obtain ⟨c', rfl⟩ := Int.eq_ofNat_of_zero_le hc
 have hlt : a' < 2 ^ k := by rw [hD] at h1; exact_mod_cast h1
 have e : (BitVec.ofInt IntKind.u32.bits (a' : Int) ||| BitVec.ofInt IntKind.u32.bits ((c' : Int) * D)).toNat = a' + c' * 2 ^ k := by
  have hmul : ((c' : Int) * D).toNat = c' * 2 ^ k := by rw [hD]; exact_mod_cast Int.toNat_natCast (c' * 2 ^ k)
  rw [BitVec.toNat_or, eL zw (by show _ < (2 : Int) ^ 32; omega), eL hcD (by show _ < (2 : Int) ^ 32; omega), hmul, Int.toNat_natCast];have := Nat.two_pow_add_eq_or_of_lt hlt c';rw [Nat.or_comm, Nat.mul_comm c', ← this, Nat.add_comm]
 unfold arith;simp only [e]
 congr 2
 rw [hD]
 have : ((a' + c' * 2 ^ k : Nat) : Int) = (a' : Int) + (c' : Int) * ((2 ^ k : Nat) : Int) := by push_cast; rfl
 rw [this, ← hD];exact iK zw zw
theorem cast_am (a b D : Nat) : ((a + b * D : Nat) : Int) = (a : Int) + (b : Int) * (D : Int) := by rw [Int.natCast_add, Int.natCast_mul]
theorem cast_am_lt {a b D : Nat} (h : a + b * D < 18446744073709551616) : (a : Int) + (b : Int) * (D : Int) < 18446744073709551616 := by rw [← cast_am]; omega
theorem mV {a p D : Int} (h : p = D) (hD : 0 ≤ D) : a.fdiv p = a / D := by subst h; exact Int.fdiv_eq_ediv_of_nonneg _ hD
theorem shl_c {k : IntKind} {a p D z : Int} (h : p = D) (hw : k.wrap (a * D) = z) : k.wrap (a * p) = z := by subst h; exact hw
theorem aI {o : BinOp} {t t' : TypeId} {x y : Operand} {k : IntKind} {a b : Int} (hx : ev l x = some (.int k a)) (hy : ev l y = some (.int k b)) (hv : arith o k a b = some v) (hd : Nat.blt d X.n = true)
    (kk : WR X m ops rest ks ds ((d, v) :: l) w) : WR X m ops (⟨some d, .binOp o t x y t', ty, pos, aft, none⟩ :: rest) ks ds l w :=
  cY hd (by cases m <;> rfl) (fun c hc => by
    simp only [execOp, hc.ev hx, hc.ev hy, Sem.run_bind]
    have hg : (eqGuard o t x y (.int k a) (.int k b)).run X.P w = .ok () w := by unfold eqGuard; cases o <;> rfl
    rw [hg]
    cases o <;> simp only [arith, Option.some.injEq, reduceCtorEq] at hv <;> first
      | (subst hv; simp [binOp, Op.intArith, Op.intBits, Op.intCmp]; done)
      | (split at hv
         · cases hv
         · rename_i hb
           simp only [Option.some.injEq] at hv
           subst hv
           simp [binOp, Op.intDiv, hb])) kk
theorem eQ {t t' : TypeId} {x y : Operand} {k k' : IntKind} {a b : Int} (hx : ev l x = some (.int k a)) (hy : ev l y = some (.int k' b)) (hb : 0 ≤ b) {z : Int} (hz : k.wrap (a * 2 ^ min b.toNat k.bits) = z) (hd : Nat.blt d X.n = true)
 (kk : WR X m ops rest ks ds ((d, .int k z) :: l) w) : WR X m ops (⟨some d, .binOp .shl t x y t', ty, pos, aft, none⟩ :: rest) ks ds l w :=
 cY hd (by cases m <;> rfl) (fun c hc => by
  simp only [execOp, hc.ev hx, hc.ev hy, Sem.run_bind];have hg : (eqGuard .shl t x y (.int k a) (.int k' b)).run X.P w = .ok () w := rfl;rw [hg]
  simp [binOp, Op.shift, Int.not_lt.2 hb, hz]) kk
theorem dF {t t' : TypeId} {x y : Operand} {k k' : IntKind} {a b : Int} (hx : ev l x = some (.int k a)) (hy : ev l y = some (.int k' b)) (hb : 0 ≤ b) {z : Int} (hz : a.fdiv (2 ^ min b.toNat k.bits) = z) (hd : Nat.blt d X.n = true)
 (kk : WR X m ops rest ks ds ((d, .int k z) :: l) w) : WR X m ops (⟨some d, .binOp .shr t x y t', ty, pos, aft, none⟩ :: rest) ks ds l w :=
 cY hd (by cases m <;> rfl) (fun c hc => by
  simp only [execOp, hc.ev hx, hc.ev hy, Sem.run_bind];have hg : (eqGuard .shr t x y (.int k a) (.int k' b)).run X.P w = .ok () w := rfl;rw [hg]
  simp [binOp, Op.shift, Int.not_lt.2 hb, hz]) kk
theorem cW {t t' : TypeId} {x : Operand} {k k' : IntKind} {a : Int} {u : TypeDesc} (hx : ev l x = some (.int k a)) (hu' : X.P.underlying t = some u) (hu : X.P.underlying t' = some (.int k')) {z : Int} (hz : k'.wrap a = z) (hd : Nat.blt d X.n = true)
 (kk : WR X m ops rest ks ds ((d, .int k' z) :: l) w) : WR X m ops (⟨some d, .convert t t' x, ty, pos, aft, none⟩ :: rest) ks ds l w :=
 cY hd (by cases m <;> rfl) (fun c hc => by
  simp only [execOp, hc.ev hx, Sem.run_bind]
  simp [convert, run_underlying hu, run_underlying hu', Conv.intToInt, hz]) kk
theorem aY {x : Operand} {i : Nat} {vs : Array Value} {u : Value} (hx : ev l x = some (.tuple vs)) (hv : vs[i]? = some u) (hd : Nat.blt d X.n = true) (kk : WR X m ops rest ks ds ((d, u) :: l) w) :
 WR X m ops (⟨some d, .extract x i, ty, pos, aft, none⟩ :: rest) ks ds l w :=
 cY hd (by cases m <;> rfl) (fun c hc => by simp [execOp, hc.ev hx, Instr.extract, hv]) kk
theorem dL {t : TypeId} {x : Operand} {b : Bool} (hx : ev l x = some (.bool b)) (hd : Nat.blt d X.n = true) (kk : WR X m ops rest ks ds ((d, .bool (!b)) :: l) w) :
 WR X m ops (⟨some d, .unOp .not t x, ty, pos, aft, none⟩ :: rest) ks ds l w :=
 cY hd (by cases m <;> rfl) (fun c hc => by simp [execOp, hc.ev hx, Op.unary]) kk
end
end Go.Proofs.YtccicbpeajdjgaaGreatDoor.Vm
namespace Go.Proofs.YtccicbpeajdjgaaGreatDoor.Vm
open Go Mix Go.RowKit
/-- block b is a row of n cells of type t, none of them frozen; cell i holds f i -/
def Row (w : World) (b : Nat) (t : TypeId) (n : Nat) (f : Nat → Value) : Prop := ∃ c : Array Value, w.heap[b]? = some (.cells c t (0, 0)) ∧ c.size = n ∧ ∀ i, i < n → c[i]? = some (f i)
def upd (f : Nat → Value) (i : Nat) (v : Value) : Nat → Value := fun j => if j = i then v else f j
/-- cells that are read alone -/
def Rd (w : World) (b o n : Nat) (f : Nat → Value) : Prop := ∀ i, i < n → w.cell? ⟨b, o + i, none⟩ = some (f i)
/-- all blocks of w but those of S are in w' as they were -/
structure Same (S : List Nat) (w w' : World) : Prop where
 size : w.heap.size ≤ w'.heap.size
 block : ∀ g, g < w.heap.size → g ∉ S → w'.heap[g]? = w.heap[g]?
 os : w'.os = w.os
 out : w'.output = w.output
 tape : w'.tape = w.tape
section
variable {w w' w1 w2 : World} {b o n t g : Nat} {f f' : Nat → Value} {S S' : List Nat} {v : Value}
theorem Row.lt (h : Row w b t n f) : b < w.heap.size := by
 obtain ⟨c, hc, _⟩ := h;exact (Array.getElem?_eq_some_iff.1 hc).1
theorem Row.cell (h : Row w b t n f) {i : Nat} (hi : i < n) : w.cell? ⟨b, i, none⟩ = some (f i) := by
 obtain ⟨c, hc, _, hf⟩ := h
 simp [World.cell?, hc, hf i hi]
theorem Row.fz (h : Row w b t n f) (i : Nat) : w.frozen? ⟨b, i, none⟩ = false := by
 obtain ⟨c, hc, _, _⟩ := h
 simp [World.frozen?, hc]
theorem Row.same (h : Row w b t n f) (hs : Same S w w') (hb : b ∉ S := by first | (simp; done) | (simp; omega)) : Row w' b t n f := by
 have hlt := h.lt;obtain ⟨c, hc, hn, hf⟩ := h;exact ⟨c, (hs.block b hlt hb).trans hc, hn, hf⟩
theorem Row.congr (h : Row w b t n f) (he : ∀ i, i < n → f i = f' i) : Row w b t n f' := by
 obtain ⟨c, hc, hn, hf⟩ := h;exact ⟨c, hc, hn, fun i hi => by rw [hf i hi, he i hi]⟩
theorem Row.set (h : Row w b t n f) (i : Nat) (v : Value) : Row (w.setCell ⟨b, i, none⟩ v) b t n (upd f i v) := by
 obtain ⟨c, hc, hn, hf⟩ := h;refine ⟨c.setIfInBounds i v, by simp [World.setCell, Array.getElem?_modify, hc], by simp [hn], fun j hj => ?_⟩;rw [Array.getElem?_setIfInBounds, upd]
 by_cases hji : i = j
 ·subst hji; simp [hn, hj]
 ·rw [if_neg hji, if_neg (fun e => hji e.symm)]; exact hf j hj
theorem Row.rd (h : Row w b t n f) (o k : Nat) (hk : o + k ≤ n) : Rd w b o k (fun i => f (o + i)) := fun _ hi => h.cell zw
theorem Rd.same (h : Rd w b o n f) (hs : Same S w w') (hb : b ∉ S := by first | (simp; done) | (simp; omega)) (hlt : b < w.heap.size := by omega) : Rd w' b o n f := fun i hi => by
 have := h i hi;unfold World.cell? at this ⊢;rw [hs.block b hlt hb];exact this
theorem Rd.congr (h : Rd w b o n f) (he : ∀ i, i < n → f i = f' i) : Rd w b o n f' := fun i hi => by rw [h i hi, he i hi]
theorem Same.refl (S : List Nat) (w : World) : Same S w w := ⟨Nat.le_refl _, fun _ _ _ => rfl, rfl, rfl, rfl⟩
theorem Same.trans (h : Same S w w1) (h' : Same S' w1 w2) (hS : ∀ g, g ∈ S' → g ∈ S ∨ w.heap.size ≤ g := by first | (simp; done) | (simp; omega)) : Same S w w2 :=
 ⟨Nat.le_trans h.size h'.size, fun g hg hgS => by
  have hg' : g ∉ S' := fun hm => by
   rcases hS g hm with h1 | h1
   ·exact hgS h1
   ·omega
  rw [h'.block g (Nat.lt_of_lt_of_le hg h.size) hg', h.block g hg hgS], h'.os.trans h.os, h'.out.trans h.out, h'.tape.trans h.tape⟩
theorem Same.le (h : Same S w w') {H : Nat} (g : H ≤ w.heap.size) : H ≤ w'.heap.size := Nat.le_trans g h.size
theorem Same.lt (h : Same S w w') {H : Nat} (g : H < w.heap.size) : H < w'.heap.size := Nat.lt_of_lt_of_le g h.size
theorem Same.more (h : Same S w w') (hS : ∀ g, g ∈ S → g ∈ S' ∨ w.heap.size ≤ g) : Same S' w w' :=
 ⟨h.size, fun g hg hgS => h.block g hg fun hm => by
  rcases hS g hm with h1 | h1
  ·exact hgS h1
  ·omega, h.os, h.out, h.tape⟩
theorem aC (w : World) : Same [] w w.drew := ⟨Nat.le_refl _, fun _ _ _ => rfl, rfl, rfl, rfl⟩
theorem Same.setCell (w : World) (p : Addr) (v : Value) : Same [p.block] w (w.setCell p v) :=
 ⟨by simp [World.setCell], fun g _ hgS => by
  have hne : p.block ≠ g := fun e => hgS (by simp [e])
  simp [World.setCell, Array.getElem?_modify, hne], rfl, rfl, rfl⟩
theorem Same.alloc (w : World) (o : Obj) : Same [] w (w.alloc o) :=
 ⟨by show w.heap.size ≤ (w.heap.push o).size; simp, fun g hg _ => by show (w.heap.push o)[g]? = _; simp [Array.getElem?_push, Nat.ne_of_lt hg], rfl, rfl, rfl⟩
theorem Row.alloc (w : World) (c : Array Value) (t : TypeId) : Row (w.alloc (.cells c t)) w.heap.size t c.size (fun i => c.getD i undef) := by
 exact ⟨c, by show (w.heap.push _)[w.heap.size]? = _; simp, rfl, fun i hi => by simp [hi]⟩
end
section
variable {X : Cx} {m : Option (List Nat)} {ops : Array Oper} {rest : List Oper} {ks : List KI} {ds : List Deferred} {l : Kn} {w : World} {d ty : Nat} {pos : String} {aft : Array Edge} {v : Value}
def plainD : TypeDesc → Bool
 | .struct _ | .array _ _ => false
 | _ => true
theorem iN {P : Program} {t : TypeId} {D : TypeDesc} (hu : P.underlying t = some D) (hD : plainD D = true) (w : World) : (isAgg t).run P w = .ok false w := by
 unfold isAgg;simp only [Sem.run_bind, run_underlying hu, Result.andThen_ok]
 cases D <;> first | rfl | cases hD
/-- a load of one cell -/
theorem aL {t : TypeId} {x : Operand} {p : Addr} {D : TypeDesc} (hx : ev l x = some (.pointer (some p))) (hu : X.P.underlying t = some D) (hD : plainD D = true) (hc : w.cell? p = some v) (hd : Nat.blt d X.n = true)
 (k : WR X m ops rest ks ds ((d, v) :: l) w) : WR X m ops (⟨some d, .load t x, ty, pos, aft, none⟩ :: rest) ks ds l w :=
 cY hd (by cases m <;> rfl) (fun a ha => by
  simp only [execOp, ha.ev hx, Instr.loadAt, Instr.sureAddr, loadVar, Sem.run_bind, Sem.run_pure, Result.andThen_ok, iN hu hD]
  simp [hc]) k
theorem dP {P : Program} {t s : Nat} (h : (P.info? t).map (·.size) = some s) (w : World) : (sizeOf t).run P w = .ok s w := by
 unfold sizeOf typeInfo;cases hi : P.info? t with
 | none => rw [hi] at h; cases h
 | some i =>
  rw [hi] at h;simp only [Option.map_some, Option.some.injEq] at h
  simp [Sem.run_bind, hi, h]
/-- a store of one cell -/
theorem wV {t : TypeId} {x y : Operand} {p : Addr} {old : Value} (hx : ev l x = some (.pointer (some p))) (hy : ev l y = some v) (h1 : v.oneCell' = true) (hs : (X.P.info? t).map (·.size) = some 1) (hc : w.cell? p = some old) (hf : w.frozen? p = false)
 (k : WR X m ops rest ks ds l (w.setCell p v)) : WR X m ops (⟨none, .store t x y, ty, pos, aft, none⟩ :: rest) ks ds l w :=
 lQ (by cases m <;> rfl) (fun a ha => by
  have hv : v.cells = #[v] := by
   revert h1
   cases v <;> first | (intro _; rfl) | (intro h; cases h)
  have hcell : (storeCells p [v]).run X.P w = .ok () (w.setCell p v) := by
   unfold storeCells;rw [show p.add 0 = p from by simp [Addr.add]]
   have h0 : (Go.store p v).run X.P w = .ok () (w.setCell p v) := by rw [run_store _ _ _ _ _ h1, hc]; simp [hf]
   simp only [Sem.run_bind, h0, Result.andThen_ok];rfl
  simp only [execOp, ha.ev hx, ha.ev hy, Instr.storeAt, Instr.sureAddr, storeVar, Sem.run_bind, Sem.run_pure, Result.andThen_ok, dP hs];rw [hv]
  simp [hcell]) k
/-- the address of a field: a closed fact of the type says where it lies -/
theorem aO {s i : Nat} {x : Operand} {b o off : Nat} (hx : ev l x = some (.pointer (some ⟨b, o, none⟩)))
 (hf : ∀ (b o : Nat) (w : World), (Instr.fieldAt s (.pointer (some ⟨b, o, none⟩)) i).run X.P w = .ok (.pointer (some ⟨b, o + off, none⟩)) w) (hd : Nat.blt d X.n = true)
 (k : WR X m ops rest ks ds ((d, .pointer (some ⟨b, o + off, none⟩)) :: l) w) : WR X m ops (⟨some d, .fieldAddr s x i, ty, pos, aft, none⟩ :: rest) ks ds l w :=
 cY hd (by cases m <;> rfl) (fun a ha => by simp only [execOp, ha.ev hx, Sem.run_bind, hf, Result.andThen_ok, Sem.run_pure]) k
end
end Go.Proofs.YtccicbpeajdjgaaGreatDoor.Vm
