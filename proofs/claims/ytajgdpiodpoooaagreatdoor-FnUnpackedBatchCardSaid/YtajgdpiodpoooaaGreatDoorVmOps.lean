/- One lemma an operation, over the layer Vm. -/
import Derived.Test.YtajgdpiodpoooaaGreatDoorVm
import Derived.WalkSpells
import Derived.WalkLawsBesides
namespace Go.Proofs.YtajgdpiodpoooaaGreatDoor.Vm
open Go Mix

theorem kint {l : Kn} {t : Nat} {k : IntKind} {a b : Int} (h : look l t = some (.int k a)) (e : a = b) : look l t = some (.int k b) := by rw [h, e]
def stillOK (m : Option (List Nat)) (op : Op) (ty : TypeId) : Bool := match m with | none => true | some qs => cls qs ⟨none, op, ty, "", #[], none⟩ != 2
def eventOK (m : Option (List Nat)) (op : Op) (ty : TypeId) : Bool := match m with | none => true | some qs => cls qs ⟨none, op, ty, "", #[], none⟩ == 2
abbrev bare (op : Op) (ty : TypeId) : Oper := ⟨none, op, ty, "", #[], none⟩

section
variable {X : Cx} {m : Option (List Nat)} {ops : Array Oper} {rest : List Oper} {ks : List KI} {ds : List Deferred} {l : Kn} {w w' : World} {d ty : Nat} {op : Op} {pos : String} {aft : Array Edge} {v : Value}

theorem WR.weak (l' : Kn) (hs : subK l l') (h : WR X m ops rest ks ds l' w) : WR X m ops rest ks ds l w := fun a ha => h a (ha.sub hs)

theorem WR.still (hd : Nat.blt d X.n = true) (hc : stillOK m op ty = true) (hrun : ∀ a, Fr a X.n ds l → (execOp a.eval (bare op ty)).run X.P w = .ok (.value v) w)
    (k : WR X m ops rest ks ds ((d, v) :: l) w) : WR X m ops (⟨some d, op, ty, pos, aft, none⟩ :: rest) ks ds l w := by
  intro a ha
  have hk := k _ (ha.put hd v)
  have hr := hrun a ha
  cases m with
  | none =>
    refine wpList_plain rfl fun K hK => ?_
    unfold Oper.wp
    rw [execOp_bare, hr]
    exact hK _ _ hk
  | some qs =>
    refine wpMix_s (by simpa [stillOK] using hc) fun K hK => ?_
    rw [hr]
    exact ⟨rfl, hK _ hk⟩
theorem WR.event (hd : Nat.blt d X.n = true) (hc : eventOK m op ty = true) (hrun : ∀ a, Fr a X.n ds l → (execOp a.eval (bare op ty)).run X.P w = .ok (.value v) w')
    (k : WR X m ops rest ks ds ((d, v) :: l) w') : WR X m ops (⟨some d, op, ty, pos, aft, none⟩ :: rest) ks ds l w := by
  intro a ha
  have hk := k _ (ha.put hd v)
  have hr := hrun a ha
  cases m with
  | none =>
    refine wpList_plain rfl fun K hK => ?_
    unfold Oper.wp
    rw [execOp_bare, hr]
    exact hK _ _ hk
  | some qs =>
    refine wpMix_e (by simpa [eventOK] using hc) fun K hK => ?_
    rw [hr]
    exact hK _ _ hk
theorem WR.eventN (hc : eventOK m op ty = true) (hrun : ∀ a, Fr a X.n ds l → (execOp a.eval (bare op ty)).run X.P w = .ok .skip w')
    (k : WR X m ops rest ks ds l w') : WR X m ops (⟨none, op, ty, pos, aft, none⟩ :: rest) ks ds l w := by
  intro a ha
  have hk := k _ ha
  have hr := hrun a ha
  cases m with
  | none =>
    refine wpList_plain rfl fun K hK => ?_
    unfold Oper.wp
    rw [execOp_bare, hr]
    exact hK _ _ hk
  | some qs =>
    refine wpMix_e (by simpa [eventOK] using hc) fun K hK => ?_
    rw [hr]
    exact hK _ _ hk
theorem WR.call {f : FuncId} {vs : Array Value} {R : Value → World → Prop} (hd : Nat.blt d X.n = true) (hc : eventOK m op ty = true) (hrun : ∀ a, Fr a X.n ds l → (execOp a.eval (bare op ty)).run X.P w = .ok (.enter f vs) w)
    (hcall : Ret X.P f vs w R) (k : ∀ v w', R v w' → WR X m ops rest ks ds ((d, v) :: l) w') : WR X m ops (⟨some d, op, ty, pos, aft, none⟩ :: rest) ks ds l w := by
  intro a ha
  have hr := hrun a ha
  cases m with
  | none =>
    refine wpList_plain rfl fun K hK => ?_
    unfold Oper.wp
    rw [execOp_bare, hr]
    refine Calls.mono hcall fun e w' ⟨v, he, hv⟩ => ?_
    subst he
    exact hK _ _ (k v w' hv _ (ha.put hd v))
  | some qs =>
    refine wpMix_e (by simpa [eventOK] using hc) fun K hK => ?_
    rw [hr]
    refine Calls.mono hcall fun e w' ⟨v, he, hv⟩ => ?_
    subst he
    exact hK _ _ (k v w' hv _ (ha.put hd v))
/-- a call that leaves the world alone -/
theorem WR.callS {f : FuncId} {vs : Array Value} (hd : Nat.blt d X.n = true) (hc : stillOK m op ty = true) (hrun : ∀ a, Fr a X.n ds l → (execOp a.eval (bare op ty)).run X.P w = .ok (.enter f vs) w)
    (hcall : Ret X.P f vs w fun u w' => u = v ∧ w' = w) (k : WR X m ops rest ks ds ((d, v) :: l) w) : WR X m ops (⟨some d, op, ty, pos, aft, none⟩ :: rest) ks ds l w := by
  intro a ha
  have hr := hrun a ha
  have hk := k _ (ha.put hd v)
  cases m with
  | none =>
    refine wpList_plain rfl fun K hK => ?_
    unfold Oper.wp
    rw [execOp_bare, hr]
    refine Calls.mono hcall fun e w' ⟨u, he, hv, hw⟩ => ?_
    subst he; subst hv; subst hw
    exact hK _ _ hk
  | some qs =>
    refine wpMix_s (by simpa [stillOK] using hc) fun K hK => ?_
    rw [hr]
    exact ⟨rfl, v, Calls.mono hcall fun e w' ⟨u, he, hv, hw⟩ => ⟨by rw [he, hv], hw⟩, hK _ hk⟩
/-- a guarded operation: taken -/
theorem WR.take {dst : Option Tmp} {j t : Nat} {b want : Bool} (hj : (ops[j]?).bind (·.dst) = some t) (hb : look l t = some (.bool b)) (he : b = want)
    (k : WR X m ops (⟨dst, op, ty, pos, aft, none⟩ :: rest) ks ds l w) : WR X m ops (⟨dst, op, ty, pos, aft, some (j, want)⟩ :: rest) ks ds l w := by
  subst he
  intro a ha
  have hk := k a ha
  have hwt : Region.wanted ⟨dst, op, ty, pos, aft, some (j, b)⟩ (yielded ops a.tmps) = true := by
    have hg := ha.get t _ hb
    rw [Array.getD_eq_getD_getElem?] at hg
    unfold Region.wanted yielded
    simp only [hj]
    cases hq : a.tmps[t]? with
    | none => rw [hq] at hg; cases hg
    | some u => rw [hq] at hg; simp only [Option.getD_some] at hg; subst hg; simp [hq]
  cases m with
  | none =>
    show wpList _ _ _ _ _ _
    have hk' : wpList X.P ops (post X.P X.B ks) (⟨dst, op, ty, pos, aft, none⟩ :: rest) a w := hk
    unfold wpList at hk' ⊢
    rw [if_pos hwt]
    simp only [Region.wanted, if_true] at hk'
    refine hk'.imp (fun h => ?_) (fun h => ?_)
    · unfold Oper.wp at h ⊢
      rw [execOp_bare] at h ⊢
      revert h
      generalize (execOp a.eval ⟨none, op, ty, "", #[], none⟩).run X.P w = r
      cases r with
      | ok n w' => cases n <;> exact fun h => h
      | halt x w' => cases x <;> exact fun h => h
    · unfold Oper.asks at h ⊢
      rw [execOp_bare] at h ⊢
      exact h
  | some qs =>
    show wpMix _ _ _ _ _ _ _
    have hk' : wpMix qs X.P ops (calm (post X.P X.B ks)) (⟨dst, op, ty, pos, aft, none⟩ :: rest) a w := hk
    unfold wpMix at hk' ⊢
    have hcl : cls qs ⟨dst, op, ty, pos, aft, some (j, b)⟩ = cls qs ⟨dst, op, ty, pos, aft, none⟩ := rfl
    rw [hcl]
    by_cases hc : cls qs ⟨dst, op, ty, pos, aft, none⟩ = 2
    · rw [if_pos hc] at hk' ⊢
      rw [if_pos hwt]
      simp only [Region.wanted, if_true] at hk'
      unfold Oper.wp at hk' ⊢
      rw [execOp_bare] at hk' ⊢
      revert hk'
      generalize (execOp a.eval ⟨none, op, ty, "", #[], none⟩).run X.P w = r
      cases r with
      | ok n w' => cases n <;> exact fun h => h
      | halt x w' => cases x <;> exact fun h => h
    · rw [if_neg hc] at hk' ⊢
      rw [if_pos hwt]
      simp only [Region.wanted, if_true] at hk'
      unfold Oper.still at hk' ⊢
      rw [execOp_bare] at hk' ⊢
      revert hk'
      generalize (execOp a.eval ⟨none, op, ty, "", #[], none⟩).run X.P w = r
      cases r with
      | ok n w' => cases n <;> exact fun h => h
      | halt x w' => cases x <;> exact fun h => h
/-- a guarded operation: passed over -/
theorem WR.pass {j t : Nat} {b want : Bool} (hd : Nat.blt d X.n = true) (hj : (ops[j]?).bind (·.dst) = some t) (hb : look l t = some (.bool b)) (he : b = !want)
    (k : WR X m ops rest ks ds ((d, undef) :: l) w) : WR X m ops (⟨some d, op, ty, pos, aft, some (j, want)⟩ :: rest) ks ds l w := by
  subst he
  intro a ha
  have hk := k _ (ha.put hd undef)
  have hwt : Region.wanted ⟨some d, op, ty, pos, aft, some (j, want)⟩ (yielded ops a.tmps) = false := by
    have hg := ha.get t _ hb
    rw [Array.getD_eq_getD_getElem?] at hg
    unfold Region.wanted yielded
    simp only [hj]
    cases hq : a.tmps[t]? with
    | none => rw [hq] at hg; cases hg
    | some u => rw [hq] at hg; simp only [Option.getD_some] at hg; subst hg; simp [hq]
  cases m with
  | none =>
    show wpList _ _ _ _ _ _
    unfold wpList
    rw [hwt, if_neg (by simp)]
    exact hk
  | some qs =>
    show wpMix _ _ _ _ _ _ _
    unfold wpMix
    rw [hwt]
    split
    · rw [if_neg (by simp)]; exact hk
    · rw [if_neg (by simp)]; exact hk
theorem WR.passN {j t : Nat} {b want : Bool} (hj : (ops[j]?).bind (·.dst) = some t) (hb : look l t = some (.bool b)) (he : b = !want)
    (k : WR X m ops rest ks ds l w) : WR X m ops (⟨none, op, ty, pos, aft, some (j, want)⟩ :: rest) ks ds l w := by
  subst he
  intro a ha
  have hk := k _ ha
  have hwt : Region.wanted ⟨none, op, ty, pos, aft, some (j, want)⟩ (yielded ops a.tmps) = false := by
    have hg := ha.get t _ hb
    rw [Array.getD_eq_getD_getElem?] at hg
    unfold Region.wanted yielded
    simp only [hj]
    cases hq : a.tmps[t]? with
    | none => rw [hq] at hg; cases hg
    | some u => rw [hq] at hg; simp only [Option.getD_some] at hg; subst hg; simp [hq]
  cases m with
  | none =>
    show wpList _ _ _ _ _ _
    unfold wpList
    rw [hwt, if_neg (by simp)]
    exact hk
  | some qs =>
    show wpMix _ _ _ _ _ _ _
    unfold wpMix
    rw [hwt]
    split
    · rw [if_neg (by simp)]; exact hk
    · rw [if_neg (by simp)]; exact hk

/- the single operations -/
theorem WR.move {x : Operand} (hx : ev l x = some v) (hd : Nat.blt d X.n = true) (k : WR X m ops rest ks ds ((d, v) :: l) w) : WR X m ops (⟨some d, .move x, ty, pos, aft, none⟩ :: rest) ks ds l w :=
  WR.still hd (by cases m <;> rfl) (fun a ha => by simp only [execOp, Sem.run_pure, ha.ev hx]) k
theorem WR.assign {x : Operand} (hx : ev l x = some v) (hd : Nat.blt d X.n = true) (k : WR X m ops rest ks ds ((d, v) :: l) w) : WR X m ops (⟨some d, .assign x, ty, pos, aft, none⟩ :: rest) ks ds l w :=
  WR.still hd (by cases m <;> rfl) (fun a ha => by simp only [execOp, Sem.run_pure, ha.ev hx]) k
theorem WR.pick {c x y : Operand} {b : Bool} {u : Value} (hc : ev l c = some (.bool b)) (hu : ev l (bif b then x else y) = some u) (hd : Nat.blt d X.n = true) (k : WR X m ops rest ks ds ((d, u) :: l) w) :
    WR X m ops (⟨some d, .pick c x y, ty, pos, aft, none⟩ :: rest) ks ds l w :=
  WR.still hd (by cases m <;> rfl) (fun a ha => by
    have h1 := ha.ev hu
    simp only [execOp, ha.ev hc, asBool, Sem.run_bind, Sem.run_pure, Result.andThen_ok]
    cases b <;> simp_all) k
theorem WR.pickT {c x y : Operand} {b : Bool} {u : Value} (hc : ev l c = some (.bool b)) (he : b = true) (hu : ev l x = some u) (hd : Nat.blt d X.n = true) (k : WR X m ops rest ks ds ((d, u) :: l) w) :
    WR X m ops (⟨some d, .pick c x y, ty, pos, aft, none⟩ :: rest) ks ds l w := by subst he; exact WR.pick hc hu hd k
theorem WR.pickF {c x y : Operand} {b : Bool} {u : Value} (hc : ev l c = some (.bool b)) (he : b = false) (hu : ev l y = some u) (hd : Nat.blt d X.n = true) (k : WR X m ops rest ks ds ((d, u) :: l) w) :
    WR X m ops (⟨some d, .pick c x y, ty, pos, aft, none⟩ :: rest) ks ds l w := by subst he; exact WR.pick hc hu hd k
theorem WR.nilCheckP {x : Operand} {p : Addr} (hx : ev l x = some (.pointer (some p))) (hd : Nat.blt d X.n = true) (k : WR X m ops rest ks ds ((d, .pointer (some p)) :: l) w) : WR X m ops (⟨some d, .nilCheck x, ty, pos, aft, none⟩ :: rest) ks ds l w :=
  WR.still hd (by cases m <;> rfl) (fun a ha => by simp only [execOp, ha.ev hx, Sem.run_pure]) k
theorem WR.nilCheckI {x : Operand} {t : TypeId} {u : Value} (hx : ev l x = some (.iface t u)) (hd : Nat.blt d X.n = true) (k : WR X m ops rest ks ds ((d, .iface t u) :: l) w) : WR X m ops (⟨some d, .nilCheck x, ty, pos, aft, none⟩ :: rest) ks ds l w :=
  WR.still hd (by cases m <;> rfl) (fun a ha => by simp only [execOp, ha.ev hx, Sem.run_pure]) k

/-- what a binary operation on two integers gives -/
def arith (op : BinOp) (k : IntKind) (a b : Int) : Option Value :=
  match op with
  | .add => some (.int k (k.wrap (a + b)))
  | .sub => some (.int k (k.wrap (a - b)))
  | .mul => some (.int k (k.wrap (a * b)))
  | .quo => if b = 0 then none else some (.int k (k.wrap (a.tdiv b)))
  | .rem => if b = 0 then none else some (.int k (a.tmod b))
  | .and => some (.int k (k.wrap (BitVec.ofInt k.bits a &&& BitVec.ofInt k.bits b).toNat))
  | .or => some (.int k (k.wrap (BitVec.ofInt k.bits a ||| BitVec.ofInt k.bits b).toNat))
  | .xor => some (.int k (k.wrap (BitVec.ofInt k.bits a ^^^ BitVec.ofInt k.bits b).toNat))
  | .andNot => some (.int k (k.wrap (BitVec.ofInt k.bits a &&& ~~~BitVec.ofInt k.bits b).toNat))
  | .eql => some (.bool (a == b))
  | .neq => some (.bool (a != b))
  | .lss => some (.bool (decide (a < b)))
  | .leq => some (.bool (decide (a ≤ b)))
  | .gtr => some (.bool (decide (a > b)))
  | .geq => some (.bool (decide (a ≥ b)))
  | _ => none
theorem wrap_i64 {n : Int} (h0 : -9223372036854775808 ≤ n) (h1 : n ≤ 9223372036854775807) : IntKind.i64.wrap n = n := by simp [IntKind.wrap, IntKind.bits, IntKind.signed]; omega
theorem wrap_i32 {n : Int} (h0 : -2147483648 ≤ n) (h1 : n ≤ 2147483647) : IntKind.i32.wrap n = n := by simp [IntKind.wrap, IntKind.bits, IntKind.signed]; omega
theorem wrap_i16 {n : Int} (h0 : -32768 ≤ n) (h1 : n ≤ 32767) : IntKind.i16.wrap n = n := by simp [IntKind.wrap, IntKind.bits, IntKind.signed]; omega
theorem wrap_i8 {n : Int} (h0 : -128 ≤ n) (h1 : n ≤ 127) : IntKind.i8.wrap n = n := by simp [IntKind.wrap, IntKind.bits, IntKind.signed]; omega
theorem wrap_u64 {n : Int} (h0 : 0 ≤ n) (h1 : n ≤ 18446744073709551615) : IntKind.u64.wrap n = n := by simp [IntKind.wrap, IntKind.bits, IntKind.signed]; omega
theorem wrap_u32 {n : Int} (h0 : 0 ≤ n) (h1 : n ≤ 4294967295) : IntKind.u32.wrap n = n := by simp [IntKind.wrap, IntKind.bits, IntKind.signed]; omega
theorem wrap_u16 {n : Int} (h0 : 0 ≤ n) (h1 : n ≤ 65535) : IntKind.u16.wrap n = n := by simp [IntKind.wrap, IntKind.bits, IntKind.signed]; omega
theorem wrap_u8 {n : Int} (h0 : 0 ≤ n) (h1 : n ≤ 255) : IntKind.u8.wrap n = n := by simp [IntKind.wrap, IntKind.bits, IntKind.signed]; omega
theorem ar_add {k : IntKind} {a b z : Int} (h : k.wrap (a + b) = z) : arith .add k a b = some (.int k z) := by rw [← h]; rfl
theorem ar_sub {k : IntKind} {a b z : Int} (h : k.wrap (a - b) = z) : arith .sub k a b = some (.int k z) := by rw [← h]; rfl
theorem ar_mul {k : IntKind} {a b z : Int} (h : k.wrap (a * b) = z) : arith .mul k a b = some (.int k z) := by rw [← h]; rfl
theorem ar_quo {k : IntKind} {a b z : Int} (hb : b ≠ 0) (h : k.wrap (a.tdiv b) = z) : arith .quo k a b = some (.int k z) := by rw [← h]; simp [arith, hb]
theorem ar_rem {k : IntKind} {a b z : Int} (hb : b ≠ 0) (h : a.tmod b = z) : arith .rem k a b = some (.int k z) := by rw [← h]; simp [arith, hb]
theorem tdiv_pos {a b : Int} (h : 0 ≤ a) : a.tdiv b = a / b := Int.tdiv_eq_ediv_of_nonneg h
theorem tmod_pos {a b : Int} (h : 0 ≤ a) : a.tmod b = a % b := Int.tmod_eq_emod_of_nonneg h
theorem ofInt_toNat {n : Nat} {a : Int} (h0 : 0 ≤ a) (h1 : a < 2 ^ n) : (BitVec.ofInt n a).toNat = a.toNat := by
  rw [BitVec.toNat_ofInt]
  congr 1
  exact Int.emod_eq_of_lt h0 (by exact_mod_cast h1)
/-- 'or' of two numbers whose bits lie apart is their sum -/
theorem ar_or {a c D : Int} (k : Nat) (hD : D = ((2 ^ k : Nat) : Int)) (h0 : 0 ≤ a) (h1 : a < D) (hc : 0 ≤ c) (h2 : a + c * D < 18446744073709551616) : arith .or .u64 a (c * D) = some (.int .u64 (a + c * D)) := by
  have hcD : 0 ≤ c * D := Int.mul_nonneg hc (by rw [hD]; exact Int.natCast_nonneg _)
  obtain ⟨a', rfl⟩ := Int.eq_ofNat_of_zero_le h0
  obtain ⟨c', rfl⟩ := Int.eq_ofNat_of_zero_le hc
  have hlt : a' < 2 ^ k := by rw [hD] at h1; exact_mod_cast h1
  have e : (BitVec.ofInt IntKind.u64.bits (a' : Int) ||| BitVec.ofInt IntKind.u64.bits ((c' : Int) * D)).toNat = a' + c' * 2 ^ k := by
    have hmul : ((c' : Int) * D).toNat = c' * 2 ^ k := by rw [hD]; exact_mod_cast Int.toNat_natCast (c' * 2 ^ k)
    rw [BitVec.toNat_or, ofInt_toNat (by omega) (by show _ < (2 : Int) ^ 64; omega), ofInt_toNat hcD (by show _ < (2 : Int) ^ 64; omega), hmul, Int.toNat_natCast]
    have := Nat.two_pow_add_eq_or_of_lt hlt c'
    rw [Nat.or_comm, Nat.mul_comm c', ← this, Nat.add_comm]
  unfold arith
  simp only [e]
  congr 2
  rw [hD]
  have : ((a' + c' * 2 ^ k : Nat) : Int) = (a' : Int) + (c' : Int) * ((2 ^ k : Nat) : Int) := by push_cast; rfl
  rw [this, ← hD]
  exact wrap_u64 (by omega) (by omega)
theorem ar_or32 {a c D : Int} (k : Nat) (hD : D = ((2 ^ k : Nat) : Int)) (h0 : 0 ≤ a) (h1 : a < D) (hc : 0 ≤ c) (h2 : a + c * D < 4294967296) : arith .or .u32 a (c * D) = some (.int .u32 (a + c * D)) := by
  have hcD : 0 ≤ c * D := Int.mul_nonneg hc (by rw [hD]; exact Int.natCast_nonneg _)
  obtain ⟨a', rfl⟩ := Int.eq_ofNat_of_zero_le h0
  obtain ⟨c', rfl⟩ := Int.eq_ofNat_of_zero_le hc
  have hlt : a' < 2 ^ k := by rw [hD] at h1; exact_mod_cast h1
  have e : (BitVec.ofInt IntKind.u32.bits (a' : Int) ||| BitVec.ofInt IntKind.u32.bits ((c' : Int) * D)).toNat = a' + c' * 2 ^ k := by
    have hmul : ((c' : Int) * D).toNat = c' * 2 ^ k := by rw [hD]; exact_mod_cast Int.toNat_natCast (c' * 2 ^ k)
    rw [BitVec.toNat_or, ofInt_toNat (by omega) (by show _ < (2 : Int) ^ 32; omega), ofInt_toNat hcD (by show _ < (2 : Int) ^ 32; omega), hmul, Int.toNat_natCast]
    have := Nat.two_pow_add_eq_or_of_lt hlt c'
    rw [Nat.or_comm, Nat.mul_comm c', ← this, Nat.add_comm]
  unfold arith
  simp only [e]
  congr 2
  rw [hD]
  have : ((a' + c' * 2 ^ k : Nat) : Int) = (a' : Int) + (c' : Int) * ((2 ^ k : Nat) : Int) := by push_cast; rfl
  rw [this, ← hD]
  exact wrap_u32 (by omega) (by omega)
theorem cast_am (a b D : Nat) : ((a + b * D : Nat) : Int) = (a : Int) + (b : Int) * (D : Int) := by rw [Int.natCast_add, Int.natCast_mul]
theorem cast_am_lt {a b D : Nat} (h : a + b * D < 18446744073709551616) : (a : Int) + (b : Int) * (D : Int) < 18446744073709551616 := by rw [← cast_am]; omega
theorem fdiv_c {a p D : Int} (h : p = D) (hD : 0 ≤ D) : a.fdiv p = a / D := by subst h; exact Int.fdiv_eq_ediv_of_nonneg _ hD
theorem shl_c {k : IntKind} {a p D z : Int} (h : p = D) (hw : k.wrap (a * D) = z) : k.wrap (a * p) = z := by subst h; exact hw
theorem WR.bin {o : BinOp} {t t' : TypeId} {x y : Operand} {k : IntKind} {a b : Int} (hx : ev l x = some (.int k a)) (hy : ev l y = some (.int k b)) (hv : arith o k a b = some v) (hd : Nat.blt d X.n = true)
    (kk : WR X m ops rest ks ds ((d, v) :: l) w) : WR X m ops (⟨some d, .binOp o t x y t', ty, pos, aft, none⟩ :: rest) ks ds l w :=
  WR.still hd (by cases m <;> rfl) (fun c hc => by
    simp only [execOp, hc.ev hx, hc.ev hy, Sem.run_bind]
    have hg : (eqGuard o t x y (.int k a) (.int k b)).run X.P w = .ok () w := by unfold eqGuard; cases o <;> rfl
    rw [hg]
    cases o <;> simp only [arith, Option.some.injEq, reduceCtorEq] at hv <;> first
      | (subst hv; simp [binOp, Op.intArith, Op.intBits, Op.intCmp]; done)
      | (split at hv
         · cases hv
         · rename_i hb
           simp only [Option.some.injEq] at hv
           subst hv
           simp [binOp, Op.intDiv, hb])) kk
theorem WR.shl {t t' : TypeId} {x y : Operand} {k k' : IntKind} {a b : Int} (hx : ev l x = some (.int k a)) (hy : ev l y = some (.int k' b)) (hb : 0 ≤ b) {z : Int} (hz : k.wrap (a * 2 ^ min b.toNat k.bits) = z) (hd : Nat.blt d X.n = true)
    (kk : WR X m ops rest ks ds ((d, .int k z) :: l) w) : WR X m ops (⟨some d, .binOp .shl t x y t', ty, pos, aft, none⟩ :: rest) ks ds l w :=
  WR.still hd (by cases m <;> rfl) (fun c hc => by
    simp only [execOp, hc.ev hx, hc.ev hy, Sem.run_bind]
    have hg : (eqGuard .shl t x y (.int k a) (.int k' b)).run X.P w = .ok () w := rfl
    rw [hg]
    simp [binOp, Op.shift, Int.not_lt.2 hb, hz]) kk
theorem WR.shr {t t' : TypeId} {x y : Operand} {k k' : IntKind} {a b : Int} (hx : ev l x = some (.int k a)) (hy : ev l y = some (.int k' b)) (hb : 0 ≤ b) {z : Int} (hz : a.fdiv (2 ^ min b.toNat k.bits) = z) (hd : Nat.blt d X.n = true)
    (kk : WR X m ops rest ks ds ((d, .int k z) :: l) w) : WR X m ops (⟨some d, .binOp .shr t x y t', ty, pos, aft, none⟩ :: rest) ks ds l w :=
  WR.still hd (by cases m <;> rfl) (fun c hc => by
    simp only [execOp, hc.ev hx, hc.ev hy, Sem.run_bind]
    have hg : (eqGuard .shr t x y (.int k a) (.int k' b)).run X.P w = .ok () w := rfl
    rw [hg]
    simp [binOp, Op.shift, Int.not_lt.2 hb, hz]) kk
theorem WR.conv {t t' : TypeId} {x : Operand} {k k' : IntKind} {a : Int} {u : TypeDesc} (hx : ev l x = some (.int k a)) (hu' : X.P.underlying t = some u) (hu : X.P.underlying t' = some (.int k')) {z : Int} (hz : k'.wrap a = z) (hd : Nat.blt d X.n = true)
    (kk : WR X m ops rest ks ds ((d, .int k' z) :: l) w) : WR X m ops (⟨some d, .convert t t' x, ty, pos, aft, none⟩ :: rest) ks ds l w :=
  WR.still hd (by cases m <;> rfl) (fun c hc => by
    simp only [execOp, hc.ev hx, Sem.run_bind]
    simp [convert, run_underlying hu, run_underlying hu', Conv.intToInt, hz]) kk
theorem WR.extract {x : Operand} {i : Nat} {vs : Array Value} {u : Value} (hx : ev l x = some (.tuple vs)) (hv : vs[i]? = some u) (hd : Nat.blt d X.n = true) (kk : WR X m ops rest ks ds ((d, u) :: l) w) :
    WR X m ops (⟨some d, .extract x i, ty, pos, aft, none⟩ :: rest) ks ds l w :=
  WR.still hd (by cases m <;> rfl) (fun c hc => by simp [execOp, hc.ev hx, Instr.extract, hv]) kk
theorem WR.notOp {t : TypeId} {x : Operand} {b : Bool} (hx : ev l x = some (.bool b)) (hd : Nat.blt d X.n = true) (kk : WR X m ops rest ks ds ((d, .bool (!b)) :: l) w) :
    WR X m ops (⟨some d, .unOp .not t x, ty, pos, aft, none⟩ :: rest) ks ds l w :=
  WR.still hd (by cases m <;> rfl) (fun c hc => by simp [execOp, hc.ev hx, Op.unary]) kk
end
end Go.Proofs.YtajgdpiodpoooaaGreatDoor.Vm
