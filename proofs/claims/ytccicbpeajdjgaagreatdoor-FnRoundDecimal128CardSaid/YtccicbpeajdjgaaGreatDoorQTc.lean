/- Numbers made, taken apart, compared. -/
import Derived.Test.YtccicbpeajdjgaaGreatDoorQVm
import Derived.Test.YtccicbpeajdjgaaGreatDoorQT0
set_option linter.unusedVariables false
set_option linter.unusedSimpArgs false
namespace Go.Proofs.YtccicbpeajdjgaaGreatDoor.Vm
open Go Mix Go.RowKit Wd
abbrev u44 := @Tryz.underlying44
set_option maxRecDepth 20000
theorem fL (b o : Nat) (w : World) : (Instr.fieldAt 44 (.pointer (some ⟨b, o, none⟩)) 0).run Tryz.prog w = .ok (.pointer (some ⟨b, o + 0, none⟩)) w := by kernel_rfl
theorem eB (b o : Nat) (w : World) : (Instr.fieldAt 44 (.pointer (some ⟨b, o, none⟩)) 1).run Tryz.prog w = .ok (.pointer (some ⟨b, o + 1, none⟩)) w := by kernel_rfl
theorem bC : (Tryz.prog.info? 44).map (·.size) = some 2 := by kernel_rfl
set_option maxHeartbeats 200000 in
theorem gY {w : World} (lo hi : Int) :
 Ret Tryz.prog 15 #[.int .i64 hi, .int .u64 lo] w fun v w' => v = .agg #[.int .u64 lo, .int .i64 hi] ∧ Same [] w w' := by
 have hS := Same.refl [] w;obtain ⟨H, hH⟩ : ∃ H, H = w.heap.size := ⟨_, rfl⟩;have hw0 := Nat.le_of_eq hH;refine aS Tryz.func15 Tryz.ntmps15 rfl rfl (aD (aB (bF dO rfl rfl ?_)));intro w1 hn hs;obtain ⟨bR, hbR⟩ : ∃ x, x = w.heap.size := ⟨_, rfl⟩
 have hR : NB w1 bR 0 0 := by rw [hn, hbR]; exact NB.box _ _ _
 rw [← hbR];have hbRH : H ≤ bR := by omega
 replace hw0 := hs.le hw0;replace hS := hS.trans hs;clear hn hs;refine aG (aE (aD (aB (aA rfl rfl (aA rfl rfl (eH rfl rfl (v := .agg #[.int .u64 lo, .int .i64 hi]) (fun w => by kernel_rfl) rfl rfl (aU (n := 2) rfl rfl bC rfl (bY _ _) hR zo ?_)))))));intro w2 hn9 hs;replace hR : NB w2 bR (lo) (hi) := hn9.congr fun i hi => aN (g := nF _ _) hi;replace hS := hS.trans hs;replace hw0 := hs.le hw0;clear hn9;exact aG (aE (cS rfl rfl u44 rfl bC hR.rd ⟨rfl, hS⟩))
set_option maxHeartbeats 200000 in
theorem sC {w : World} (x : Int) :
 Ret Tryz.prog 16 #[.agg #[.int .u64 (x % 18446744073709551616), .int .i64 (x / 18446744073709551616)]] w fun v w' => v = .int .u64 (x % 18446744073709551616) ∧ Same [] w w' := by
 have hS := Same.refl [] w;obtain ⟨H, hH⟩ : ∃ H, H = w.heap.size := ⟨_, rfl⟩;have hw0 := Nat.le_of_eq hH;refine aS Tryz.func16 Tryz.ntmps16 rfl rfl (aD (aB (cA rfl rfl rfl ?_)));intro w1 hn hs;replace hw0 := hs.le hw0;replace hS := hS.trans hs;obtain ⟨bL, hbL⟩ : ∃ x, x = w.heap.size := ⟨_, rfl⟩
 have hL : NB w1 bL (x % 18446744073709551616) (x / 18446744073709551616) := by rw [hn, hbL]; exact NB.box _ _ _
 rw [← hbL];have hbLH : H ≤ bL := by omega
 have hw0bL := hw0;have hbLl := hL.lt;clear hn hs;exact aF rfl rfl (aG (aE (aD (aB (aO rfl fL rfl (aL rfl u25 rfl hL.c0 rfl (aF rfl rfl (aG (aE (aZ rfl rfl ⟨rfl, hS⟩))))))))))
set_option maxHeartbeats 200000 in
theorem vK {w : World} (x : Int) :
 Ret Tryz.prog 17 #[.agg #[.int .u64 (x % 18446744073709551616), .int .i64 (x / 18446744073709551616)]] w fun v w' => v = .int .i64 (x / 18446744073709551616) ∧ Same [] w w' := by
 have hS := Same.refl [] w;obtain ⟨H, hH⟩ : ∃ H, H = w.heap.size := ⟨_, rfl⟩;have hw0 := Nat.le_of_eq hH;refine aS Tryz.func17 Tryz.ntmps17 rfl rfl (aD (aB (cA rfl rfl rfl ?_)));intro w1 hn hs;replace hw0 := hs.le hw0;replace hS := hS.trans hs;obtain ⟨bL, hbL⟩ : ∃ x, x = w.heap.size := ⟨_, rfl⟩
 have hL : NB w1 bL (x % 18446744073709551616) (x / 18446744073709551616) := by rw [hn, hbL]; exact NB.box _ _ _
 rw [← hbL];have hbLH : H ≤ bL := by omega
 have hw0bL := hw0;have hbLl := hL.lt;clear hn hs;exact aF rfl rfl (aG (aE (aD (aB (aO rfl eB rfl (aL rfl Tryz.underlying2 rfl hL.c1 rfl (aF rfl rfl (aG (aE (aZ rfl rfl ⟨rfl, hS⟩))))))))))
set_option maxHeartbeats 400000 in
theorem less1 {w : World} (x y : Int) (hc : x / 18446744073709551616 < y / 18446744073709551616) :
 Ret Tryz.prog 51 #[.agg #[.int .u64 (x % 18446744073709551616), .int .i64 (x / 18446744073709551616)], .agg #[.int .u64 (y % 18446744073709551616), .int .i64 (y / 18446744073709551616)]] w fun v w' => v = .bool (decide (x < y)) ∧ Same [] w w' := by
 have hS := Same.refl [] w;obtain ⟨H, hH⟩ : ∃ H, H = w.heap.size := ⟨_, rfl⟩;have hw0 := Nat.le_of_eq hH;refine aS Tryz.func51 Tryz.ntmps51 rfl rfl (aD (aB (cA rfl rfl rfl ?_)));intro w1 hn hs;replace hw0 := hs.le hw0;replace hS := hS.trans hs;obtain ⟨bL, hbL⟩ : ∃ x, x = w.heap.size := ⟨_, rfl⟩
 have hL : NB w1 bL (x % 18446744073709551616) (x / 18446744073709551616) := by rw [hn, hbL]; exact NB.box _ _ _
 rw [← hbL];have hbLH : H ≤ bL := by omega
 have hw0bL := hw0;have hbLl := hL.lt;clear hn hs;refine cA rfl rfl rfl ?_;intro w2 hn hs;replace hw0 := hs.le hw0;replace hS := hS.trans hs;replace hL := hL.same hs;obtain ⟨bQ, hbQ⟩ : ∃ x, x = w1.heap.size := ⟨_, rfl⟩
 have hQ : NB w2 bQ (y % 18446744073709551616) (y / 18446744073709551616) := by rw [hn, hbQ]; exact NB.box _ _ _
 rw [← hbQ];have hbQH : H ≤ bQ := by omega
 have hw0bQ := hw0;have hbQl := hQ.lt;have hbLQ : bL < bQ := by omega
 clear hn hs;refine aF rfl rfl (aG (aE (aD (aB (aO rfl eB rfl (aL rfl Tryz.underlying2 rfl hL.c1 rfl (aO rfl eB rfl (aL rfl Tryz.underlying2 rfl hQ.c1 rfl (aI rfl rfl rfl rfl (aA rfl rfl (aW rfl rfl rfl zz (aW rfl rfl rfl zz (aW rfl rfl rfl zz (aW rfl rfl rfl zz (aW rfl rfl rfl zz (aW rfl rfl rfl zz (dU rfl rfl rfl (dU rfl rfl rfl (dU rfl rfl rfl (dU rfl rfl rfl (dU rfl rfl rfl (aW rfl rfl rfl zz (cH rfl zz rfl rfl (aF rfl rfl (aG (aE (aZ rfl rfl ?_)))))))))))))))))))))))))));refine ⟨?_, hS⟩
 have e9 : ∀ a b : Bool, a = b → tupV [Value.bool a] = .bool b := fun a b h => by rw [h]; rfl
 refine e9 _ _ ?_
 first | (rw [decide_eq_decide]; omega) | (symm; rw [decide_eq_true_eq]; omega) | (symm; rw [decide_eq_false_iff_not]; omega)
set_option maxHeartbeats 400000 in
theorem less2 {w : World} (x y : Int) (hc : ¬ x / 18446744073709551616 < y / 18446744073709551616 ∧ x / 18446744073709551616 ≠ y / 18446744073709551616) :
 Ret Tryz.prog 51 #[.agg #[.int .u64 (x % 18446744073709551616), .int .i64 (x / 18446744073709551616)], .agg #[.int .u64 (y % 18446744073709551616), .int .i64 (y / 18446744073709551616)]] w fun v w' => v = .bool (decide (x < y)) ∧ Same [] w w' := by
 have hS := Same.refl [] w;obtain ⟨H, hH⟩ : ∃ H, H = w.heap.size := ⟨_, rfl⟩;have hw0 := Nat.le_of_eq hH;refine aS Tryz.func51 Tryz.ntmps51 rfl rfl (aD (aB (cA rfl rfl rfl ?_)));intro w1 hn hs;replace hw0 := hs.le hw0;replace hS := hS.trans hs;obtain ⟨bL, hbL⟩ : ∃ x, x = w.heap.size := ⟨_, rfl⟩
 have hL : NB w1 bL (x % 18446744073709551616) (x / 18446744073709551616) := by rw [hn, hbL]; exact NB.box _ _ _
 rw [← hbL];have hbLH : H ≤ bL := by omega
 have hw0bL := hw0;have hbLl := hL.lt;clear hn hs;refine cA rfl rfl rfl ?_;intro w2 hn hs;replace hw0 := hs.le hw0;replace hS := hS.trans hs;replace hL := hL.same hs;obtain ⟨bQ, hbQ⟩ : ∃ x, x = w1.heap.size := ⟨_, rfl⟩
 have hQ : NB w2 bQ (y % 18446744073709551616) (y / 18446744073709551616) := by rw [hn, hbQ]; exact NB.box _ _ _
 rw [← hbQ];have hbQH : H ≤ bQ := by omega
 have hw0bQ := hw0;have hbQl := hQ.lt;have hbLQ : bL < bQ := by omega
 clear hn hs;refine aF rfl rfl (aG (aE (aD (aB (aO rfl eB rfl (aL rfl Tryz.underlying2 rfl hL.c1 rfl (aO rfl eB rfl (aL rfl Tryz.underlying2 rfl hQ.c1 rfl (aI rfl rfl rfl rfl (aA rfl rfl (aJ rfl rfl zz (aO rfl eB rfl (aJ rfl rfl zz (aL rfl Tryz.underlying2 rfl hL.c1 rfl (aJ rfl rfl zz (aO rfl eB rfl (aJ rfl rfl zz (aL rfl Tryz.underlying2 rfl hQ.c1 rfl (aJ rfl rfl zz (aI rfl rfl rfl rfl (aJ rfl rfl zz (aA rfl rfl (aW rfl rfl rfl zz (aW rfl rfl rfl zz (aW rfl rfl rfl zz (aW rfl rfl rfl zz (aW rfl rfl rfl zz (aJ rfl rfl zz (cE rfl zz rfl rfl (cE rfl zz rfl rfl (aF rfl rfl (aG (aE (aZ rfl rfl ?_))))))))))))))))))))))))))))))))));refine ⟨?_, hS⟩
 have e9 : ∀ a b : Bool, a = b → tupV [Value.bool a] = .bool b := fun a b h => by rw [h]; rfl
 refine e9 _ _ ?_
 first | (rw [decide_eq_decide]; omega) | (symm; rw [decide_eq_true_eq]; omega) | (symm; rw [decide_eq_false_iff_not]; omega)
set_option maxHeartbeats 400000 in
theorem less3 {w : World} (x y : Int) (hc : x / 18446744073709551616 = y / 18446744073709551616) :
 Ret Tryz.prog 51 #[.agg #[.int .u64 (x % 18446744073709551616), .int .i64 (x / 18446744073709551616)], .agg #[.int .u64 (y % 18446744073709551616), .int .i64 (y / 18446744073709551616)]] w fun v w' => v = .bool (decide (x < y)) ∧ Same [] w w' := by
 have hS := Same.refl [] w;obtain ⟨H, hH⟩ : ∃ H, H = w.heap.size := ⟨_, rfl⟩;have hw0 := Nat.le_of_eq hH;refine aS Tryz.func51 Tryz.ntmps51 rfl rfl (aD (aB (cA rfl rfl rfl ?_)));intro w1 hn hs;replace hw0 := hs.le hw0;replace hS := hS.trans hs;obtain ⟨bL, hbL⟩ : ∃ x, x = w.heap.size := ⟨_, rfl⟩
 have hL : NB w1 bL (x % 18446744073709551616) (x / 18446744073709551616) := by rw [hn, hbL]; exact NB.box _ _ _
 rw [← hbL];have hbLH : H ≤ bL := by omega
 have hw0bL := hw0;have hbLl := hL.lt;clear hn hs;refine cA rfl rfl rfl ?_;intro w2 hn hs;replace hw0 := hs.le hw0;replace hS := hS.trans hs;replace hL := hL.same hs;obtain ⟨bQ, hbQ⟩ : ∃ x, x = w1.heap.size := ⟨_, rfl⟩
 have hQ : NB w2 bQ (y % 18446744073709551616) (y / 18446744073709551616) := by rw [hn, hbQ]; exact NB.box _ _ _
 rw [← hbQ];have hbQH : H ≤ bQ := by omega
 have hw0bQ := hw0;have hbQl := hQ.lt;have hbLQ : bL < bQ := by omega
 clear hn hs;refine aF rfl rfl (aG (aE (aD (aB (aO rfl eB rfl (aL rfl Tryz.underlying2 rfl hL.c1 rfl (aO rfl eB rfl (aL rfl Tryz.underlying2 rfl hQ.c1 rfl (aI rfl rfl rfl rfl (aA rfl rfl (aJ rfl rfl zz (aO rfl eB rfl (aJ rfl rfl zz (aL rfl Tryz.underlying2 rfl hL.c1 rfl (aJ rfl rfl zz (aO rfl eB rfl (aJ rfl rfl zz (aL rfl Tryz.underlying2 rfl hQ.c1 rfl (aJ rfl rfl zz (aI rfl rfl rfl rfl (aJ rfl rfl zz (aA rfl rfl (aJ rfl rfl zz (aO rfl fL rfl (aJ rfl rfl zz (aL rfl u25 rfl hL.c0 rfl (aJ rfl rfl zz (aO rfl fL rfl (aJ rfl rfl zz (aL rfl u25 rfl hQ.c0 rfl (aJ rfl rfl zz (aI rfl rfl rfl rfl (aJ rfl rfl zz (cH rfl zz rfl rfl (cE rfl zz rfl rfl (aF rfl rfl (aG (aE (aZ rfl rfl ?_)))))))))))))))))))))))))))))))))))))));refine ⟨?_, hS⟩
 have e9 : ∀ a b : Bool, a = b → tupV [Value.bool a] = .bool b := fun a b h => by rw [h]; rfl
 refine e9 _ _ ?_
 first | (rw [decide_eq_decide]; omega) | (symm; rw [decide_eq_true_eq]; omega) | (symm; rw [decide_eq_false_iff_not]; omega)
theorem less {w : World} (x y : Int) : Ret Tryz.prog 51 #[.agg #[.int .u64 (x % 18446744073709551616), .int .i64 (x / 18446744073709551616)], .agg #[.int .u64 (y % 18446744073709551616), .int .i64 (y / 18446744073709551616)]] w (fun v w' => v = .bool (decide (x < y)) ∧ Same [] w w') := by
 by_cases h : x / 18446744073709551616 < y / 18446744073709551616
 ·exact less1 x y h
 ·by_cases h2 : x / 18446744073709551616 = y / 18446744073709551616
  ·exact less3 x y h2
  ·exact less2 x y ⟨h, h2⟩
end Go.Proofs.YtccicbpeajdjgaaGreatDoor.Vm
namespace Go.Proofs.YtccicbpeajdjgaaGreatDoor.Vm
open Go Mix
section
variable {X : Cx} {m : Option (List Nat)} {ops : Array Oper} {rest : List Oper} {ks : List KI} {ds : List Deferred} {l : Kn} {w : World} {d ty : Nat} {pos : String} {aft : Array Edge} {v : Value}
theorem uS {P : Program} {a : Int} (h0 : 0 ≤ a) (h1 : a < 18446744073709551616) (w : World) : (Op.unary .xor (.int .u64 a)).run P w = .ok (.int .u64 (18446744073709551615 - a)) w := by
 obtain ⟨n, rfl⟩ := Int.eq_ofNat_of_zero_le h0
 have e2 : (BitVec.ofInt 64 (n : Int)).toNat = n := by
  rw [BitVec.toNat_ofInt];omega
 have e3 : (BitVec.ofInt 64 18446744073709551615 ^^^ BitVec.ofInt 64 (n : Int)).toNat = 18446744073709551615 - n := by
  rw [show BitVec.ofInt 64 18446744073709551615 = BitVec.allOnes 64 from rfl, BitVec.allOnes_xor, BitVec.toNat_not, e2]
 show Result.ok (Value.int .u64 (IntKind.u64.wrap (((BitVec.ofInt 64 18446744073709551615 ^^^ BitVec.ofInt 64 (n : Int)).toNat : Nat) : Int))) w = _
 rw [e3, dD zw zw]
 congr 2
 omega
theorem uT {P : Program} {a : Int} (h0 : -9223372036854775808 ≤ a) (h1 : a < 9223372036854775808) (w : World) : (Op.unary .xor (.int .i64 a)).run P w = .ok (.int .i64 (-1 - a)) w := by
 have e2 : (BitVec.ofInt 64 a).toNat = (a % 18446744073709551616).toNat := by
  rw [BitVec.toNat_ofInt];rfl
 have e3 : (BitVec.ofInt 64 (-1) ^^^ BitVec.ofInt 64 a).toNat = 18446744073709551615 - (a % 18446744073709551616).toNat := by
  rw [show BitVec.ofInt 64 (-1) = BitVec.allOnes 64 from rfl, BitVec.allOnes_xor, BitVec.toNat_not, e2]
 show Result.ok (Value.int .i64 (IntKind.i64.wrap (((BitVec.ofInt 64 (-1) ^^^ BitVec.ofInt 64 a).toNat : Nat) : Int))) w = _
 rw [e3]
 congr 2
 simp only [IntKind.wrap, IntKind.bits, IntKind.signed]
 simp
 omega
theorem sS {t : TypeId} {x : Operand} {a : Int} (hx : ev l x = some (.int .u64 a)) (h0 : 0 ≤ a) (h1 : a < 18446744073709551616) (hd : Nat.blt d X.n = true) (kk : WR X m ops rest ks ds ((d, .int .u64 (18446744073709551615 - a)) :: l) w) :
 WR X m ops (⟨some d, .unOp .xor t x, ty, pos, aft, none⟩ :: rest) ks ds l w :=
 cY hd (by cases m <;> rfl) (fun c hc => by simp only [execOp, hc.ev hx, Sem.run_bind, uS h0 h1, Result.andThen_ok, Sem.run_pure]) kk
theorem WR.notI {t : TypeId} {x : Operand} {a : Int} (hx : ev l x = some (.int .i64 a)) (h0 : -9223372036854775808 ≤ a) (h1 : a < 9223372036854775808) (hd : Nat.blt d X.n = true) (kk : WR X m ops rest ks ds ((d, .int .i64 (-1 - a)) :: l) w) :
 WR X m ops (⟨some d, .unOp .xor t x, ty, pos, aft, none⟩ :: rest) ks ds l w :=
 cY hd (by cases m <;> rfl) (fun c hc => by simp only [execOp, hc.ev hx, Sem.run_bind, uT h0 h1, Result.andThen_ok, Sem.run_pure]) kk
/-- a call of a function without a body, that answers at once and leaves the world alone -/
theorem lD {f : FuncId} {args : Array Operand} {tys : Array TypeId} {bs : List Operand} {vs : List Value} (has : args = bs.toArray) (hv : evs l bs = some vs) (hf : ∀ w, (callFunc f vs.toArray).run X.P w = .ok (.value v) w)
 (hc : eventOK m (.call ⟨.value (.func f), args, tys⟩) ty = true) (hd : Nat.blt d X.n = true) (k : WR X m ops rest ks ds ((d, v) :: l) w) :
 WR X m ops (⟨some d, .call ⟨.value (.func f), args, tys⟩, ty, pos, aft, none⟩ :: rest) ks ds l w :=
 eI hd hc (fun a ha => by
  have he := eX ha hv;subst has;simp only [execOp, resolve, Deferred.ofValue, Act.eval, Sem.run_bind, Sem.run_pure, Result.andThen_ok, invoke, List.map_toArray, he, Array.append_empty, Array.empty_append]
  exact hf _) k
end
theorem add64 (x y : Int) (w : World) : (callFunc 99 #[.int .u64 x, .int .u64 y, .int .u64 0]).run Tryz.prog w = .ok (.value (.tuple #[.int .u64 (((x.toNat + y.toNat + 0) % 2 ^ 64 : Nat) : Int), .int .u64 (((x.toNat + y.toNat + 0) / 2 ^ 64 : Nat) : Int)])) w := by kernel_rfl
theorem sub64 (x y : Int) (w : World) : (callFunc 100 #[.int .u64 x, .int .u64 y, .int .u64 0]).run Tryz.prog w = .ok (.value (.tuple #[.int .u64 (((x.toNat + 2 ^ 64 - y.toNat - 0) % 2 ^ 64 : Nat) : Int), .int .u64 (((if x.toNat < y.toNat + 0 then 1 else 0 : Nat)) : Int)])) w := by kernel_rfl
end Go.Proofs.YtccicbpeajdjgaaGreatDoor.Vm
namespace Go.Proofs.YtccicbpeajdjgaaGreatDoor.Vm
open Go Mix Go.RowKit Wd
set_option maxRecDepth 20000
theorem wU (z : Int) : IntKind.u64.wrap z = z % 18446744073709551616 := by
 simp [IntKind.wrap, IntKind.bits, IntKind.signed]
theorem wI (z : Int) : IntKind.i64.wrap z = (z + 9223372036854775808) % 18446744073709551616 - 9223372036854775808 := by
 simp only [IntKind.wrap, IntKind.bits, IntKind.signed]
 simp
 omega
theorem iG {a b c d : Int} (h1 : a = c) (h2 : b = d) : Value.agg #[.int .u64 a, .int .i64 b] = .agg #[.int .u64 c, .int .i64 d] := by rw [h1, h2]
theorem sz2 : (Tryz.prog.info? 2).map (·.size) = some 1 := by kernel_rfl
set_option maxHeartbeats 800000 in
theorem mP {w : World} (x : Int) (hx : N128 x) (hm : -170141183460469231731687303715884105728 < x) :
 Ret Tryz.prog 83 #[.agg #[.int .u64 (x % 18446744073709551616), .int .i64 (x / 18446744073709551616)]] w fun v w' => v = .agg #[.int .u64 ((-x) % 18446744073709551616), .int .i64 ((-x) / 18446744073709551616)] ∧ Same [] w w' := by
 have hS := Same.refl [] w;obtain ⟨H, hH⟩ : ∃ H, H = w.heap.size := ⟨_, rfl⟩;have hw0 := Nat.le_of_eq hH;unfold N128 at hx;refine aS Tryz.func83 Tryz.ntmps83 rfl rfl (aD (aB (cA rfl rfl rfl ?_)));intro w1 hn hs;replace hw0 := hs.le hw0;replace hS := hS.trans hs;obtain ⟨bL, hbL⟩ : ∃ x, x = w.heap.size := ⟨_, rfl⟩
 have hL : NB w1 bL (x % 18446744073709551616) (x / 18446744073709551616) := by rw [hn, hbL]; exact NB.box _ _ _
 rw [← hbL];have hbLH : H ≤ bL := by omega
 have hw0bL := hw0;have hbLl := hL.lt;clear hn hs;refine bF dO rfl rfl ?_;intro w2 hn hs;obtain ⟨bR, hbR⟩ : ∃ x, x = w1.heap.size := ⟨_, rfl⟩
 have hR : NB w2 bR 0 0 := by rw [hn, hbR]; exact NB.box _ _ _
 rw [← hbR];have hbRH : H ≤ bR := by omega
 have hlthL := hL.lt;have hltRbL : bL < bR := by omega
 replace hw0 := hs.le hw0;replace hS := hS.trans hs;replace hL := hL.same hs;clear hn hs;refine aG (aE (aD (aB (aO rfl fL rfl (aL rfl u25 rfl hL.c0 rfl (sS rfl zw zw rfl (aI rfl rfl (cJ (wU _)) rfl (aO rfl fL rfl (cM rfl rfl rfl fE hL.c0 (hL.fz 0) ?_)))))))));intro w3 hn hs;replace hL := hL.s0 hn;replace hw0 := hs.le hw0;replace hS := hS.trans hs;replace hR := hR.same hs;clear hn hs;refine aG (aE (aD (aB (aO rfl eB rfl (aL rfl Tryz.underlying2 rfl hL.c1 rfl (WR.notI rfl zw zw rfl (aO rfl eB rfl (cM rfl rfl rfl sz2 hL.c1 (hL.fz 1) ?_))))))));intro w4 hn hs;replace hL := hL.s1 hn;replace hw0 := hs.le hw0;replace hS := hS.trans hs;replace hR := hR.same hs;clear hn hs;refine aG (aE (aD (aD (aB (aO rfl fL rfl (aL rfl u25 rfl hL.c0 rfl (aI rfl rfl rfl rfl (aG (aE ?_)))))))));refine aK rfl (fun h93 => ?_) (fun h93 => ?_)
 ·simp only [beq_iff_eq] at h93;refine aB (aO rfl eB rfl (aL rfl Tryz.underlying2 rfl hL.c1 rfl (aI rfl rfl (cJ (wI _)) rfl (aO rfl eB rfl (cM rfl rfl rfl sz2 hL.c1 (hL.fz 1) ?_)))));intro w5 hn hs;replace hL := hL.s1 hn;replace hw0 := hs.le hw0;replace hS := hS.trans hs;replace hR := hR.same hs;clear hn hs;refine aG (aE (aD (aB (aM rfl u44 rfl bC hL.rd rfl (aU (n := 2) rfl rfl bC rfl (bY _ _) hR zo ?_)))));intro w6 hn9 hs;replace hR : NB w6 bR _ _ := hn9.congr fun i hi => aN (g := nF _ _) hi;replace hS := hS.trans hs;replace hw0 := hs.le hw0;clear hn9;refine aG (aE (cS rfl rfl u44 rfl bC hR.rd ?_));refine ⟨?_, hS⟩;exact iG zw zw
 ·simp only [beq_eq_false_iff_ne, ne_eq] at h93;refine aX (aE (aD (aB (aM rfl u44 rfl bC hL.rd rfl (aU (n := 2) rfl rfl bC rfl (bY _ _) hR zo ?_)))));intro w5 hn9 hs;replace hR : NB w5 bR _ _ := hn9.congr fun i hi => aN (g := nF _ _) hi;replace hS := hS.trans hs;replace hw0 := hs.le hw0;clear hn9;refine aG (aE (cS rfl rfl u44 rfl bC hR.rd ?_));refine ⟨?_, hS⟩;exact iG zw zw
set_option maxHeartbeats 800000 in
theorem addN {w : World} (x y : Int) (hx : N128 x) (hy : N128 y) (hz : N128 (x + y)) :
 Ret Tryz.prog 74 #[.agg #[.int .u64 (x % 18446744073709551616), .int .i64 (x / 18446744073709551616)], .agg #[.int .u64 (y % 18446744073709551616), .int .i64 (y / 18446744073709551616)]] w fun v w' => v = .agg #[.int .u64 ((x + y) % 18446744073709551616), .int .i64 ((x + y) / 18446744073709551616)] ∧ Same [] w w' := by
 have hS := Same.refl [] w;obtain ⟨H, hH⟩ : ∃ H, H = w.heap.size := ⟨_, rfl⟩;have hw0 := Nat.le_of_eq hH;unfold N128 at hx hy;refine aS Tryz.func74 Tryz.ntmps74 rfl rfl (aD (aB (cA rfl rfl rfl ?_)));intro w1 hn hs;replace hw0 := hs.le hw0;replace hS := hS.trans hs;obtain ⟨bL, hbL⟩ : ∃ x, x = w.heap.size := ⟨_, rfl⟩
 have hL : NB w1 bL (x % 18446744073709551616) (x / 18446744073709551616) := by rw [hn, hbL]; exact NB.box _ _ _
 rw [← hbL];have hbLH : H ≤ bL := by omega
 have hw0bL := hw0;have hbLl := hL.lt;clear hn hs;refine cA rfl rfl rfl ?_;intro w2 hn hs;replace hw0 := hs.le hw0;replace hS := hS.trans hs;replace hL := hL.same hs;obtain ⟨bQ, hbQ⟩ : ∃ x, x = w1.heap.size := ⟨_, rfl⟩
 have hQ : NB w2 bQ (y % 18446744073709551616) (y / 18446744073709551616) := by rw [hn, hbQ]; exact NB.box _ _ _
 rw [← hbQ];have hbQH : H ≤ bQ := by omega
 have hw0bQ := hw0;have hbQl := hQ.lt;have hbLQ : bL < bQ := by omega
 clear hn hs;refine bF dO rfl rfl ?_;intro w3 hn hs;obtain ⟨bR, hbR⟩ : ∃ x, x = w2.heap.size := ⟨_, rfl⟩
 have hR : NB w3 bR 0 0 := by rw [hn, hbR]; exact NB.box _ _ _
 rw [← hbR];have hbRH : H ≤ bR := by omega
 have hlthL := hL.lt;have hlthQ := hQ.lt;have hltRbL : bL < bR := by omega
 have hltRbQ : bQ < bR := by omega
 replace hw0 := hs.le hw0;replace hS := hS.trans hs;replace hL := hL.same hs;replace hQ := hQ.same hs;clear hn hs;refine aG (aE (aD (aB (aO rfl eB rfl (aL rfl Tryz.underlying2 rfl hL.c1 rfl (aO rfl eB rfl (aL rfl Tryz.underlying2 rfl hQ.c1 rfl (aI rfl rfl (cJ (wI _)) rfl (aO rfl eB rfl (cM rfl rfl rfl sz2 hL.c1 (hL.fz 1) ?_))))))))));intro w4 hn hs;replace hL := hL.s1 hn;replace hw0 := hs.le hw0;replace hS := hS.trans hs;replace hQ := hQ.same hs;replace hR := hR.same hs;clear hn hs;refine aG (aE (aD (aB (aF rfl rfl (aG (aE (aD (aB (aO rfl fL rfl (aL rfl u25 rfl hL.c0 rfl (aO rfl fL rfl (aL rfl u25 rfl hQ.c0 rfl (lD rfl rfl (add64 _ _) rfl rfl (aA rfl rfl (aY rfl rfl rfl (aY rfl rfl rfl (aO rfl fL rfl (cM rfl rfl rfl fE hL.c0 (hL.fz 0) ?_))))))))))))))))));intro w5 hn hs;replace hL := hL.s0 hn;replace hw0 := hs.le hw0;replace hS := hS.trans hs;replace hR := hR.same hs;clear hn hs;refine aF rfl rfl (aG (aE (aD (aB (aO rfl eB rfl (aL rfl Tryz.underlying2 rfl hL.c1 rfl (aA rfl rfl (cW rfl u25 Tryz.underlying2 (wI _) rfl (aI rfl rfl (cJ (wI _)) rfl (aO rfl eB rfl (cM rfl rfl rfl sz2 hL.c1 (hL.fz 1) ?_)))))))))));intro w6 hn hs;replace hL := hL.s1 hn;replace hw0 := hs.le hw0;replace hS := hS.trans hs;replace hR := hR.same hs;clear hn hs;refine aG (aE (aD (aB (aM rfl u44 rfl bC hL.rd rfl (aU (n := 2) rfl rfl bC rfl (bY _ _) hR zo ?_)))));intro w7 hn9 hs;replace hR : NB w7 bR _ _ := hn9.congr fun i hi => aN (g := nF _ _) hi;replace hS := hS.trans hs;replace hw0 := hs.le hw0;clear hn9;refine aG (aE (cS rfl rfl u44 rfl bC hR.rd ?_));refine ⟨?_, hS⟩;unfold N128 at hz;exact iG zw zw
set_option maxHeartbeats 800000 in
theorem subN {w : World} (x y : Int) (hx : N128 x) (hy : N128 y) (hz : N128 (x - y)) :
 Ret Tryz.prog 76 #[.agg #[.int .u64 (x % 18446744073709551616), .int .i64 (x / 18446744073709551616)], .agg #[.int .u64 (y % 18446744073709551616), .int .i64 (y / 18446744073709551616)]] w fun v w' => v = .agg #[.int .u64 ((x - y) % 18446744073709551616), .int .i64 ((x - y) / 18446744073709551616)] ∧ Same [] w w' := by
 have hS := Same.refl [] w;obtain ⟨H, hH⟩ : ∃ H, H = w.heap.size := ⟨_, rfl⟩;have hw0 := Nat.le_of_eq hH;unfold N128 at hx hy;refine aS Tryz.func76 Tryz.ntmps76 rfl rfl (aD (aB (cA rfl rfl rfl ?_)));intro w1 hn hs;replace hw0 := hs.le hw0;replace hS := hS.trans hs;obtain ⟨bL, hbL⟩ : ∃ x, x = w.heap.size := ⟨_, rfl⟩
 have hL : NB w1 bL (x % 18446744073709551616) (x / 18446744073709551616) := by rw [hn, hbL]; exact NB.box _ _ _
 rw [← hbL];have hbLH : H ≤ bL := by omega
 have hw0bL := hw0;have hbLl := hL.lt;clear hn hs;refine cA rfl rfl rfl ?_;intro w2 hn hs;replace hw0 := hs.le hw0;replace hS := hS.trans hs;replace hL := hL.same hs;obtain ⟨bQ, hbQ⟩ : ∃ x, x = w1.heap.size := ⟨_, rfl⟩
 have hQ : NB w2 bQ (y % 18446744073709551616) (y / 18446744073709551616) := by rw [hn, hbQ]; exact NB.box _ _ _
 rw [← hbQ];have hbQH : H ≤ bQ := by omega
 have hw0bQ := hw0;have hbQl := hQ.lt;have hbLQ : bL < bQ := by omega
 clear hn hs;refine bF dO rfl rfl ?_;intro w3 hn hs;obtain ⟨bR, hbR⟩ : ∃ x, x = w2.heap.size := ⟨_, rfl⟩
 have hR : NB w3 bR 0 0 := by rw [hn, hbR]; exact NB.box _ _ _
 rw [← hbR];have hbRH : H ≤ bR := by omega
 have hlthL := hL.lt;have hlthQ := hQ.lt;have hltRbL : bL < bR := by omega
 have hltRbQ : bQ < bR := by omega
 replace hw0 := hs.le hw0;replace hS := hS.trans hs;replace hL := hL.same hs;replace hQ := hQ.same hs;clear hn hs;refine aG (aE (aD (aB (aO rfl eB rfl (aL rfl Tryz.underlying2 rfl hL.c1 rfl (aO rfl eB rfl (aL rfl Tryz.underlying2 rfl hQ.c1 rfl (aI rfl rfl (cT (wI _)) rfl (aO rfl eB rfl (cM rfl rfl rfl sz2 hL.c1 (hL.fz 1) ?_))))))))));intro w4 hn hs;replace hL := hL.s1 hn;replace hw0 := hs.le hw0;replace hS := hS.trans hs;replace hQ := hQ.same hs;replace hR := hR.same hs;clear hn hs;refine aG (aE (aD (aB (aF rfl rfl (aG (aE (aD (aB (aO rfl fL rfl (aL rfl u25 rfl hL.c0 rfl (aO rfl fL rfl (aL rfl u25 rfl hQ.c0 rfl (lD rfl rfl (sub64 _ _) rfl rfl (aA rfl rfl (aY rfl rfl rfl (aY rfl rfl rfl (aO rfl fL rfl (cM rfl rfl rfl fE hL.c0 (hL.fz 0) ?_))))))))))))))))));intro w5 hn hs;replace hL := hL.s0 hn;replace hw0 := hs.le hw0;replace hS := hS.trans hs;replace hR := hR.same hs;clear hn hs;refine aF rfl rfl (aG (aE (aD (aB (aO rfl eB rfl (aL rfl Tryz.underlying2 rfl hL.c1 rfl (aA rfl rfl (cW rfl u25 Tryz.underlying2 (wI _) rfl (aI rfl rfl (cT (wI _)) rfl (aO rfl eB rfl (cM rfl rfl rfl sz2 hL.c1 (hL.fz 1) ?_)))))))))));intro w6 hn hs;replace hL := hL.s1 hn;replace hw0 := hs.le hw0;replace hS := hS.trans hs;replace hR := hR.same hs;clear hn hs;refine aG (aE (aD (aB (aM rfl u44 rfl bC hL.rd rfl (aU (n := 2) rfl rfl bC rfl (bY _ _) hR zo ?_)))));intro w7 hn9 hs;replace hR : NB w7 bR _ _ := hn9.congr fun i hi => aN (g := nF _ _) hi;replace hS := hS.trans hs;replace hw0 := hs.le hw0;clear hn9;refine aG (aE (cS rfl rfl u44 rfl bC hR.rd ?_));refine ⟨?_, hS⟩;unfold N128 at hz
 by_cases hq : (x % 18446744073709551616).toNat < (y % 18446744073709551616).toNat + 0
 ·refine iG zw ?_;rw [if_pos hq];omega
 ·refine iG zw ?_;rw [if_neg hq];omega
end Go.Proofs.YtccicbpeajdjgaaGreatDoor.Vm
namespace Go.Proofs.YtccicbpeajdjgaaGreatDoor.Vm
open Go Mix
theorem nQ {P : Program} {t : TypeId} {k k0 : IntKind} {a c : Int} (n : Nat) (w : World) (hu : P.underlying t = some (.int k0)) : (Op.equalIn (n + 1) t (.int k a) (.int k c)).run P w = .ok (a == c) w := by
 unfold Op.equalIn
 simp [Sem.run_bind, run_underlying hu]
theorem fY (a b c d : Int) (w : World) : (Op.equal 44 (.agg #[.int .u64 a, .int .i64 b]) (.agg #[.int .u64 c, .int .i64 d])).run Tryz.prog w = .ok (a == c && b == d) w := by
 unfold Op.equal;rw [show Op.maxDepth = 9998 + 1 + 1 from rfl];unfold Op.equalIn;have h44 := u44;have hst : (Tryz.prog.stoodInHeld 44) = false := by kernel_rfl
 have p1 : ∀ x y : Int, ∀ w, (part 25 #[Value.int .u64 x, Value.int .i64 y] 0).run Tryz.prog w = .ok (.int .u64 x) w := fun x y w => by kernel_rfl
 have p2 : ∀ x y : Int, ∀ w, (part 2 #[Value.int .u64 x, Value.int .i64 y] 1).run Tryz.prog w = .ok (.int .i64 y) w := fun x y w => by kernel_rfl
 have q1 := fun w => nQ (P := Tryz.prog) (k := .u64) (a := a) (c := c) 9998 w u25;have q2 := fun w => nQ (P := Tryz.prog) (k := .i64) (a := b) (c := d) 9998 w Tryz.underlying2;have hpr : program.run Tryz.prog w = .ok Tryz.prog w := rfl;simp only [Sem.run_bind, run_underlying h44, Result.andThen_ok, hpr, hst, Bool.false_eq_true, if_false];simp only [List.forIn_toArray, List.forIn_cons, List.forIn_nil, Sem.run_bind, Sem.run_pure, Result.andThen_ok, p1, p2, q1, q2, ne_eq, String.reduceEq, not_false_eq_true, if_true]
 cases h1 : (a == c) <;> cases h2 : (b == d) <;> simp [Sem.run_bind, p2, q2, h2]
theorem fZ (o : BinOp) (x y : Operand) (a b c d : Int) (w : World) : (eqGuard o 44 x y (.agg #[.int .u64 a, .int .i64 b]) (.agg #[.int .u64 c, .int .i64 d])).run Tryz.prog w = .ok () w := by
 have h1 : Tryz.prog.eqGuardType Tryz.prog.depth 44 = false := by kernel_rfl
 have hpr : program.run Tryz.prog w = .ok Tryz.prog w := rfl;unfold eqGuard
 cases o <;> simp [Sem.run_bind, hpr, h1]
section
variable {X : Cx} {m : Option (List Nat)} {ops : Array Oper} {rest : List Oper} {ks : List KI} {ds : List Deferred} {l : Kn} {w : World} {d ty : Nat} {pos : String} {aft : Array Edge} {v : Value}
/-- two structs compared -/
theorem gQ {t t' : TypeId} {x y : Operand} {va vb : Array Value} {r : Bool} (hx : ev l x = some (.agg va)) (hy : ev l y = some (.agg vb)) (hg : ∀ w, (eqGuard .eql t x y (.agg va) (.agg vb)).run X.P w = .ok () w) (hq : ∀ w, (Op.equal t (.agg va) (.agg vb)).run X.P w = .ok r w) (hd : Nat.blt d X.n = true)
 (kk : WR X m ops rest ks ds ((d, .bool r) :: l) w) : WR X m ops (⟨some d, .binOp .eql t x y t', ty, pos, aft, none⟩ :: rest) ks ds l w :=
 cY hd (by cases m <;> rfl) (fun e he => by
  simp only [execOp, he.ev hx, he.ev hy, Sem.run_bind, hg, Result.andThen_ok]
  simp [binOp, hq]) kk
end
end Go.Proofs.YtccicbpeajdjgaaGreatDoor.Vm
namespace Go.Proofs.YtccicbpeajdjgaaGreatDoor.Vm
open Go Mix Go.RowKit Wd
set_option maxRecDepth 20000
theorem wB (us : Array Value) (w : World) : (callFunc 83 us).run Tryz.prog w = .ok (.enter 83 us) w := by kernel_rfl
theorem wA (us : Array Value) (w : World) : (callFunc 85 us).run Tryz.prog w = .ok (.enter 85 us) w := by kernel_rfl
set_option maxHeartbeats 400000 in
theorem signN1 {w : World} (x : Int) (hx : N128 x) (hc : x = 0) :
 Ret Tryz.prog 85 #[.agg #[.int .u64 (x % 18446744073709551616), .int .i64 (x / 18446744073709551616)]] w fun v w' => v = .int .i64 (sgn x) ∧ Same [] w w' := by
 have hS := Same.refl [] w;obtain ⟨H, hH⟩ : ∃ H, H = w.heap.size := ⟨_, rfl⟩;have hw0 := Nat.le_of_eq hH;unfold N128 at hx;refine aS Tryz.func85 Tryz.ntmps85 rfl rfl (aD (aB (cA rfl rfl rfl ?_)));intro w1 hn hs;replace hw0 := hs.le hw0;replace hS := hS.trans hs;obtain ⟨bL, hbL⟩ : ∃ x, x = w.heap.size := ⟨_, rfl⟩
 have hL : NB w1 bL (x % 18446744073709551616) (x / 18446744073709551616) := by rw [hn, hbL]; exact NB.box _ _ _
 rw [← hbL];have hbLH : H ≤ bL := by omega
 have hw0bL := hw0;have hbLl := hL.lt;clear hn hs;refine aF rfl rfl (aG (aE (aD (aD (aB (aM rfl u44 rfl bC hL.rd rfl (eH rfl rfl (v := .agg #[.int .u64 0, .int .i64 0]) (fun w => by kernel_rfl) rfl rfl (gQ rfl rfl (fZ _ _ _ _ _ _ _) (fY _ _ _ _) rfl (aG (aE ?_))))))))));refine aK rfl (fun h151 => ?_) (fun h151 => ?_)
 ·simp only [Bool.and_eq_true, beq_iff_eq] at h151;exact aD (aB (aF rfl rfl (aG (aE (aZ rfl rfl ⟨by rw [oJ hc]; rfl, hS⟩)))))
 ·simp only [Bool.and_eq_false_iff, beq_eq_false_iff_ne, ne_eq] at h151;omega
set_option maxHeartbeats 400000 in
theorem signN2 {w : World} (x : Int) (hx : N128 x) (hc : x < 0) :
 Ret Tryz.prog 85 #[.agg #[.int .u64 (x % 18446744073709551616), .int .i64 (x / 18446744073709551616)]] w fun v w' => v = .int .i64 (sgn x) ∧ Same [] w w' := by
 have hS := Same.refl [] w;obtain ⟨H, hH⟩ : ∃ H, H = w.heap.size := ⟨_, rfl⟩;have hw0 := Nat.le_of_eq hH;unfold N128 at hx;refine aS Tryz.func85 Tryz.ntmps85 rfl rfl (aD (aB (cA rfl rfl rfl ?_)));intro w1 hn hs;replace hw0 := hs.le hw0;replace hS := hS.trans hs;obtain ⟨bL, hbL⟩ : ∃ x, x = w.heap.size := ⟨_, rfl⟩
 have hL : NB w1 bL (x % 18446744073709551616) (x / 18446744073709551616) := by rw [hn, hbL]; exact NB.box _ _ _
 rw [← hbL];have hbLH : H ≤ bL := by omega
 have hw0bL := hw0;have hbLl := hL.lt;clear hn hs;refine aF rfl rfl (aG (aE (aD (aD (aB (aM rfl u44 rfl bC hL.rd rfl (eH rfl rfl (v := .agg #[.int .u64 0, .int .i64 0]) (fun w => by kernel_rfl) rfl rfl (gQ rfl rfl (fZ _ _ _ _ _ _ _) (fY _ _ _ _) rfl (aG (aE ?_))))))))));refine aK rfl (fun h151 => ?_) (fun h151 => ?_)
 ·simp only [Bool.and_eq_true, beq_iff_eq] at h151;omega
 ·simp only [Bool.and_eq_false_iff, beq_eq_false_iff_ne, ne_eq] at h151;exact aX (aE (aD (aB (aO rfl eB rfl (aL rfl Tryz.underlying2 rfl hL.c1 rfl (dF rfl rfl zo (z := -1) ((mV (D := 9223372036854775808) rfl zo).trans zw) rfl (aI rfl rfl (v := .int .i64 (-1)) rfl rfl (aF rfl rfl (aG (aE (aZ rfl rfl ⟨by rw [qP hc]; rfl, hS⟩)))))))))))
set_option maxHeartbeats 400000 in
theorem signN3 {w : World} (x : Int) (hx : N128 x) (hc : 0 < x) :
 Ret Tryz.prog 85 #[.agg #[.int .u64 (x % 18446744073709551616), .int .i64 (x / 18446744073709551616)]] w fun v w' => v = .int .i64 (sgn x) ∧ Same [] w w' := by
 have hS := Same.refl [] w;obtain ⟨H, hH⟩ : ∃ H, H = w.heap.size := ⟨_, rfl⟩;have hw0 := Nat.le_of_eq hH;unfold N128 at hx;refine aS Tryz.func85 Tryz.ntmps85 rfl rfl (aD (aB (cA rfl rfl rfl ?_)));intro w1 hn hs;replace hw0 := hs.le hw0;replace hS := hS.trans hs;obtain ⟨bL, hbL⟩ : ∃ x, x = w.heap.size := ⟨_, rfl⟩
 have hL : NB w1 bL (x % 18446744073709551616) (x / 18446744073709551616) := by rw [hn, hbL]; exact NB.box _ _ _
 rw [← hbL];have hbLH : H ≤ bL := by omega
 have hw0bL := hw0;have hbLl := hL.lt;clear hn hs;refine aF rfl rfl (aG (aE (aD (aD (aB (aM rfl u44 rfl bC hL.rd rfl (eH rfl rfl (v := .agg #[.int .u64 0, .int .i64 0]) (fun w => by kernel_rfl) rfl rfl (gQ rfl rfl (fZ _ _ _ _ _ _ _) (fY _ _ _ _) rfl (aG (aE ?_))))))))));refine aK rfl (fun h151 => ?_) (fun h151 => ?_)
 ·simp only [Bool.and_eq_true, beq_iff_eq] at h151;omega
 ·simp only [Bool.and_eq_false_iff, beq_eq_false_iff_ne, ne_eq] at h151;exact aX (aE (aD (aB (aO rfl eB rfl (aL rfl Tryz.underlying2 rfl hL.c1 rfl (dF rfl rfl zo (z := 0) ((mV (D := 9223372036854775808) rfl zo).trans zw) rfl (aI rfl rfl (v := .int .i64 (1)) rfl rfl (aF rfl rfl (aG (aE (aZ rfl rfl ⟨by rw [sZ hc]; rfl, hS⟩)))))))))))
theorem pR {w : World} (x : Int) (hx : N128 x) : Ret Tryz.prog 85 #[.agg #[.int .u64 (x % 18446744073709551616), .int .i64 (x / 18446744073709551616)]] w fun v w' => v = .int .i64 (sgn x) ∧ Same [] w w' := by
 rcases (show x = 0 ∨ x < 0 ∨ 0 < x by omega) with h | h | h
 ·exact signN1 x hx h
 ·exact signN2 x hx h
 ·exact signN3 x hx h
set_option maxHeartbeats 400000 in
theorem abs1 {w : World} (x : Int) (hx : N128 x) (hm : -170141183460469231731687303715884105728 < x) (hc : x < 0) :
 Ret Tryz.prog 81 #[.agg #[.int .u64 (x % 18446744073709551616), .int .i64 (x / 18446744073709551616)]] w fun v w' => v = .agg #[.int .u64 ((x.natAbs : Int) % 18446744073709551616), .int .i64 ((x.natAbs : Int) / 18446744073709551616)] ∧ Same [] w w' := by
 have hS := Same.refl [] w;obtain ⟨H, hH⟩ : ∃ H, H = w.heap.size := ⟨_, rfl⟩;have hw0 := Nat.le_of_eq hH;have hsg : sgn x = -1 := by exact qP hc
 refine aS Tryz.func81 Tryz.ntmps81 rfl rfl (aD (aB (cA rfl rfl rfl ?_)));intro w1 hn hs;replace hw0 := hs.le hw0;replace hS := hS.trans hs;obtain ⟨bL, hbL⟩ : ∃ x, x = w.heap.size := ⟨_, rfl⟩
 have hL : NB w1 bL (x % 18446744073709551616) (x / 18446744073709551616) := by rw [hn, hbL]; exact NB.box _ _ _
 rw [← hbL];have hbLH : H ≤ bL := by omega
 have hw0bL := hw0;have hbLl := hL.lt;clear hn hs;refine bF dO rfl rfl ?_;intro w2 hn hs;obtain ⟨bR, hbR⟩ : ∃ x, x = w1.heap.size := ⟨_, rfl⟩
 have hR : NB w2 bR 0 0 := by rw [hn, hbR]; exact NB.box _ _ _
 rw [← hbR];have hbRH : H ≤ bR := by omega
 have hlthL := hL.lt;have hltRbL : bL < bR := by omega
 replace hw0 := hs.le hw0;replace hS := hS.trans hs;replace hL := hL.same hs;clear hn hs;refine aG (aE (aD (aD (aB (aM rfl u44 rfl bC hL.rd rfl (aR rfl rfl wA rfl rfl (pR x hx) ?_))))));rintro _ w3 ⟨rfl, hs⟩;replace hw0 := hs.le hw0;replace hS := hS.trans hs;replace hL := hL.same hs;replace hR := hR.same hs;refine aG (aE (bN (aD (aB (aI rfl rfl rfl rfl (aF rfl rfl (aG (aE ?_))))))));refine aK rfl (fun h241 => ?_) (fun h241 => ?_)
 ·simp only [beq_iff_eq] at h241;refine aD (aB (aM rfl u44 rfl bC hL.rd rfl (aR rfl rfl wB rfl rfl (mP x hx hm) ?_)));rintro _ w4 ⟨rfl, hs⟩;replace hw0 := hs.le hw0;replace hS := hS.trans hs;replace hR := hR.same hs;refine aU (n := 2) rfl rfl bC rfl (bY _ _) hR zo ?_;intro w5 hn9 hs;replace hR : NB w5 bR _ _ := hn9.congr fun i hi => aN (g := nF _ _) hi;replace hS := hS.trans hs;replace hw0 := hs.le hw0;clear hn9;refine aG (aE (cS rfl rfl u44 rfl bC hR.rd ?_));refine ⟨?_, hS⟩;exact iG zw zw
 ·simp only [beq_eq_false_iff_ne, ne_eq] at h241;omega
set_option maxHeartbeats 400000 in
theorem abs2 {w : World} (x : Int) (hx : N128 x) (hm : -170141183460469231731687303715884105728 < x) (hc : 0 ≤ x) :
 Ret Tryz.prog 81 #[.agg #[.int .u64 (x % 18446744073709551616), .int .i64 (x / 18446744073709551616)]] w fun v w' => v = .agg #[.int .u64 ((x.natAbs : Int) % 18446744073709551616), .int .i64 ((x.natAbs : Int) / 18446744073709551616)] ∧ Same [] w w' := by
 have hS := Same.refl [] w;obtain ⟨H, hH⟩ : ∃ H, H = w.heap.size := ⟨_, rfl⟩;have hw0 := Nat.le_of_eq hH
 have hsg : sgn x = if x = 0 then 0 else 1 := by unfold sgn; rw [if_neg zw]
 refine aS Tryz.func81 Tryz.ntmps81 rfl rfl (aD (aB (cA rfl rfl rfl ?_)));intro w1 hn hs;replace hw0 := hs.le hw0;replace hS := hS.trans hs;obtain ⟨bL, hbL⟩ : ∃ x, x = w.heap.size := ⟨_, rfl⟩
 have hL : NB w1 bL (x % 18446744073709551616) (x / 18446744073709551616) := by rw [hn, hbL]; exact NB.box _ _ _
 rw [← hbL];have hbLH : H ≤ bL := by omega
 have hw0bL := hw0;have hbLl := hL.lt;clear hn hs;refine bF dO rfl rfl ?_;intro w2 hn hs;obtain ⟨bR, hbR⟩ : ∃ x, x = w1.heap.size := ⟨_, rfl⟩
 have hR : NB w2 bR 0 0 := by rw [hn, hbR]; exact NB.box _ _ _
 rw [← hbR];have hbRH : H ≤ bR := by omega
 have hlthL := hL.lt;have hltRbL : bL < bR := by omega
 replace hw0 := hs.le hw0;replace hS := hS.trans hs;replace hL := hL.same hs;clear hn hs;refine aG (aE (aD (aD (aB (aM rfl u44 rfl bC hL.rd rfl (aR rfl rfl wA rfl rfl (pR x hx) ?_))))));rintro _ w3 ⟨rfl, hs⟩;replace hw0 := hs.le hw0;replace hS := hS.trans hs;replace hL := hL.same hs;replace hR := hR.same hs;refine aG (aE (bN (aD (aB (aI rfl rfl rfl rfl (aF rfl rfl (aG (aE ?_))))))));refine aK rfl (fun h241 => ?_) (fun h241 => ?_)
 ·simp only [beq_iff_eq] at h241;omega
 ·simp only [beq_eq_false_iff_ne, ne_eq] at h241;refine aX (cQ (aE (aD (aB (aM rfl u44 rfl bC hL.rd rfl (aU (n := 2) rfl rfl bC rfl (bY _ _) hR zo ?_))))));intro w4 hn9 hs;replace hR : NB w4 bR _ _ := hn9.congr fun i hi => aN (g := nF _ _) hi;replace hS := hS.trans hs;replace hw0 := hs.le hw0;clear hn9;refine aG (aE (cS rfl rfl u44 rfl bC hR.rd ?_));refine ⟨?_, hS⟩;exact iG zw zw
theorem absN {w : World} (x : Int) (hx : N128 x) (hm : -170141183460469231731687303715884105728 < x) : Ret Tryz.prog 81 #[.agg #[.int .u64 (x % 18446744073709551616), .int .i64 (x / 18446744073709551616)]] w (fun v w' => v = .agg #[.int .u64 ((x.natAbs : Int) % 18446744073709551616), .int .i64 ((x.natAbs : Int) / 18446744073709551616)] ∧ Same [] w w') := by
 rcases (show x < 0 ∨ 0 ≤ x by omega) with h | h
 ·exact abs1 x hx hm h
 ·exact abs2 x hx hm h
end Go.Proofs.YtccicbpeajdjgaaGreatDoor.Vm
