/- Whole numbers turned back into numbers of two words. -/
import Derived.Test.YtccicbpeajdjgaaGreatDoorQVm
import Derived.Test.YtccicbpeajdjgaaGreatDoorQTv
set_option linter.unusedVariables false
set_option linter.unusedSimpArgs false
namespace Go.Proofs.YtccicbpeajdjgaaGreatDoor.Vm
open Go Mix Go.RowKit Wd
set_option maxRecDepth 20000
theorem orN {a b : Nat} (ha : a < 18446744073709551616) (hb : b ≤ a) : arith .or .u64 (a : Int) (b : Int) = some (.int .u64 ((a ||| b : Nat) : Int)) := by
 have h1 : (BitVec.ofInt 64 (a : Int)).toNat = a := by rw [eL zw zw]; simp
 have h2 : (BitVec.ofInt 64 (b : Int)).toNat = b := by rw [eL zw zw]; simp
 have h3 : a ||| b < 2 ^ 64 := Nat.or_lt_two_pow ha zw
 show some (Value.int .u64 (IntKind.u64.wrap ((BitVec.ofInt 64 (a : Int) ||| BitVec.ofInt 64 (b : Int)).toNat : Nat))) = _
 rw [BitVec.toNat_or, h1, h2, dD zw zw]
theorem jU {y z t : Nat} (h : z ≤ y) (hb : blen y = blen t) (hy : y < 18446744073709551616) : blen (y ||| z) = blen t ∧ y ||| z < 18446744073709551616 := by
 have key : ∀ m, y ||| z < 2 ^ m ↔ y < 2 ^ m := fun m => ⟨fun h9 => Nat.lt_of_le_of_lt Nat.left_le_or h9, fun h9 => Nat.or_lt_two_pow h9 (Nat.lt_of_le_of_lt h h9)⟩
 have h1 : ∀ m, blen (y ||| z) ≤ m ↔ blen y ≤ m := fun m => by rw [eA, eA]; exact key m
 have h2 := (h1 (blen y)).2 (Nat.le_refl _);have h3 := (h1 (blen (y ||| z))).1 (Nat.le_refl _);exact ⟨by omega, (key 64).2 hy⟩
theorem NB.to {w : World} {b : Nat} {lo hi lo' hi' : Int} (h : NB w b lo hi) (h1 : lo = lo') (h2 : hi = hi') : NB w b lo' hi' := by
 subst h1 h2;exact h
theorem wM (us : Array Value) (w : World) : (callFunc 105 us).run Tryz.prog w = .ok (.enter 105 us) w := by kernel_rfl
theorem cf106 (us : Array Value) (w : World) : (callFunc 106 us).run Tryz.prog w = .ok (.enter 106 us) w := by kernel_rfl
theorem sL (us : Array Value) (w : World) : (callFunc 107 us).run Tryz.prog w = .ok (.enter 107 us) w := by kernel_rfl
theorem cf132 (us : Array Value) (w : World) : (callFunc 132 us).run Tryz.prog w = .ok (.enter 132 us) w := by kernel_rfl
set_option maxHeartbeats 200000 in
theorem bitLen0 {w : World} (A : Option Addr) (c : Nat) :
 Ret Tryz.prog 132 #[.slice A 0 c] w fun v w' => v = .int .i64 0 ∧ w' = w := by
 refine aS Tryz.func132 Tryz.ntmps132 rfl rfl (aD (aB (aF rfl rfl (aG (aE (aD (aD (aB (aA rfl rfl (bB rfl u126 rfl ?_))))))))))
 (refine aI rfl rfl (cT (aV ?_ ?_)) rfl ?_; (omega); (omega))
 refine aF rfl rfl (aG (aE (aD (aB (aA rfl rfl (aI rfl rfl rfl rfl (aG (aE ?_))))))));refine aK rfl (fun h334 => ?_) (fun h334 => ?_)
 ·first | (cases h334; done) | (simp at h334; done) | (simp at h334; omega) | omega
 ·simp only [ge_iff_le, decide_eq_false_iff_not, Int.not_le] at h334;exact aX (aE (aD (aB (aF rfl rfl (aG (aE (aZ rfl rfl ⟨rfl, rfl⟩)))))))
set_option maxHeartbeats 2000000 in
theorem bitLen1 {w : World} (g o n c : Nat) (a : Nat → Nat) (hra : Rd w g o n (ug a)) (hn : 0 < n) (hn2 : n ≤ 2) (hA : a (n - 1) < 18446744073709551616) :
 Ret Tryz.prog 132 #[.slice (some ⟨g, o, none⟩) n c] w fun v w' => v = .int .i64 ((64 * (n - 1) + blen (a (n - 1)) : Nat) : Int) ∧ w' = w := by
 obtain ⟨y0, hy0⟩ : ∃ z, z = a (n - 1) := ⟨_, rfl⟩;have hb0 : blen y0 = blen (a (n - 1)) := by rw [hy0]
 have hl0 : y0 < 18446744073709551616 := by omega
 refine aS Tryz.func132 Tryz.ntmps132 rfl rfl (aD (aB (aF rfl rfl (aG (aE (aD (aD (aB (aA rfl rfl (bB rfl u126 rfl ?_))))))))))
 (refine aI rfl rfl (cT (aV ?_ ?_)) rfl ?_; (omega); (omega))
 refine aF rfl rfl (aG (aE (aD (aB (aA rfl rfl (aI rfl rfl rfl rfl (aG (aE ?_))))))));refine aK rfl (fun h334 => ?_) (fun h334 => ?_)
 ·simp only [ge_iff_le, decide_eq_true_eq] at h334;refine aD (aB (aA rfl rfl (aA rfl rfl (cC rfl rfl u126 cV zw zw rfl (aL rfl u150 rfl (show _ = some (Value.int .u64 (y0 : Nat)) from by rw [Nat.mul_one, show Int.toNat _ = n - 1 by omega, hy0]; exact hra (n - 1) zw) rfl (aF rfl rfl (aG (aE (aD (aB (aA rfl rfl (aA rfl rfl (dF rfl rfl zo (dK (r := 1) zo) rfl (aI rfl rfl (orN hl0 zw) rfl ?_))))))))))))));obtain ⟨hb1, hl1⟩ := jU (z := y0 / 2 ^ 1) zw hb0 hl0;obtain ⟨y1, hy1⟩ : ∃ q, q = y0 ||| y0 / 2 ^ 1 := ⟨_, rfl⟩;rw [← hy1] at hb1 hl1 ⊢;refine aF rfl rfl (aG (aE (aD (aB (aA rfl rfl (aA rfl rfl (dF rfl rfl zo (dK (r := 2) zo) rfl (aI rfl rfl (orN hl1 zw) rfl ?_))))))));obtain ⟨hb2, hl2⟩ := jU (z := y1 / 2 ^ 2) zw hb1 hl1;obtain ⟨y2, hy2⟩ : ∃ q, q = y1 ||| y1 / 2 ^ 2 := ⟨_, rfl⟩;rw [← hy2] at hb2 hl2 ⊢;refine aF rfl rfl (aG (aE (aD (aB (aA rfl rfl (aA rfl rfl (dF rfl rfl zo (dK (r := 4) zo) rfl (aI rfl rfl (orN hl2 zw) rfl ?_))))))));obtain ⟨hb3, hl3⟩ := jU (z := y2 / 2 ^ 4) zw hb2 hl2;obtain ⟨y3, hy3⟩ : ∃ q, q = y2 ||| y2 / 2 ^ 4 := ⟨_, rfl⟩;rw [← hy3] at hb3 hl3 ⊢;refine aF rfl rfl (aG (aE (aD (aB (aA rfl rfl (aA rfl rfl (dF rfl rfl zo (dK (r := 8) zo) rfl (aI rfl rfl (orN hl3 zw) rfl ?_))))))));obtain ⟨hb4, hl4⟩ := jU (z := y3 / 2 ^ 8) zw hb3 hl3;obtain ⟨y4, hy4⟩ : ∃ q, q = y3 ||| y3 / 2 ^ 8 := ⟨_, rfl⟩;rw [← hy4] at hb4 hl4 ⊢;refine aF rfl rfl (aG (aE (aD (aB (aA rfl rfl (aA rfl rfl (dF rfl rfl zo (dK (r := 16) zo) rfl (aI rfl rfl (orN hl4 zw) rfl ?_))))))));obtain ⟨hb5, hl5⟩ := jU (z := y4 / 2 ^ 16) zw hb4 hl4;obtain ⟨y5, hy5⟩ : ∃ q, q = y4 ||| y4 / 2 ^ 16 := ⟨_, rfl⟩;rw [← hy5] at hb5 hl5 ⊢;refine aF rfl rfl (aG (aE (aD (aB (aA rfl rfl (aA rfl rfl (dF rfl rfl zo (dK (r := 16) zo) rfl (dF rfl rfl zo (dK (r := 16) zo) rfl (aI rfl rfl (orN hl5 zw) rfl ?_)))))))));obtain ⟨hb6, hl6⟩ := jU (z := y5 / 2 ^ 16 / 2 ^ 16) zw hb5 hl5;obtain ⟨y6, hy6⟩ : ∃ q, q = y5 ||| y5 / 2 ^ 16 / 2 ^ 16 := ⟨_, rfl⟩;rw [← hy6] at hb6 hl6 ⊢;refine aF rfl rfl (aG (aE (aD (aB (aA rfl rfl ?_)))))
  (refine aI rfl rfl (dE (aV ?_ ?_)) rfl ?_; (omega); (omega))
  refine aA rfl rfl (aR rfl rfl cf171 rfl rfl (lenB y6 hl6) ?_);rintro _ w99 ⟨rfl, hw99⟩;replace hw99 := hw99.symm;subst hw99;rw [hb6]
  have hbm : blen (a (n - 1)) ≤ 64 := by rw [← hb6]; exact eA.2 hl6
  (refine aI rfl rfl (cJ (aV ?_ ?_)) rfl ?_; (omega); (omega))
  exact aF rfl rfl (aG (aE (aZ rfl rfl ⟨congrArg (Value.int .i64) zw, rfl⟩)))
 ·first | (cases h334; done) | (simp at h334; done) | (simp at h334; omega) | omega
set_option maxHeartbeats 200000 in
theorem wR {w : World} (b : Nat) (neg : Bool) (A : Option Addr) (c : Nat) (hI : IB w b neg (.slice A 0 c)) :
 Ret Tryz.prog 105 #[.pointer (some ⟨b, 0, none⟩)] w fun v w' => v = .int .i64 0 ∧ w' = w := by
 refine aS Tryz.func105 Tryz.ntmps105 rfl rfl (aD (aB (aF rfl rfl (aG (aE (aD (aB (aA rfl rfl (aP rfl rfl (aO rfl dV rfl (aL rfl u126 rfl hI.c1 rfl (aR rfl rfl cf132 rfl rfl (bitLen0 A c) ?_))))))))))));rintro _ w99 ⟨rfl, hw99⟩;replace hw99 := hw99.symm;subst hw99;exact aF rfl rfl (aG (aE (aZ rfl rfl ⟨rfl, rfl⟩)))
set_option maxHeartbeats 200000 in
theorem qI {w : World} (b : Nat) (neg : Bool) (g o n c : Nat) (a : Nat → Nat) (hI : IB w b neg (.slice (some ⟨g, o, none⟩) n c)) (hra : Rd w g o n (ug a)) (hn : 0 < n) (hn2 : n ≤ 2) (hA : a (n - 1) < 18446744073709551616) :
 Ret Tryz.prog 105 #[.pointer (some ⟨b, 0, none⟩)] w fun v w' => v = .int .i64 ((64 * (n - 1) + blen (a (n - 1)) : Nat) : Int) ∧ w' = w := by
 refine aS Tryz.func105 Tryz.ntmps105 rfl rfl (aD (aB (aF rfl rfl (aG (aE (aD (aB (aA rfl rfl (aP rfl rfl (aO rfl dV rfl (aL rfl u126 rfl hI.c1 rfl (aR rfl rfl cf132 rfl rfl (bitLen1 g o n c a hra hn hn2 hA) ?_))))))))))));rintro _ w99 ⟨rfl, hw99⟩;replace hw99 := hw99.symm;subst hw99;exact aF rfl rfl (aG (aE (aZ rfl rfl ⟨rfl, rfl⟩)))
set_option maxHeartbeats 400000 in
theorem vT {w : World} (b : Nat) (neg : Bool) (A : Option Addr) (c : Nat) (hI : IB w b neg (.slice A 0 c)) :
 Ret Tryz.prog 88 #[.pointer (some ⟨b, 0, none⟩)] w fun v w' => v = .agg #[.int .u64 0, .int .i64 0] ∧ Same [] w w' := by
 have hS := Same.refl [] w;obtain ⟨H, hH⟩ : ∃ H, H = w.heap.size := ⟨_, rfl⟩;have hw0 := Nat.le_of_eq hH;refine aS Tryz.func88 Tryz.ntmps88 rfl rfl (aD (aB (bF dO rfl rfl ?_)));intro w1 hn hs;obtain ⟨bR, hbR⟩ : ∃ x, x = w.heap.size := ⟨_, rfl⟩
 have hR : NB w1 bR 0 0 := by rw [hn, hbR]; exact NB.box _ _ _
 rw [← hbR];have hbRH : H ≤ bR := by omega
 replace hw0 := hs.le hw0;replace hS := hS.trans hs;replace hI := hI.same hs;clear hn hs;refine aG (aE (aD (aB (aA rfl rfl (aR rfl rfl wM rfl rfl (wR b neg A c hI) ?_)))));rintro _ w99 ⟨rfl, hw99⟩;replace hw99 := hw99.symm;subst hw99;refine aF rfl rfl (aG (aE (aD (aD (aB (aA rfl rfl (aI rfl rfl rfl rfl (aG (aE ?_)))))))));refine aK rfl (fun h65 => ?_) (fun h65 => ?_)
 ·first | (cases h65; done) | (simp at h65; done) | (simp at h65; omega) | omega
 ·simp only [gt_iff_lt, decide_eq_false_iff_not, Int.not_lt] at h65;refine aD (aB (aA rfl rfl (aI rfl rfl rfl rfl (aG (aE ?_)))));refine aK rfl (fun h67 => ?_) (fun h67 => ?_)
  ·simp only [beq_iff_eq] at h67;exact cS rfl rfl u44 rfl bC hR.rd ⟨rfl, hS⟩
  ·first | (cases h67; done) | (simp at h67; done) | (simp at h67; omega) | omega
set_option maxHeartbeats 1000000 in
theorem vS {w : World} (b g o n c : Nat) (a : Nat → Nat) (hI : IB w b false (.slice (some ⟨g, o, none⟩) n c)) (hra : Rd w g o n (ug a)) (hgl : g < w.heap.size) (hn : 0 < n) (hn2 : n ≤ 2) (hA : ∀ i, i < n → a i < 18446744073709551616) (hU : a (n - 1) ≠ 0) (hX : un a n < 170141183460469231731687303715884105728) :
 Ret Tryz.prog 88 #[.pointer (some ⟨b, 0, none⟩)] w fun v w' => v = .agg #[.int .u64 ((((un a n : Nat) : Int)) % 18446744073709551616), .int .i64 ((((un a n : Nat) : Int)) / 18446744073709551616)] ∧ Same [] w w' := by
 have hS := Same.refl [] w;obtain ⟨H, hH⟩ : ∃ H, H = w.heap.size := ⟨_, rfl⟩;have hw0 := Nat.le_of_eq hH;have hIl := hI.lt;have hgl0 := hgl
 have hxx : n = 1 ∧ un a n = a 0 ∨ n = 2 ∧ un a n = a 0 + a 1 * 18446744073709551616 := by
  rcases (show n = 1 ∨ n = 2 by omega) with rfl | rfl
  ·exact .inl ⟨rfl, by simp [un]⟩
  ·exact .inr ⟨rfl, un2 a⟩
 have hA0 := hA 0 hn;have hAn := hA (n - 1) zw;have hbl : blen (a (n - 1)) ≠ 0 := fun h => hU (lM.1 h)
 have hbl2 : 64 * (n - 1) + blen (a (n - 1)) ≤ 127 := by
  have h64 : blen (a (n - 1)) ≤ 64 := eA.2 hAn;rcases hxx with ⟨rfl, _⟩ | ⟨rfl, h⟩
  ·omega
  ·have : blen (a (2 - 1)) ≤ 63 := eA.2 (by show a 1 < _; omega);omega
 obtain ⟨X, hXd⟩ : ∃ z, z = un a n := ⟨_, rfl⟩;rw [← hXd] at hX hxx ⊢;refine aS Tryz.func88 Tryz.ntmps88 rfl rfl (aD (aB (bF dO rfl rfl ?_)));intro w1 hn hs;obtain ⟨bR, hbR⟩ : ∃ x, x = w.heap.size := ⟨_, rfl⟩
 have hR : NB w1 bR 0 0 := by rw [hn, hbR]; exact NB.box _ _ _
 rw [← hbR];have hbRH : H ≤ bR := by omega
 replace hw0 := hs.le hw0;replace hS := hS.trans hs;replace hI := hI.same hs;replace hra := hra.same hs;replace hgl := hs.lt hgl;clear hn hs;refine aG (aE (aD (aB (aA rfl rfl (aR rfl rfl wM rfl rfl (qI b false g o n c a hI hra hn hn2 hAn) ?_)))));rintro _ w99 ⟨rfl, hw99⟩;replace hw99 := hw99.symm;subst hw99;refine aF rfl rfl (aG (aE (aD (aD (aB (aA rfl rfl (aI rfl rfl rfl rfl (aG (aE ?_)))))))));refine aK rfl (fun h65 => ?_) (fun h65 => ?_)
 ·first | (cases h65; done) | (simp at h65; done) | (simp at h65; omega) | omega
 ·simp only [gt_iff_lt, decide_eq_false_iff_not, Int.not_lt] at h65;refine aD (aB (aA rfl rfl (aI rfl rfl rfl rfl (aG (aE ?_)))));refine aK rfl (fun h67 => ?_) (fun h67 => ?_)
  ·first | (cases h67; done) | (simp at h67; done) | (simp at h67; omega) | omega
  ·simp only [beq_eq_false_iff_ne, ne_eq] at h67;refine aX (aE (aD (aB (aA rfl rfl (aR rfl rfl cf106 rfl rfl (bitsI b false _ n c hI) ?_)))));rintro _ w99 ⟨rfl, hw99⟩;replace hw99 := hw99.symm;subst hw99;refine aF rfl rfl (aG (aE (aD (aB (aA rfl rfl (cC rfl rfl u125 cV zw zw rfl (aL rfl u150 rfl (show _ = some (Value.int .u64 (a 0 : Nat)) from hra 0 hn) rfl (aO rfl fL rfl (cM rfl rfl rfl fE hR.c0 (hR.fz 0) ?_)))))))));intro w2 hn hs;replace hR := hR.s0 hn;replace hw0 := hs.le hw0;replace hS := hS.trans hs;replace hI := hI.same hs;replace hra := hra.same hs;replace hgl := hs.lt hgl;clear hn hs;refine aG (aE (aD (aD (aB (aA rfl rfl (bB rfl u125 rfl (aI rfl rfl rfl rfl (aG (aE ?_)))))))));refine aK rfl (fun h80 => ?_) (fun h80 => ?_)
   ·simp only [gt_iff_lt, decide_eq_true_eq] at h80;have hA1 := hA 1 zw;refine aB (aA rfl rfl (cC rfl rfl u125 cV zw zw rfl (aL rfl u150 rfl (show _ = some (Value.int .u64 (a 1 : Nat)) from hra 1 zw) rfl ?_)))
    (refine cW rfl u150 Tryz.underlying2 (aV ?_ ?_) rfl ?_; (omega); (omega))
    refine aO rfl eB rfl (cM rfl rfl rfl sz2 hR.c1 (hR.fz 1) ?_);intro w3 hn hs;replace hR := hR.s1 hn;replace hw0 := hs.le hw0;replace hS := hS.trans hs;replace hI := hI.same hs;replace hgl := hs.lt hgl;clear hn hs;refine aG (aE (aD (aD (aB (aA rfl rfl ?_)))));replace hR := hR.to (lo' := ((X : Nat) : Int) % 18446744073709551616) (hi' := ((X : Nat) : Int) / 18446744073709551616) zw zw;refine aR rfl rfl sL rfl rfl (uM b _ n c hI hn) ?_;rintro _ w99 ⟨rfl, hw99⟩;replace hw99 := hw99.symm;subst hw99;refine aI rfl rfl rfl rfl (aG (aE ?_));refine aK rfl (fun h83 => ?_) (fun h83 => ?_)
    ·first | (cases h83; done) | (simp at h83; done) | (simp at h83; omega) | omega
    ·simp only [decide_eq_false_iff_not, Int.not_lt] at h83;exact aX (aE (cS rfl rfl u44 rfl bC hR.rd ⟨rfl, hS⟩))
   ·simp only [gt_iff_lt, decide_eq_false_iff_not, Int.not_lt] at h80;refine aX (aE (aD (aD (aB (aA rfl rfl ?_)))));replace hR := hR.to (lo' := ((X : Nat) : Int) % 18446744073709551616) (hi' := ((X : Nat) : Int) / 18446744073709551616) zw zw;refine aR rfl rfl sL rfl rfl (uM b _ n c hI hn) ?_;rintro _ w99 ⟨rfl, hw99⟩;replace hw99 := hw99.symm;subst hw99;refine aI rfl rfl rfl rfl (aG (aE ?_));refine aK rfl (fun h83 => ?_) (fun h83 => ?_)
    ·first | (cases h83; done) | (simp at h83; done) | (simp at h83; omega) | omega
    ·simp only [decide_eq_false_iff_not, Int.not_lt] at h83;exact aX (aE (cS rfl rfl u44 rfl bC hR.rd ⟨rfl, hS⟩))
set_option maxHeartbeats 1000000 in
theorem vR {w : World} (b g o n c : Nat) (a : Nat → Nat) (hI : IB w b true (.slice (some ⟨g, o, none⟩) n c)) (hra : Rd w g o n (ug a)) (hgl : g < w.heap.size) (hn : 0 < n) (hn2 : n ≤ 2) (hA : ∀ i, i < n → a i < 18446744073709551616) (hU : a (n - 1) ≠ 0) (hX : un a n < 170141183460469231731687303715884105728) :
 Ret Tryz.prog 88 #[.pointer (some ⟨b, 0, none⟩)] w fun v w' => v = .agg #[.int .u64 ((-((un a n : Nat) : Int)) % 18446744073709551616), .int .i64 ((-((un a n : Nat) : Int)) / 18446744073709551616)] ∧ Same [] w w' := by
 have hS := Same.refl [] w;obtain ⟨H, hH⟩ : ∃ H, H = w.heap.size := ⟨_, rfl⟩;have hw0 := Nat.le_of_eq hH;have hIl := hI.lt;have hgl0 := hgl
 have hxx : n = 1 ∧ un a n = a 0 ∨ n = 2 ∧ un a n = a 0 + a 1 * 18446744073709551616 := by
  rcases (show n = 1 ∨ n = 2 by omega) with rfl | rfl
  ·exact .inl ⟨rfl, by simp [un]⟩
  ·exact .inr ⟨rfl, un2 a⟩
 have hA0 := hA 0 hn;have hAn := hA (n - 1) zw;have hbl : blen (a (n - 1)) ≠ 0 := fun h => hU (lM.1 h)
 have hbl2 : 64 * (n - 1) + blen (a (n - 1)) ≤ 127 := by
  have h64 : blen (a (n - 1)) ≤ 64 := eA.2 hAn;rcases hxx with ⟨rfl, _⟩ | ⟨rfl, h⟩
  ·omega
  ·have : blen (a (2 - 1)) ≤ 63 := eA.2 (by show a 1 < _; omega);omega
 obtain ⟨X, hXd⟩ : ∃ z, z = un a n := ⟨_, rfl⟩;rw [← hXd] at hX hxx ⊢;refine aS Tryz.func88 Tryz.ntmps88 rfl rfl (aD (aB (bF dO rfl rfl ?_)));intro w1 hn hs;obtain ⟨bR, hbR⟩ : ∃ x, x = w.heap.size := ⟨_, rfl⟩
 have hR : NB w1 bR 0 0 := by rw [hn, hbR]; exact NB.box _ _ _
 rw [← hbR];have hbRH : H ≤ bR := by omega
 replace hw0 := hs.le hw0;replace hS := hS.trans hs;replace hI := hI.same hs;replace hra := hra.same hs;replace hgl := hs.lt hgl;clear hn hs;refine aG (aE (aD (aB (aA rfl rfl (aR rfl rfl wM rfl rfl (qI b true g o n c a hI hra hn hn2 hAn) ?_)))));rintro _ w99 ⟨rfl, hw99⟩;replace hw99 := hw99.symm;subst hw99;refine aF rfl rfl (aG (aE (aD (aD (aB (aA rfl rfl (aI rfl rfl rfl rfl (aG (aE ?_)))))))));refine aK rfl (fun h65 => ?_) (fun h65 => ?_)
 ·first | (cases h65; done) | (simp at h65; done) | (simp at h65; omega) | omega
 ·simp only [gt_iff_lt, decide_eq_false_iff_not, Int.not_lt] at h65;refine aD (aB (aA rfl rfl (aI rfl rfl rfl rfl (aG (aE ?_)))));refine aK rfl (fun h67 => ?_) (fun h67 => ?_)
  ·first | (cases h67; done) | (simp at h67; done) | (simp at h67; omega) | omega
  ·simp only [beq_eq_false_iff_ne, ne_eq] at h67;refine aX (aE (aD (aB (aA rfl rfl (aR rfl rfl cf106 rfl rfl (bitsI b true _ n c hI) ?_)))));rintro _ w99 ⟨rfl, hw99⟩;replace hw99 := hw99.symm;subst hw99;refine aF rfl rfl (aG (aE (aD (aB (aA rfl rfl (cC rfl rfl u125 cV zw zw rfl (aL rfl u150 rfl (show _ = some (Value.int .u64 (a 0 : Nat)) from hra 0 hn) rfl (aO rfl fL rfl (cM rfl rfl rfl fE hR.c0 (hR.fz 0) ?_)))))))));intro w2 hn hs;replace hR := hR.s0 hn;replace hw0 := hs.le hw0;replace hS := hS.trans hs;replace hI := hI.same hs;replace hra := hra.same hs;replace hgl := hs.lt hgl;clear hn hs;refine aG (aE (aD (aD (aB (aA rfl rfl (bB rfl u125 rfl (aI rfl rfl rfl rfl (aG (aE ?_)))))))));refine aK rfl (fun h80 => ?_) (fun h80 => ?_)
   ·simp only [gt_iff_lt, decide_eq_true_eq] at h80;have hA1 := hA 1 zw;refine aB (aA rfl rfl (cC rfl rfl u125 cV zw zw rfl (aL rfl u150 rfl (show _ = some (Value.int .u64 (a 1 : Nat)) from hra 1 zw) rfl ?_)))
    (refine cW rfl u150 Tryz.underlying2 (aV ?_ ?_) rfl ?_; (omega); (omega))
    refine aO rfl eB rfl (cM rfl rfl rfl sz2 hR.c1 (hR.fz 1) ?_);intro w3 hn hs;replace hR := hR.s1 hn;replace hw0 := hs.le hw0;replace hS := hS.trans hs;replace hI := hI.same hs;replace hgl := hs.lt hgl;clear hn hs;refine aG (aE (aD (aD (aB (aA rfl rfl ?_)))));replace hR := hR.to (lo' := ((X : Nat) : Int) % 18446744073709551616) (hi' := ((X : Nat) : Int) / 18446744073709551616) zw zw;refine aR rfl rfl sL rfl rfl (uN b _ n c hI hn) ?_;rintro _ w99 ⟨rfl, hw99⟩;replace hw99 := hw99.symm;subst hw99;refine aI rfl rfl rfl rfl (aG (aE ?_));refine aK rfl (fun h83 => ?_) (fun h83 => ?_)
    ·simp only [decide_eq_true_eq] at h83;refine aD (aB (aM rfl u44 rfl bC hR.rd rfl (aR rfl rfl wB rfl rfl (mP (X : Int) zi zw) ?_)));rintro _ w4 ⟨rfl, hs⟩;replace hw0 := hs.le hw0;replace hS := hS.trans hs;replace hR := hR.same hs;replace hgl := hs.lt hgl;refine aU (n := 2) rfl rfl bC rfl (bY _ _) hR zo ?_;intro w5 hn9 hs;replace hR : NB w5 bR _ _ := hn9.congr fun i hi => aN (g := nF _ _) hi;replace hS := hS.trans hs;replace hw0 := hs.le hw0;clear hn9;exact aG (aE (cS rfl rfl u44 rfl bC hR.rd ⟨rfl, hS⟩))
    ·first | (cases h83; done) | (simp at h83; done) | (simp at h83; omega) | omega
   ·simp only [gt_iff_lt, decide_eq_false_iff_not, Int.not_lt] at h80;refine aX (aE (aD (aD (aB (aA rfl rfl ?_)))));replace hR := hR.to (lo' := ((X : Nat) : Int) % 18446744073709551616) (hi' := ((X : Nat) : Int) / 18446744073709551616) zw zw;refine aR rfl rfl sL rfl rfl (uN b _ n c hI hn) ?_;rintro _ w99 ⟨rfl, hw99⟩;replace hw99 := hw99.symm;subst hw99;refine aI rfl rfl rfl rfl (aG (aE ?_));refine aK rfl (fun h83 => ?_) (fun h83 => ?_)
    ·simp only [decide_eq_true_eq] at h83;refine aD (aB (aM rfl u44 rfl bC hR.rd rfl (aR rfl rfl wB rfl rfl (mP (X : Int) zi zw) ?_)));rintro _ w3 ⟨rfl, hs⟩;replace hw0 := hs.le hw0;replace hS := hS.trans hs;replace hR := hR.same hs;replace hgl := hs.lt hgl;refine aU (n := 2) rfl rfl bC rfl (bY _ _) hR zo ?_;intro w4 hn9 hs;replace hR : NB w4 bR _ _ := hn9.congr fun i hi => aN (g := nF _ _) hi;replace hS := hS.trans hs;replace hw0 := hs.le hw0;clear hn9;exact aG (aE (cS rfl rfl u44 rfl bC hR.rd ⟨rfl, hS⟩))
    ·first | (cases h83; done) | (simp at h83; done) | (simp at h83; omega) | omega
theorem mB {w : World} {I : Nat → Prop} {v : Value} {z : Int} (h : Zi w I v z) (hz : -170141183460469231731687303715884105728 < z) (hz2 : z < 170141183460469231731687303715884105728) : Ret Tryz.prog 88 #[v] w (fun v w' => v = .agg #[.int .u64 ((z) % 18446744073709551616), .int .i64 ((z) / 18446744073709551616)] ∧ Same [] w w') := by
 obtain ⟨b, neg, s, n, a, rfl, _, hI, hU, hA, hUn, hzv, hng⟩ := h;obtain ⟨A, c, rfl⟩ := hU.shape;rcases Nat.eq_zero_or_pos n with rfl | hn
 ·have h0 : z = 0 := by
   rw [hzv]
   cases neg <;> rfl
  rw [h0];exact vT b neg A c hI
 ·obtain ⟨g, o, rfl, _, hgl, hnc, hra⟩ := hU.lit hn
  have hUn2 : a (n - 1) ≠ 0 := by
   rcases hUn with h | h
   ·omega
   ·exact h
  have hX : un a n < 170141183460469231731687303715884105728 := by
   cases neg
   ·rw [if_neg zo] at hzv; omega
   ·rw [if_pos rfl] at hzv; omega
  have hn2 : n ≤ 2 := by
   rcases Nat.lt_or_ge 2 n with h9 | h9
   ·exfalso;obtain ⟨k, rfl⟩ : ∃ k, n = k + 2 + 1 := ⟨n - 3, by omega⟩;rw [gO] at hX;have h1 : 1 ≤ a (k + 2) := Nat.pos_of_ne_zero hUn2;have h2 : 18446744073709551616 ^ (k + 2) ≤ a (k + 2) * 18446744073709551616 ^ (k + 2) := Nat.le_mul_of_pos_left _ h1;have h3 : 18446744073709551616 ^ 2 ≤ 18446744073709551616 ^ (k + 2) := Nat.pow_le_pow_right zo zw;rw [show (18446744073709551616 : Nat) ^ 2 = 340282366920938463463374607431768211456 by decide] at h3;omega
   ·exact h9
  cases neg
  ·rw [if_neg zo] at hzv;rw [hzv];exact vS b g o n c a hI hra hgl hn hn2 hA hUn2 hX
  ·rw [if_pos rfl] at hzv;rw [hzv];exact vR b g o n c a hI hra hgl hn hn2 hA hUn2 hX
end Go.Proofs.YtccicbpeajdjgaaGreatDoor.Vm
namespace Go.Proofs.YtccicbpeajdjgaaGreatDoor.Vm
open Go Mix Go.RowKit Wd
set_option maxRecDepth 20000
theorem Zi.same {w w' : World} {I : Nat → Prop} {v : Value} {z : Int} {S : List Nat} (h : Zi w I v z) (hs : Same S w w') (hS : ∀ g, g ∈ S → ¬ I g := by first | (simp; done) | (simp; omega) | (simp only [List.mem_singleton]; rintro g rfl hg; omega)) : Zi w' I v z := by
 obtain ⟨b, neg, s, n, a, h1, h2, h3, h4, h5⟩ := h;exact ⟨b, neg, s, n, a, h1, h2, h3.same hs (fun hm => hS b hm h2), h4.same hs (fun g hm hi => hS g hm hi.1), h5⟩
theorem Zi.mono9 {w : World} {I J : Nat → Prop} {v : Value} {z : Int} (h : Zi w I v z) (hJ : ∀ g, I g → J g) : Zi w J v z := by
 obtain ⟨b, neg, s, n, a, h1, h2, h3, h4, h5⟩ := h;exact ⟨b, neg, s, n, a, h1, hJ b h2, h3, h4.mono fun g hi _ => ⟨hJ g hi.1, hi.2⟩, h5⟩
theorem fW {x y B : Int} (h1 : -B < x) (h2 : x < B) : -B < x.tdiv y ∧ x.tdiv y < B := by
 rw [iL];have h3 := Nat.div_le_self x.natAbs y.natAbs;obtain ⟨q, hq⟩ : ∃ q, q = x.natAbs / y.natAbs := ⟨_, rfl⟩;rw [← hq] at h3 ⊢
 split <;> omega
theorem kG {x y B : Int} (h1 : -B < x) (h2 : x < B) : -B < x.tmod y ∧ x.tmod y < B := by
 rw [gT];have h3 := Nat.mod_le x.natAbs y.natAbs;obtain ⟨q, hq⟩ : ∃ q, q = x.natAbs % y.natAbs := ⟨_, rfl⟩;rw [← hq] at h3 ⊢
 split <;> omega
theorem tP (us : Array Value) (w : World) : (callFunc 86 us).run Tryz.prog w = .ok (.enter 86 us) w := by kernel_rfl
theorem cf87 (us : Array Value) (w : World) : (callFunc 87 us).run Tryz.prog w = .ok (.enter 87 us) w := by kernel_rfl
theorem cf88 (us : Array Value) (w : World) : (callFunc 88 us).run Tryz.prog w = .ok (.enter 88 us) w := by kernel_rfl
set_option maxHeartbeats 2000000 in
theorem divNum {w : World} (hT : Tab w) (x y : Int) (hx : N128 x) (hxm : -170141183460469231731687303715884105728 < x) (hy9 : N128 y) (hym : -170141183460469231731687303715884105728 < y) (hy0 : y ≠ 0) :
 Ret Tryz.prog 47 #[.agg #[.int .u64 (x % 18446744073709551616), .int .i64 (x / 18446744073709551616)], .agg #[.int .u64 (y % 18446744073709551616), .int .i64 (y / 18446744073709551616)]] w fun v w' => v = .tuple #[.agg #[.int .u64 ((x.tdiv y) % 18446744073709551616), .int .i64 ((x.tdiv y) / 18446744073709551616)], .agg #[.int .u64 ((x.tmod y) % 18446744073709551616), .int .i64 ((x.tmod y) / 18446744073709551616)]] ∧ Same [] w w' := by
 have hS := Same.refl [] w;obtain ⟨H, hH⟩ : ∃ H, H = w.heap.size := ⟨_, rfl⟩;have hw0 := Nat.le_of_eq hH;have hT14 := hT.1;have hx9 := hx;have hyy9 := hy9;unfold N128 at hx9 hyy9;refine aS Tryz.func47 Tryz.ntmps47 rfl rfl (aD (aB (cA rfl rfl rfl ?_)));intro w1 hn hs;replace hw0 := hs.le hw0;replace hS := hS.trans hs;replace hT := hT.same hs;obtain ⟨bL, hbL⟩ : ∃ x, x = w.heap.size := ⟨_, rfl⟩
 have hL : NB w1 bL (x % 18446744073709551616) (x / 18446744073709551616) := by rw [hn, hbL]; exact NB.box _ _ _
 rw [← hbL];have hbLH : H ≤ bL := by omega
 have hw0bL := hw0;have hbLl := hL.lt;clear hn hs;refine cA rfl rfl rfl ?_;intro w2 hn hs;replace hw0 := hs.le hw0;replace hS := hS.trans hs;replace hL := hL.same hs;replace hT := hT.same hs;obtain ⟨bQ, hbQ⟩ : ∃ x, x = w1.heap.size := ⟨_, rfl⟩
 have hQ : NB w2 bQ (y % 18446744073709551616) (y / 18446744073709551616) := by rw [hn, hbQ]; exact NB.box _ _ _
 rw [← hbQ];have hbQH : H ≤ bQ := by omega
 have hw0bQ := hw0;have hbQl := hQ.lt;have hbLQ : bL < bQ := by omega
 clear hn hs;refine bF dO rfl rfl ?_;intro w3 hn hs;obtain ⟨bR, hbR⟩ : ∃ x, x = w2.heap.size := ⟨_, rfl⟩
 have hR : NB w3 bR 0 0 := by rw [hn, hbR]; exact NB.box _ _ _
 rw [← hbR];have hbRH : H ≤ bR := by omega
 have hlthL := hL.lt;have hlthQ := hQ.lt;have hnebRbL : bL < bR := by omega
 have hnebRbQ : bQ < bR := by omega
 replace hw0 := hs.le hw0;replace hS := hS.trans hs;replace hL := hL.same hs;replace hQ := hQ.same hs;replace hT := hT.same hs;clear hn hs;refine bF dO rfl rfl ?_;intro w4 hn hs;obtain ⟨bP, hbP⟩ : ∃ x, x = w3.heap.size := ⟨_, rfl⟩
 have hP : NB w4 bP 0 0 := by rw [hn, hbP]; exact NB.box _ _ _
 rw [← hbP];have hbPH : H ≤ bP := by omega
 have hlthL := hL.lt;have hlthQ := hQ.lt;have hlthR := hR.lt;have hnebPbL : bL < bP := by omega
 have hnebPbQ : bQ < bP := by omega
 have hnebPbR : bR < bP := by omega
 replace hw0 := hs.le hw0;replace hS := hS.trans hs;replace hL := hL.same hs;replace hQ := hQ.same hs;replace hR := hR.same hs;replace hT := hT.same hs;clear hn hs;refine aG (aE (aD (aB (aM rfl u44 rfl bC hL.rd rfl ?_))));have hsz1 := hw0;obtain ⟨K, hK⟩ : ∃ z, z = w4.heap.size := ⟨_, rfl⟩;have hPl := hP.lt;have hRl := hR.lt;refine aR rfl rfl tP rfl rfl (lN x hx hxm) ?_;rw [← hK];rintro _ w5 ⟨⟨bz, gz, rfl, hbzK, hgzK, hgbz, hz, hzr⟩, hs⟩;have hbzl := hz.lt;have hgzl := hzr.lt;replace hw0 := hs.le hw0;replace hS := hS.trans hs;replace hQ := hQ.same hs;replace hR := hR.same hs;replace hP := hP.same hs;replace hT := hT.same hs;refine aF rfl rfl (aG (aE (aD (aB (aA rfl rfl (aA rfl rfl (aM rfl u44 rfl bC hQ.rd rfl ?_)))))));obtain ⟨M, hM⟩ : ∃ z, z = w5.heap.size := ⟨_, rfl⟩;refine aR rfl rfl tP rfl rfl (lN y hy9 hym) ?_;rw [← hM];rintro _ w6 ⟨⟨dy, gy, rfl, hdyM, hgyM, hgdy, hy, hyr⟩, hs⟩;have hdyl := hy.lt;have hgyl := hyr.lt;replace hw0 := hs.le hw0;replace hS := hS.trans hs;replace hR := hR.same hs;replace hP := hP.same hs;replace hT := hT.same hs;replace hz := hz.same hs;replace hzr := hzr.same hs;refine eH rfl rfl (v := .agg #[.bool false, .slice none 0 0]) (fun w => by kernel_rfl) rfl rfl (cA rfl rfl rfl ?_);intro w7 hn hs;replace hw0 := hs.le hw0;replace hS := hS.trans hs;replace hR := hR.same hs;replace hP := hP.same hs;replace hT := hT.same hs;replace hz := hz.same hs;replace hzr := hzr.same hs;replace hy := hy.same hs;replace hyr := hyr.same hs;obtain ⟨br, hbr⟩ : ∃ z, z = w6.heap.size := ⟨_, rfl⟩
 have hr : IB w7 br false (.slice none 0 0) := by rw [hn, hbr]; exact IB.box _ _ _
 rw [← hbr];clear hn hs;have hgzl9 := hzr.lt;have hgyl9 := hyr.lt;have hsz3 := hw0;refine aR rfl rfl cf87 rfl rfl (vC hT bz bz dy br gz gz gy (wl x.natAbs) (decide (x < 0)) _ x y hz hzr hz ((Row.rd hzr 0 2 zo).congr fun i _ => by rw [Nat.zero_add]) hgzl9 hy ((Row.rd hyr 0 2 zo).congr fun i _ => by rw [Nat.zero_add]) hgyl9 hr zw zw zw zw zw) ?_;rintro _ w8 ⟨rfl, hZq, hZr, hs⟩;clear hz hzr hy hyr hr;replace hZr := hZr.mono9 (J := fun g => K ≤ g) fun g hg => zw;replace hZq := hZq.mono9 (J := fun g => K ≤ g) fun g hg => zw;replace hw0 := hs.le hw0;replace hS := hS.trans hs;replace hR := hR.same hs;replace hP := hP.same hs;refine aA rfl rfl (aY rfl rfl rfl (aY rfl rfl rfl (aF rfl rfl (aF rfl rfl (aG (aE (aD (aB (aA rfl rfl (aR rfl rfl cf88 rfl rfl (mB hZq (fW hxm hx9.2).1 (fW hxm hx9.2).2) ?_))))))))));rintro _ w9 ⟨rfl, hs⟩;replace hw0 := hs.le hw0;replace hS := hS.trans hs;replace hR := hR.same hs;replace hP := hP.same hs;replace hZr := hZr.same hs;refine aA rfl rfl (aR rfl rfl cf88 rfl rfl (mB hZr (kG hxm hx9.2).1 (kG hxm hx9.2).2) ?_);rintro _ w10 ⟨rfl, hs⟩;replace hw0 := hs.le hw0;replace hS := hS.trans hs;replace hR := hR.same hs;replace hP := hP.same hs;refine aU (n := 2) rfl rfl bC rfl (bY _ _) hR zo ?_;intro w11 hn9 hs;replace hR : NB w11 bR _ _ := hn9.congr fun i hi => aN (g := nF _ _) hi;replace hS := hS.trans hs;replace hw0 := hs.le hw0;clear hn9;replace hP := hP.same hs;refine aU (n := 2) rfl rfl bC rfl (bY _ _) hP zo ?_;intro w12 hn9 hs;replace hP : NB w12 bP _ _ := hn9.congr fun i hi => aN (g := nF _ _) hi;replace hS := hS.trans hs;replace hw0 := hs.le hw0;clear hn9;replace hR := hR.same hs;exact aG (aE (nG rfl rfl rfl u44 rfl bC hR.rd hP.rd ⟨rfl, hS⟩))
end Go.Proofs.YtccicbpeajdjgaaGreatDoor.Vm
