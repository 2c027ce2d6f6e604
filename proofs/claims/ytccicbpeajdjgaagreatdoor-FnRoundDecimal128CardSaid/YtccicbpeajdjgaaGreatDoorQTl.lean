/- The sign and the words of a whole number. -/
import Derived.Test.YtccicbpeajdjgaaGreatDoorQTj
import Derived.Test.YtccicbpeajdjgaaGreatDoorQVm
import Derived.Test.YtccicbpeajdjgaaGreatDoorQVmRnd
import Derived.Test.YtccicbpeajdjgaaGreatDoorQVmMap
set_option linter.unusedVariables false
set_option linter.unusedSimpArgs false
namespace Go.Proofs.YtccicbpeajdjgaaGreatDoor.Vm
open Go Mix Go.RowKit Wd
set_option maxRecDepth 20000
set_option maxHeartbeats 200000 in
theorem bitsI {w : World} (b : Nat) (neg : Bool) (A : Option Addr) (n c : Nat) (hI : IB w b neg (.slice A n c)) :
 Ret Tryz.prog 106 #[.pointer (some ⟨b, 0, none⟩)] w fun v w' => v = .slice A n c ∧ w' = w := by
 exact aS Tryz.func106 Tryz.ntmps106 rfl rfl (aD (aB (aF rfl rfl (aG (aE (aD (aB (aA rfl rfl (aP rfl rfl (aO rfl dV rfl (aL rfl u126 rfl hI.c1 rfl (aF rfl rfl (aG (aE (aZ rfl rfl ⟨rfl, rfl⟩)))))))))))))))
set_option maxHeartbeats 200000 in
theorem signI0 {w : World} (b : Nat) (neg : Bool) (A : Option Addr) (n c : Nat) (hI : IB w b neg (.slice A n c)) (hc : n = 0) :
 Ret Tryz.prog 107 #[.pointer (some ⟨b, 0, none⟩)] w fun v w' => v = .int .i64 0 ∧ w' = w := by
 refine aS Tryz.func107 Tryz.ntmps107 rfl rfl (aD (aB (aF rfl rfl (aG (aE (aD (aD (aB (aA rfl rfl (aP rfl rfl (aO rfl dV rfl (aL rfl u126 rfl hI.c1 rfl (bB rfl u126 rfl (aI rfl rfl rfl rfl (aG (aE ?_))))))))))))))));refine aK rfl (fun h42 => ?_) (fun h42 => ?_)
 ·simp only [beq_iff_eq] at h42;exact aD (aB (aF rfl rfl (aG (aE (aZ rfl rfl ⟨rfl, rfl⟩)))))
 ·first | (cases h42; done) | (simp at h42; done) | (simp at h42; omega) | omega
set_option maxHeartbeats 200000 in
theorem uN {w : World} (b : Nat) (A : Option Addr) (n c : Nat) (hI : IB w b true (.slice A n c)) (hc : 0 < n) :
 Ret Tryz.prog 107 #[.pointer (some ⟨b, 0, none⟩)] w fun v w' => v = .int .i64 (-1) ∧ w' = w := by
 refine aS Tryz.func107 Tryz.ntmps107 rfl rfl (aD (aB (aF rfl rfl (aG (aE (aD (aD (aB (aA rfl rfl (aP rfl rfl (aO rfl dV rfl (aL rfl u126 rfl hI.c1 rfl (bB rfl u126 rfl (aI rfl rfl rfl rfl (aG (aE ?_))))))))))))))));refine aK rfl (fun h42 => ?_) (fun h42 => ?_)
 ·first | (cases h42; done) | (simp at h42; done) | (simp at h42; omega) | omega
 ·simp only [beq_eq_false_iff_ne, ne_eq] at h42;refine aX (aE (aD (aD (aB (aA rfl rfl (aP rfl rfl (aO rfl eE rfl (aL rfl u4 rfl hI.c0 rfl (aG (aE ?_))))))))));refine aK rfl (fun h45 => ?_) (fun h45 => ?_)
  ·simp only at h45;exact aD (aB (aF rfl rfl (aG (aE (aZ rfl rfl ⟨rfl, rfl⟩)))))
  ·first | (cases h45; done) | (simp at h45; done) | (simp at h45; omega) | omega
set_option maxHeartbeats 200000 in
theorem uM {w : World} (b : Nat) (A : Option Addr) (n c : Nat) (hI : IB w b false (.slice A n c)) (hc : 0 < n) :
 Ret Tryz.prog 107 #[.pointer (some ⟨b, 0, none⟩)] w fun v w' => v = .int .i64 1 ∧ w' = w := by
 refine aS Tryz.func107 Tryz.ntmps107 rfl rfl (aD (aB (aF rfl rfl (aG (aE (aD (aD (aB (aA rfl rfl (aP rfl rfl (aO rfl dV rfl (aL rfl u126 rfl hI.c1 rfl (bB rfl u126 rfl (aI rfl rfl rfl rfl (aG (aE ?_))))))))))))))));refine aK rfl (fun h42 => ?_) (fun h42 => ?_)
 ·first | (cases h42; done) | (simp at h42; done) | (simp at h42; omega) | omega
 ·simp only [beq_eq_false_iff_ne, ne_eq] at h42;refine aX (aE (aD (aD (aB (aA rfl rfl (aP rfl rfl (aO rfl eE rfl (aL rfl u4 rfl hI.c0 rfl (aG (aE ?_))))))))));refine aK rfl (fun h45 => ?_) (fun h45 => ?_)
  ·first | (cases h45; done) | (simp at h45; done) | (simp at h45; omega) | omega
  ·simp only at h45;exact aX (aE (aD (aB (aF rfl rfl (aG (aE (aZ rfl rfl ⟨rfl, rfl⟩)))))))
end Go.Proofs.YtccicbpeajdjgaaGreatDoor.Vm
namespace Go.Proofs.YtccicbpeajdjgaaGreatDoor.Vm
open Go Mix Go.RowKit Wd
set_option maxRecDepth 20000
theorem add64c (x y c : Int) (hc : c = 0 ∨ c = 1) (w : World) : (callFunc 99 #[.int .u64 x, .int .u64 y, .int .u64 c]).run Tryz.prog w = .ok (.value (.tuple #[.int .u64 (((x.toNat + y.toNat + c.toNat) % 2 ^ 64 : Nat) : Int), .int .u64 (((x.toNat + y.toNat + c.toNat) / 2 ^ 64 : Nat) : Int)])) w := by
 have h0 : ∀ w, (callFunc 99 #[.int .u64 x, .int .u64 y, .int .u64 0]).run Tryz.prog w = .ok (.value (.tuple #[.int .u64 (((x.toNat + y.toNat + 0) % 2 ^ 64 : Nat) : Int), .int .u64 (((x.toNat + y.toNat + 0) / 2 ^ 64 : Nat) : Int)])) w := fun w => by kernel_rfl
 have h1 : ∀ w, (callFunc 99 #[.int .u64 x, .int .u64 y, .int .u64 1]).run Tryz.prog w = .ok (.value (.tuple #[.int .u64 (((x.toNat + y.toNat + 1) % 2 ^ 64 : Nat) : Int), .int .u64 (((x.toNat + y.toNat + 1) / 2 ^ 64 : Nat) : Int)])) w := fun w => by kernel_rfl
 rcases hc with rfl | rfl
 ·exact h0 w
 ·exact h1 w
theorem sub64c (x y c : Int) (hc : c = 0 ∨ c = 1) (w : World) : (callFunc 100 #[.int .u64 x, .int .u64 y, .int .u64 c]).run Tryz.prog w = .ok (.value (.tuple #[.int .u64 (((x.toNat + 2 ^ 64 - y.toNat - c.toNat) % 2 ^ 64 : Nat) : Int), .int .u64 (((if x.toNat < y.toNat + c.toNat then 1 else 0 : Nat)) : Int)])) w := by
 have h0 : ∀ w, (callFunc 100 #[.int .u64 x, .int .u64 y, .int .u64 0]).run Tryz.prog w = .ok (.value (.tuple #[.int .u64 (((x.toNat + 2 ^ 64 - y.toNat - 0) % 2 ^ 64 : Nat) : Int), .int .u64 (((if x.toNat < y.toNat + 0 then 1 else 0 : Nat)) : Int)])) w := fun w => by kernel_rfl
 have h1 : ∀ w, (callFunc 100 #[.int .u64 x, .int .u64 y, .int .u64 1]).run Tryz.prog w = .ok (.value (.tuple #[.int .u64 (((x.toNat + 2 ^ 64 - y.toNat - 1) % 2 ^ 64 : Nat) : Int), .int .u64 (((if x.toNat < y.toNat + 1 then 1 else 0 : Nat)) : Int)])) w := fun w => by kernel_rfl
 rcases hc with rfl | rfl
 ·exact h0 w
 ·exact h1 w
/-- the lengths of the words below 256 -/
def tab8 : ByteArray := ⟨((List.range 256).map fun t => UInt8.ofNat (blen t)).toArray⟩
theorem gI {t : Nat} (ht : t < 256) : ∃ b, tab8[t]? = some b ∧ b.toNat = blen t := by
 have h : ((List.range 256).all fun t => decide ((tab8[t]?).map (·.toNat) = some (blen t))) = true := by kernel_rfl
 have h2 := of_decide_eq_true (List.all_eq_true.1 h t (List.mem_range.2 ht));cases h3 : tab8[t]? with
 | none => rw [h3] at h2; simp at h2
 | some b => exact ⟨b, rfl, by rw [h3] at h2; simpa using h2⟩
theorem cf101 (us : Array Value) (w : World) : (callFunc 101 us).run Tryz.prog w = .ok (.enter 101 us) w := by kernel_rfl
theorem cf171 (us : Array Value) (w : World) : (callFunc 171 us).run Tryz.prog w = .ok (.enter 171 us) w := by kernel_rfl
theorem cf212 (us : Array Value) (w : World) : (callFunc 212 us).run Tryz.prog w = .ok (.enter 212 us) w := by kernel_rfl
theorem cf221 (us : Array Value) (w : World) : (callFunc 221 us).run Tryz.prog w = .ok (.enter 221 us) w := by kernel_rfl
set_option maxHeartbeats 1000000 in
theorem mul64 {w : World} (x y : Nat) (hx : x < 18446744073709551616) (hy : y < 18446744073709551616) :
 Ret Tryz.prog 101 #[.int .u64 (x : Nat), .int .u64 (y : Nat)] w fun v w' => v = .tuple #[.int .u64 ((x * y / 18446744073709551616 : Nat) : Int), .int .u64 ((x * y % 18446744073709551616 : Nat) : Int)] ∧ w' = w := by
 refine aS Tryz.func101 Tryz.ntmps101 rfl rfl (aD (aB (aF rfl rfl (aF rfl rfl (aG (aE (aD (aB (aA rfl rfl (aI rfl rfl (qK hx) rfl ?_))))))))));obtain ⟨x0, hx0⟩ : ∃ z, z = x % 4294967296 := ⟨_, rfl⟩;rw [← hx0];refine aF rfl rfl (aG (aE (aD (aB (aA rfl rfl (dF rfl rfl zo (dK (r := 32) zo) rfl ?_))))));obtain ⟨x1, hx1⟩ : ∃ z, z = x / 2 ^ 32 := ⟨_, rfl⟩;rw [← hx1];refine aF rfl rfl (aG (aE (aD (aB (aA rfl rfl (aI rfl rfl (qK hy) rfl ?_))))));obtain ⟨y0, hy0⟩ : ∃ z, z = y % 4294967296 := ⟨_, rfl⟩;rw [← hy0];refine aF rfl rfl (aG (aE (aD (aB (aA rfl rfl (dF rfl rfl zo (dK (r := 32) zo) rfl ?_))))));obtain ⟨y1, hy1⟩ : ∃ z, z = y / 2 ^ 32 := ⟨_, rfl⟩;rw [← hy1];have hm := tH (show x = x1 * 4294967296 + x0 by omega) (show y = y1 * 4294967296 + y0 by omega);obtain ⟨p00, hp00⟩ : ∃ z, z = x0 * y0 := ⟨_, rfl⟩
 have qp00 : p00 ≤ 18446744065119617025 := by rw [hp00]; exact rZ zw zw
 obtain ⟨p10, hp10⟩ : ∃ z, z = x1 * y0 := ⟨_, rfl⟩
 have qp10 : p10 ≤ 18446744065119617025 := by rw [hp10]; exact rZ zw zw
 obtain ⟨p01, hp01⟩ : ∃ z, z = x0 * y1 := ⟨_, rfl⟩
 have qp01 : p01 ≤ 18446744065119617025 := by rw [hp01]; exact rZ zw zw
 obtain ⟨p11, hp11⟩ : ∃ z, z = x1 * y1 := ⟨_, rfl⟩
 have qp11 : p11 ≤ 18446744065119617025 := by rw [hp11]; exact rZ zw zw
 rw [← hp00, ← hp10, ← hp01, ← hp11] at hm;obtain ⟨p, hp⟩ : ∃ z, z = x * y := ⟨_, rfl⟩;rw [← hp] at hm ⊢;refine aF rfl rfl (aG (aE (aD (aB (aA rfl rfl (aA rfl rfl (aI rfl rfl (dE (kW (by rw [← hp00]; omega))) rfl ?_)))))));rw [← hp00];refine aF rfl rfl (aG (aE (aD (aB (aA rfl rfl (aA rfl rfl (aI rfl rfl (dE (kW (by rw [← hp10]; omega))) rfl ?_)))))));rw [← hp10];refine aA rfl rfl (dF rfl rfl zo (dK (r := 32) zo) rfl (aI rfl rfl (cJ (pE zw)) rfl ?_));obtain ⟨t, ht⟩ : ∃ z, z = p10 + p00 / 2 ^ 32 := ⟨_, rfl⟩;rw [← ht];refine aF rfl rfl (aG (aE (aD (aB (aA rfl rfl (aI rfl rfl (qK zw) rfl (aF rfl rfl (aG (aE (aD (aB (aA rfl rfl (dF rfl rfl zo (dK (r := 32) zo) rfl (aF rfl rfl (aG (aE (aD (aB (aA rfl rfl (aA rfl rfl (aA rfl rfl (aI rfl rfl (dE (kW (by rw [← hp01]; omega))) rfl ?_))))))))))))))))))))));rw [← hp01];refine aI rfl rfl (cJ (pE zw)) rfl (aF rfl rfl (aG (aE (aD (aB (aA rfl rfl (aA rfl rfl (aI rfl rfl (dE (kW (by rw [← hp11]; omega))) rfl ?_))))))));rw [← hp11];refine aA rfl rfl (aI rfl rfl (cJ (pE zw)) rfl (aA rfl rfl (dF rfl rfl zo (dK (r := 32) zo) rfl (aI rfl rfl (cJ (pE zw)) rfl (aF rfl rfl (aG (aE (aD (aB (aA rfl rfl (aA rfl rfl (aI rfl rfl (dE tI) rfl ?_))))))))))));rw [← hp];exact aF rfl rfl (aG (aE (aZ rfl rfl ⟨by rw [show p11 + t / 2 ^ 32 + (t % 4294967296 + p01) / 2 ^ 32 = p / 18446744073709551616 by omega]; rfl, rfl⟩)))
set_option maxHeartbeats 200000 in
theorem mulB {w : World} (x y : Nat) (hx : x < 18446744073709551616) (hy : y < 18446744073709551616) :
 Ret Tryz.prog 119 #[.int .u64 (x : Nat), .int .u64 (y : Nat)] w fun v w' => v = .tuple #[.int .u64 ((x * y / 18446744073709551616 : Nat) : Int), .int .u64 ((x * y % 18446744073709551616 : Nat) : Int)] ∧ w' = w := by
 refine aS Tryz.func119 Tryz.ntmps119 rfl rfl (aD (aB (aF rfl rfl (aF rfl rfl (aG (aE (aD ?_)))))));refine aK rfl (fun h445 => ?_) (fun h445 => ?_)
 ·(cases h445)
 ·simp only at h445;refine aX (aE (aD (aB (aA rfl rfl (aA rfl rfl (aR rfl rfl cf101 rfl rfl (mul64 x y hx hy) ?_))))));rintro _ w99 ⟨rfl, hw99⟩;replace hw99 := hw99.symm;subst hw99;exact aA rfl rfl (aY rfl rfl rfl (aY rfl rfl rfl (aF rfl rfl (aF rfl rfl (aG (aE (aD (aB (aA rfl rfl (aA rfl rfl (aF rfl rfl (aF rfl rfl (aG (aE (aZ rfl rfl ⟨rfl, rfl⟩)))))))))))))))
set_option maxHeartbeats 200000 in
theorem addB {w : World} (x y : Nat) (hx : x < 18446744073709551616) (hy : y < 18446744073709551616) (c : Nat) (hc : c ≤ 1) :
 Ret Tryz.prog 173 #[.int .u64 (x : Nat), .int .u64 (y : Nat), .int .u64 (c : Nat)] w fun v w' => v = .tuple #[.int .u64 (((x + y + c) % 18446744073709551616 : Nat) : Int), .int .u64 (((x + y + c) / 18446744073709551616 : Nat) : Int)] ∧ w' = w := by
 refine aS Tryz.func173 Tryz.ntmps173 rfl rfl (aD (aB (aF rfl rfl (aF rfl rfl (aG (aE (aD ?_)))))));refine aK rfl (fun h360 => ?_) (fun h360 => ?_)
 ·(cases h360)
 ·simp only at h360;exact aX (aE (aD (aB (aA rfl rfl (aA rfl rfl (aA rfl rfl (lD rfl rfl (add64c _ _ _ zw) rfl rfl (aA rfl rfl (aY rfl rfl rfl (aY rfl rfl rfl (aF rfl rfl (aF rfl rfl (aG (aE (aD (aB (aA rfl rfl (aA rfl rfl (aF rfl rfl (aF rfl rfl (aG (aE (aZ rfl rfl ⟨rfl, rfl⟩)))))))))))))))))))))))
set_option maxHeartbeats 200000 in
theorem subB {w : World} (x y : Nat) (hx : x < 18446744073709551616) (hy : y < 18446744073709551616) (c : Nat) (hc : c ≤ 1) :
 Ret Tryz.prog 175 #[.int .u64 (x : Nat), .int .u64 (y : Nat), .int .u64 (c : Nat)] w fun v w' => v = .tuple #[.int .u64 (((x + 18446744073709551616 - y - c) % 18446744073709551616 : Nat) : Int), .int .u64 ((if x < y + c then 1 else 0 : Nat) : Int)] ∧ w' = w := by
 refine aS Tryz.func175 Tryz.ntmps175 rfl rfl (aD (aB (aF rfl rfl (aF rfl rfl (aG (aE (aD ?_)))))));refine aK rfl (fun h402 => ?_) (fun h402 => ?_)
 ·(cases h402)
 ·simp only at h402;exact aX (aE (aD (aB (aA rfl rfl (aA rfl rfl (aA rfl rfl (lD rfl rfl (sub64c _ _ _ zw) rfl rfl (aA rfl rfl (aY rfl rfl rfl (aY rfl rfl rfl (aF rfl rfl (aF rfl rfl (aG (aE (aD (aB (aA rfl rfl (aA rfl rfl (aF rfl rfl (aF rfl rfl (aG (aE (aZ rfl rfl ⟨rfl, rfl⟩)))))))))))))))))))))))
set_option maxHeartbeats 800000 in
theorem len64 {w : World} (y0 : Nat) (hy0 : y0 < 18446744073709551616) :
 Ret Tryz.prog 221 #[.int .u64 (y0 : Nat)] w fun v w' => v = .int .i64 ((blen y0 : Nat) : Int) ∧ w' = w := by
 refine aS Tryz.func221 Tryz.ntmps221 rfl rfl (aD (aB (aF rfl rfl (aG (aE (aD (aD (aB (aA rfl rfl (aI rfl rfl rfl rfl (aG (aE ?_))))))))))));refine aK rfl (fun h338 => ?_) (fun h338 => ?_)
 ·simp only [ge_iff_le, decide_eq_true_eq] at h338;refine aD (aB (aA rfl rfl (dF rfl rfl zo (dK (r := 32) zo) rfl ?_)));obtain ⟨y1, hy1⟩ : ∃ z, z = y0 / 2 ^ 32 := ⟨_, rfl⟩;rw [← hy1]
  have e1 : blen y0 = 32 + blen y1 := by rw [hy1]; exact fM (k := 32) zw
  replace hy1 : y1 < 2 ^ 32 := by omega
  refine aF rfl rfl (aG (aE (aB (aF rfl rfl (aG (aE (aD (aD (aB (aA rfl rfl (aI rfl rfl rfl rfl (aG (aE ?_)))))))))))));refine aK rfl (fun h342 => ?_) (fun h342 => ?_)
  ·simp only [ge_iff_le, decide_eq_true_eq] at h342;refine aD (aB (aA rfl rfl (dF rfl rfl zo (dK (r := 16) zo) rfl ?_)));obtain ⟨y2, hy2⟩ : ∃ z, z = y1 / 2 ^ 16 := ⟨_, rfl⟩;rw [← hy2]
   have e2 : blen y1 = 16 + blen y2 := by rw [hy2]; exact fM (k := 16) zw
   replace hy2 : y2 < 2 ^ 16 := by omega
   refine aF rfl rfl (aG (aE (aB (aA rfl rfl ?_))))
   (refine aI rfl rfl (cJ (aV ?_ ?_)) rfl ?_; (omega); (omega))
   refine aF rfl rfl (aG (aE (aD (aD (aB (aA rfl rfl (aI rfl rfl rfl rfl (aG (aE ?_)))))))));refine aK rfl (fun h346 => ?_) (fun h346 => ?_)
   ·simp only [ge_iff_le, decide_eq_true_eq] at h346;refine aD (aB (aA rfl rfl (dF rfl rfl zo (dK (r := 8) zo) rfl ?_)));obtain ⟨y3, hy3⟩ : ∃ z, z = y2 / 2 ^ 8 := ⟨_, rfl⟩;rw [← hy3]
    have e3 : blen y2 = 8 + blen y3 := by rw [hy3]; exact fM (k := 8) zw
    replace hy3 : y3 < 2 ^ 8 := by omega
    refine aF rfl rfl (aG (aE (aB (aA rfl rfl ?_))))
    (refine aI rfl rfl (cJ (aV ?_ ?_)) rfl ?_; (omega); (omega))
    refine aF rfl rfl (aG (aE (aD (aB (aA rfl rfl (aA rfl rfl ?_))))))
    (refine cW rfl u25 u5 (gC ?_ ?_) rfl ?_; (omega); (omega))
    obtain ⟨b8, hb8, hn8⟩ := gI (t := y3) zw;have hb3 : blen y3 ≤ 8 := eA.2 hy3;refine fO (s := tab8) (b := b8) zy rfl Tryz.underlying9 zw hb8 rfl ?_;rw [hn8]
    (refine cW rfl u5 Tryz.underlying3 (aV ?_ ?_) rfl ?_; (omega); (omega))
    (refine aI rfl rfl (cJ (aV ?_ ?_)) rfl ?_; (omega); (omega))
    exact aF rfl rfl (aG (aE (aZ rfl rfl ⟨congrArg (Value.int .i64) zw, rfl⟩)))
   ·simp only [ge_iff_le, decide_eq_false_iff_not, Int.not_le] at h346;obtain ⟨y3, hq9⟩ : ∃ z, z = y2 := ⟨_, rfl⟩;subst hq9;have hy3 : y3 < 2 ^ 8 := by omega
    refine aX (aE (aD (aB (aA rfl rfl (aA rfl rfl ?_)))))
    (refine cW rfl u25 u5 (gC ?_ ?_) rfl ?_; (omega); (omega))
    obtain ⟨b8, hb8, hn8⟩ := gI (t := y3) zw;have hb3 : blen y3 ≤ 8 := eA.2 hy3;refine fO (s := tab8) (b := b8) zy rfl Tryz.underlying9 zw hb8 rfl ?_;rw [hn8]
    (refine cW rfl u5 Tryz.underlying3 (aV ?_ ?_) rfl ?_; (omega); (omega))
    (refine aI rfl rfl (cJ (aV ?_ ?_)) rfl ?_; (omega); (omega))
    exact aF rfl rfl (aG (aE (aZ rfl rfl ⟨congrArg (Value.int .i64) zw, rfl⟩)))
  ·simp only [ge_iff_le, decide_eq_false_iff_not, Int.not_le] at h342;obtain ⟨y2, hq9⟩ : ∃ z, z = y1 := ⟨_, rfl⟩;subst hq9;have hy2 : y2 < 2 ^ 16 := by omega
   refine aX (aE (aD (aD (aB (aA rfl rfl (aI rfl rfl rfl rfl (aG (aE ?_))))))));refine aK rfl (fun h346 => ?_) (fun h346 => ?_)
   ·simp only [ge_iff_le, decide_eq_true_eq] at h346;refine aD (aB (aA rfl rfl (dF rfl rfl zo (dK (r := 8) zo) rfl ?_)));obtain ⟨y3, hy3⟩ : ∃ z, z = y2 / 2 ^ 8 := ⟨_, rfl⟩;rw [← hy3]
    have e3 : blen y2 = 8 + blen y3 := by rw [hy3]; exact fM (k := 8) zw
    replace hy3 : y3 < 2 ^ 8 := by omega
    refine aF rfl rfl (aG (aE (aB (aA rfl rfl ?_))))
    (refine aI rfl rfl (cJ (aV ?_ ?_)) rfl ?_; (omega); (omega))
    refine aF rfl rfl (aG (aE (aD (aB (aA rfl rfl (aA rfl rfl ?_))))))
    (refine cW rfl u25 u5 (gC ?_ ?_) rfl ?_; (omega); (omega))
    obtain ⟨b8, hb8, hn8⟩ := gI (t := y3) zw;have hb3 : blen y3 ≤ 8 := eA.2 hy3;refine fO (s := tab8) (b := b8) zy rfl Tryz.underlying9 zw hb8 rfl ?_;rw [hn8]
    (refine cW rfl u5 Tryz.underlying3 (aV ?_ ?_) rfl ?_; (omega); (omega))
    (refine aI rfl rfl (cJ (aV ?_ ?_)) rfl ?_; (omega); (omega))
    exact aF rfl rfl (aG (aE (aZ rfl rfl ⟨congrArg (Value.int .i64) zw, rfl⟩)))
   ·simp only [ge_iff_le, decide_eq_false_iff_not, Int.not_le] at h346;obtain ⟨y3, hq9⟩ : ∃ z, z = y2 := ⟨_, rfl⟩;subst hq9;have hy3 : y3 < 2 ^ 8 := by omega
    refine aX (aE (aD (aB (aA rfl rfl (aA rfl rfl ?_)))))
    (refine cW rfl u25 u5 (gC ?_ ?_) rfl ?_; (omega); (omega))
    obtain ⟨b8, hb8, hn8⟩ := gI (t := y3) zw;have hb3 : blen y3 ≤ 8 := eA.2 hy3;refine fO (s := tab8) (b := b8) zy rfl Tryz.underlying9 zw hb8 rfl ?_;rw [hn8]
    (refine cW rfl u5 Tryz.underlying3 (aV ?_ ?_) rfl ?_; (omega); (omega))
    (refine aI rfl rfl (cJ (aV ?_ ?_)) rfl ?_; (omega); (omega))
    exact aF rfl rfl (aG (aE (aZ rfl rfl ⟨congrArg (Value.int .i64) zw, rfl⟩)))
 ·simp only [ge_iff_le, decide_eq_false_iff_not, Int.not_le] at h338;obtain ⟨y1, hq9⟩ : ∃ z, z = y0 := ⟨_, rfl⟩;subst hq9;have hy1 : y1 < 2 ^ 32 := by omega
  refine aX (aE (aD (aD (aB (aA rfl rfl (aI rfl rfl rfl rfl (aG (aE ?_))))))));refine aK rfl (fun h342 => ?_) (fun h342 => ?_)
  ·simp only [ge_iff_le, decide_eq_true_eq] at h342;refine aD (aB (aA rfl rfl (dF rfl rfl zo (dK (r := 16) zo) rfl ?_)));obtain ⟨y2, hy2⟩ : ∃ z, z = y1 / 2 ^ 16 := ⟨_, rfl⟩;rw [← hy2]
   have e2 : blen y1 = 16 + blen y2 := by rw [hy2]; exact fM (k := 16) zw
   replace hy2 : y2 < 2 ^ 16 := by omega
   refine aF rfl rfl (aG (aE (aB (aA rfl rfl ?_))))
   (refine aI rfl rfl (cJ (aV ?_ ?_)) rfl ?_; (omega); (omega))
   refine aF rfl rfl (aG (aE (aD (aD (aB (aA rfl rfl (aI rfl rfl rfl rfl (aG (aE ?_)))))))));refine aK rfl (fun h346 => ?_) (fun h346 => ?_)
   ·simp only [ge_iff_le, decide_eq_true_eq] at h346;refine aD (aB (aA rfl rfl (dF rfl rfl zo (dK (r := 8) zo) rfl ?_)));obtain ⟨y3, hy3⟩ : ∃ z, z = y2 / 2 ^ 8 := ⟨_, rfl⟩;rw [← hy3]
    have e3 : blen y2 = 8 + blen y3 := by rw [hy3]; exact fM (k := 8) zw
    replace hy3 : y3 < 2 ^ 8 := by omega
    refine aF rfl rfl (aG (aE (aB (aA rfl rfl ?_))))
    (refine aI rfl rfl (cJ (aV ?_ ?_)) rfl ?_; (omega); (omega))
    refine aF rfl rfl (aG (aE (aD (aB (aA rfl rfl (aA rfl rfl ?_))))))
    (refine cW rfl u25 u5 (gC ?_ ?_) rfl ?_; (omega); (omega))
    obtain ⟨b8, hb8, hn8⟩ := gI (t := y3) zw;have hb3 : blen y3 ≤ 8 := eA.2 hy3;refine fO (s := tab8) (b := b8) zy rfl Tryz.underlying9 zw hb8 rfl ?_;rw [hn8]
    (refine cW rfl u5 Tryz.underlying3 (aV ?_ ?_) rfl ?_; (omega); (omega))
    (refine aI rfl rfl (cJ (aV ?_ ?_)) rfl ?_; (omega); (omega))
    exact aF rfl rfl (aG (aE (aZ rfl rfl ⟨congrArg (Value.int .i64) zw, rfl⟩)))
   ·simp only [ge_iff_le, decide_eq_false_iff_not, Int.not_le] at h346;obtain ⟨y3, hq9⟩ : ∃ z, z = y2 := ⟨_, rfl⟩;subst hq9;have hy3 : y3 < 2 ^ 8 := by omega
    refine aX (aE (aD (aB (aA rfl rfl (aA rfl rfl ?_)))))
    (refine cW rfl u25 u5 (gC ?_ ?_) rfl ?_; (omega); (omega))
    obtain ⟨b8, hb8, hn8⟩ := gI (t := y3) zw;have hb3 : blen y3 ≤ 8 := eA.2 hy3;refine fO (s := tab8) (b := b8) zy rfl Tryz.underlying9 zw hb8 rfl ?_;rw [hn8]
    (refine cW rfl u5 Tryz.underlying3 (aV ?_ ?_) rfl ?_; (omega); (omega))
    (refine aI rfl rfl (cJ (aV ?_ ?_)) rfl ?_; (omega); (omega))
    exact aF rfl rfl (aG (aE (aZ rfl rfl ⟨congrArg (Value.int .i64) zw, rfl⟩)))
  ·simp only [ge_iff_le, decide_eq_false_iff_not, Int.not_le] at h342;obtain ⟨y2, hq9⟩ : ∃ z, z = y1 := ⟨_, rfl⟩;subst hq9;have hy2 : y2 < 2 ^ 16 := by omega
   refine aX (aE (aD (aD (aB (aA rfl rfl (aI rfl rfl rfl rfl (aG (aE ?_))))))));refine aK rfl (fun h346 => ?_) (fun h346 => ?_)
   ·simp only [ge_iff_le, decide_eq_true_eq] at h346;refine aD (aB (aA rfl rfl (dF rfl rfl zo (dK (r := 8) zo) rfl ?_)));obtain ⟨y3, hy3⟩ : ∃ z, z = y2 / 2 ^ 8 := ⟨_, rfl⟩;rw [← hy3]
    have e3 : blen y2 = 8 + blen y3 := by rw [hy3]; exact fM (k := 8) zw
    replace hy3 : y3 < 2 ^ 8 := by omega
    refine aF rfl rfl (aG (aE (aB (aA rfl rfl ?_))))
    (refine aI rfl rfl (cJ (aV ?_ ?_)) rfl ?_; (omega); (omega))
    refine aF rfl rfl (aG (aE (aD (aB (aA rfl rfl (aA rfl rfl ?_))))))
    (refine cW rfl u25 u5 (gC ?_ ?_) rfl ?_; (omega); (omega))
    obtain ⟨b8, hb8, hn8⟩ := gI (t := y3) zw;have hb3 : blen y3 ≤ 8 := eA.2 hy3;refine fO (s := tab8) (b := b8) zy rfl Tryz.underlying9 zw hb8 rfl ?_;rw [hn8]
    (refine cW rfl u5 Tryz.underlying3 (aV ?_ ?_) rfl ?_; (omega); (omega))
    (refine aI rfl rfl (cJ (aV ?_ ?_)) rfl ?_; (omega); (omega))
    exact aF rfl rfl (aG (aE (aZ rfl rfl ⟨congrArg (Value.int .i64) zw, rfl⟩)))
   ·simp only [ge_iff_le, decide_eq_false_iff_not, Int.not_le] at h346;obtain ⟨y3, hq9⟩ : ∃ z, z = y2 := ⟨_, rfl⟩;subst hq9;have hy3 : y3 < 2 ^ 8 := by omega
    refine aX (aE (aD (aB (aA rfl rfl (aA rfl rfl ?_)))))
    (refine cW rfl u25 u5 (gC ?_ ?_) rfl ?_; (omega); (omega))
    obtain ⟨b8, hb8, hn8⟩ := gI (t := y3) zw;have hb3 : blen y3 ≤ 8 := eA.2 hy3;refine fO (s := tab8) (b := b8) zy rfl Tryz.underlying9 zw hb8 rfl ?_;rw [hn8]
    (refine cW rfl u5 Tryz.underlying3 (aV ?_ ?_) rfl ?_; (omega); (omega))
    (refine aI rfl rfl (cJ (aV ?_ ?_)) rfl ?_; (omega); (omega))
    exact aF rfl rfl (aG (aE (aZ rfl rfl ⟨congrArg (Value.int .i64) zw, rfl⟩)))
set_option maxHeartbeats 200000 in
theorem lenB {w : World} (x : Nat) (hx : x < 18446744073709551616) :
 Ret Tryz.prog 171 #[.int .u64 (x : Nat)] w fun v w' => v = .int .i64 ((blen x : Nat) : Int) ∧ w' = w := by
 refine aS Tryz.func171 Tryz.ntmps171 rfl rfl (aD (aB (aF rfl rfl (aG (aE (aD ?_))))));refine aK rfl (fun h302 => ?_) (fun h302 => ?_)
 ·(cases h302)
 ·simp only at h302;refine aX (aE (aD (aB (aA rfl rfl (aR rfl rfl cf221 rfl rfl (len64 x hx) ?_)))));rintro _ w99 ⟨rfl, hw99⟩;replace hw99 := hw99.symm;subst hw99;exact aF rfl rfl (aG (aE (aZ rfl rfl ⟨rfl, rfl⟩)))
set_option maxHeartbeats 200000 in
theorem lead64 {w : World} (x : Nat) (hx : x < 18446744073709551616) :
 Ret Tryz.prog 249 #[.int .u64 (x : Nat)] w fun v w' => v = .int .i64 ((64 - blen x : Nat) : Int) ∧ w' = w := by
 have hl : blen x ≤ 64 := eA.2 hx;refine aS Tryz.func249 Tryz.ntmps249 rfl rfl (aD (aB (aF rfl rfl (aG (aE (aD (aB (aA rfl rfl (aR rfl rfl cf221 rfl rfl (len64 x hx) ?_)))))))));rintro _ w99 ⟨rfl, hw99⟩;replace hw99 := hw99.symm;subst hw99
 (refine aI rfl rfl (cT (aV ?_ ?_)) rfl ?_; (omega); (omega))
 exact aF rfl rfl (aG (aE (aZ rfl rfl ⟨congrArg (Value.int .i64) zw, rfl⟩)))
set_option maxHeartbeats 200000 in
theorem leadB {w : World} (x : Nat) (hx : x < 18446744073709551616) :
 Ret Tryz.prog 212 #[.int .u64 (x : Nat)] w fun v w' => v = .int .i64 ((64 - blen x : Nat) : Int) ∧ w' = w := by
 have hl : blen x ≤ 64 := eA.2 hx;refine aS Tryz.func212 Tryz.ntmps212 rfl rfl (aD (aB (aF rfl rfl (aG (aE (aD (aB (aA rfl rfl (aR rfl rfl cf171 rfl rfl (lenB x hx) ?_)))))))));rintro _ w99 ⟨rfl, hw99⟩;replace hw99 := hw99.symm;subst hw99
 (refine aI rfl rfl (cT (aV ?_ ?_)) rfl ?_; (omega); (omega))
 exact aF rfl rfl (aG (aE (aZ rfl rfl ⟨congrArg (Value.int .i64) zw, rfl⟩)))
set_option maxHeartbeats 200000 in
theorem nlz {w : World} (x : Nat) (hx : x < 18446744073709551616) :
 Ret Tryz.prog 164 #[.int .u64 (x : Nat)] w fun v w' => v = .int .u64 ((64 - blen x : Nat) : Int) ∧ w' = w := by
 have hl : blen x ≤ 64 := eA.2 hx;refine aS Tryz.func164 Tryz.ntmps164 rfl rfl (aD (aB (aF rfl rfl (aG (aE (aD (aB (aA rfl rfl (aR rfl rfl cf212 rfl rfl (leadB x hx) ?_)))))))));rintro _ w99 ⟨rfl, hw99⟩;replace hw99 := hw99.symm;subst hw99
 (refine cW rfl Tryz.underlying3 Tryz.underlying79 (dD ?_ ?_) rfl ?_; (omega); (omega))
 exact aF rfl rfl (aG (aE (aZ rfl rfl ⟨rfl, rfl⟩)))
end Go.Proofs.YtccicbpeajdjgaaGreatDoor.Vm
