/- A wide integer written as two words. -/
import Derived.Test.YtccicbpeajdjgaaGreatDoorQVm
import Derived.Test.YtccicbpeajdjgaaGreatDoorQSj
import Derived.Test.YtccicbpeajdjgaaGreatDoorQVmMap
set_option linter.unusedVariables false
set_option linter.unusedSimpArgs false
namespace Go.Proofs.YtccicbpeajdjgaaGreatDoor.Vm
open Go Mix Go.RowKit Wd
set_option maxRecDepth 20000
theorem Mz.ne {w : World} {I : Nat → Prop} {v : Value} {x b : Nat} (h : Mz w I v x) (hb : w.heap.size ≤ b) : Mz w (fun g => I g ∧ g ≠ b) v x := h.mono fun g h1 h2 => ⟨h1, by omega⟩
/-- the words of the first t digits -/
def pw (a : Nat → Nat) (k t : Nat) : Nat → Nat := fun r => (if 2 * r < t then pad a k (2 * r) else 0) + (if 2 * r + 1 < t then pad a k (2 * r + 1) * 4294967296 else 0)
theorem oN {a : Nat → Nat} {k t : Nat} (h : ¬ t < k) : pw a k (t + 1) = pw a k t := by
 funext r
 unfold pw;have hp : pad a k t = 0 := pad_ge h
 by_cases e1 : 2 * r = t
 ·subst e1
  simp [hp, show ¬ 2 * r + 1 < 2 * r by omega]
 ·by_cases e2 : 2 * r + 1 = t
  ·subst e2
   simp [hp, show 2 * r < 2 * r + 1 + 1 by omega]
  ·simp only [show (2 * r < t + 1) = (2 * r < t) from propext zw, show (2 * r + 1 < t + 1) = (2 * r + 1 < t) from propext zw]
theorem oM (a : Nat → Nat) (k : Nat) : pw a k 0 = fun _ => 0 := by
 funext r
 simp [pw]
theorem nO {d D : Nat} {b : Int} (hb : (2 : Int) ^ min b.toNat IntKind.u64.bits = ((D : Nat) : Int)) (hd : d * D < 18446744073709551616) : IntKind.u64.wrap (((d : Nat) : Int) * 2 ^ min b.toNat IntKind.u64.bits) = ((d * D : Nat) : Int) := by
 rw [hb, ← Int.natCast_mul];exact dD zw zw
theorem lY {a : Nat → Nat} {k i : Nat} (h : 2 * i < k) (r : Nat) : pw a k (2 * i + 1) r = if r = i then a (2 * i) else pw a k (2 * i) r := by
 unfold pw
 by_cases he : r = i
 ·subst he
  simp [oO h]
 ·rw [if_neg he]
  by_cases h1 : 2 * r < 2 * i
  ·simp [h1, show 2 * r < 2 * i + 1 by omega, show 2 * r + 1 < 2 * i + 1 by omega, show 2 * r + 1 < 2 * i by omega]
  ·simp [h1, show ¬ 2 * r < 2 * i + 1 by omega, show ¬ 2 * r + 1 < 2 * i + 1 by omega, show ¬ 2 * r + 1 < 2 * i by omega]
theorem qX (a : Nat → Nat) (k i : Nat) : pw a k (2 * i) i = 0 := by
 unfold pw;rw [if_neg zw, if_neg zw]
theorem qV {a : Nat → Nat} {k i : Nat} (h : 2 * i + 1 < k) (r : Nat) : pw a k (2 * i + 1 + 1) r = if r = i then a (2 * i) + a (2 * i + 1) * 4294967296 else pw a k (2 * i + 1) r := by
 unfold pw
 by_cases he : r = i
 ·subst he
  simp [oO h, oO (show 2 * r < k by omega), show 2 * r < 2 * r + 1 + 1 by omega]
 ·rw [if_neg he]
  by_cases h1 : r < i
  ·simp [show 2 * r < 2 * i + 1 + 1 by omega, show 2 * r < 2 * i + 1 by omega, show 2 * r + 1 < 2 * i + 1 + 1 by omega, show 2 * r + 1 < 2 * i + 1 by omega]
  ·simp [show ¬ 2 * r < 2 * i + 1 + 1 by omega, show ¬ 2 * r < 2 * i + 1 by omega, show ¬ 2 * r + 1 < 2 * i + 1 + 1 by omega, show ¬ 2 * r + 1 < 2 * i + 1 by omega]
theorem qW {a : Nat → Nat} {k i : Nat} (h : 2 * i + 1 < k) : pw a k (2 * i + 1) i = a (2 * i) := by
 rw [lY zw]
 simp
theorem lG {f f' : Nat → Nat} {i z q : Nat} (hq : q = i) (h : ∀ r, f' r = if r = i then z else f r) (r : Nat) : upd (ug f) q (.int .u64 (z : Nat)) r = ug f' r := by
 subst hq;unfold upd ug;rw [h]
 split <;> rfl
theorem or_a {X d : Nat} (hX : X = 0) (hd : d < 4294967296) : arith .or .u64 ((X : Nat) : Int) ((d * 1 : Nat) : Int) = some (.int .u64 ((d : Nat) : Int)) := by
 subst hX;have h := wT (a := 0) (c := ((d : Nat) : Int)) (D := 1) 0 rfl zo zo zw zw;rw [Int.mul_one, Int.zero_add] at h;rw [Nat.mul_one];exact h
theorem or_b {X lo d : Nat} (hX : X = lo) (hl : lo < 4294967296) (hd : d < 4294967296) : arith .or .u64 ((X : Nat) : Int) ((d * 4294967296 : Nat) : Int) = some (.int .u64 ((lo + d * 4294967296 : Nat) : Int)) := by
 subst hX;have h := wT (a := ((X : Nat) : Int)) (c := ((d : Nat) : Int)) (D := 4294967296) 32 rfl zw zw zw zw;rw [Int.natCast_mul, Int.natCast_add, Int.natCast_mul];exact h
theorem rK (x y : Int) : 0 ≤ Rd.cmp x y ↔ y ≤ x := by
 unfold Rd.cmp
 split
 ·constructor <;> intro h <;> omega
 ·split <;> constructor <;> intro h <;> omega
theorem sY (x : Int) : (x.tmod ((2 ^ 128 : Nat) : Int) + ((2 ^ 128 : Nat) : Int)) % 340282366920938463463374607431768211456 = x % 340282366920938463463374607431768211456 := by
 have h := Int.mul_tdiv_add_tmod x ((2 ^ 128 : Nat) : Int);obtain ⟨q, hq⟩ : ∃ q, q = x.tdiv ((2 ^ 128 : Nat) : Int) := ⟨_, rfl⟩;obtain ⟨r, hr⟩ : ∃ r, r = x.tmod ((2 ^ 128 : Nat) : Int) := ⟨_, rfl⟩;rw [← hq, ← hr] at h;rw [← hr];rw [show ((2 ^ 128 : Nat) : Int) = 340282366920938463463374607431768211456 from rfl] at h ⊢;omega
/-- two's complement in two words -/
def tw (x : Int) : Nat → Nat := fun i => if i = 0 then (x % 340282366920938463463374607431768211456).toNat % 18446744073709551616 else (x % 340282366920938463463374607431768211456).toNat / 18446744073709551616
theorem bn4 (a : Nat → Nat) : bn a 4 = a 0 + a 1 * 4294967296 + a 2 * 18446744073709551616 + a 3 * 79228162514264337593543950336 := by
 simp [bn]
theorem pad_mod {a : Nat → Nat} {k : Nat} (ha : ∀ i, i < k → a i < 4294967296) : bn (pad a k) 4 = bn a k % 340282366920938463463374607431768211456 := by
 rcases Nat.lt_or_ge 4 k with h | h
 ·have h1 := iO a 4 (k - 4);rw [show 4 + (k - 4) = k by omega] at h1;have h2 : bn (pad a k) 4 = bn a 4 := iP fun i hi => oO zw;have h3 := kD (a := a) (n := 4) fun i hi => ha i zw;rw [h1, h2, show (4294967296 : Nat) ^ 4 = 340282366920938463463374607431768211456 from rfl, Nat.add_mul_mod_self_right, Nat.mod_eq_of_lt h3]
 ·rw [pD h];have h3 := kD ha;have h4 := mN h;exact (Nat.mod_eq_of_lt (Nat.lt_of_lt_of_le h3 h4)).symm
theorem vD {a : Nat → Nat} {k : Nat} {x y : Int} (ha : ∀ i, i < k → a i < 4294967296) (hb : bn a k = y.natAbs) (hy : 0 ≤ y) (hxy : y % 340282366920938463463374607431768211456 = x % 340282366920938463463374607431768211456) : ∀ r, r < 2 → pw a k 4 r = tw x r := by
 intro r hr;have h1 := pad_mod ha;rw [hb, bn4] at h1
 have hp : ∀ i, pad a k i < 4294967296 := fun i => by
  unfold pad
  split
  ·exact ha i ‹_›
  ·decide
 have p0 := hp 0;have p1 := hp 1;have p2 := hp 2;have p3 := hp 3
 have h2 : (x % 340282366920938463463374607431768211456).toNat = y.natAbs % 340282366920938463463374607431768211456 := by rw [← hxy]; omega
 unfold tw;rw [h2, ← h1];rcases (show r = 0 ∨ r = 1 by omega) with rfl | rfl
 ·simp only [pw, Nat.mul_zero, Nat.zero_add, if_true, show (0 : Nat) < 4 by decide, show (1 : Nat) < 4 by decide];omega
 ·simp only [pw, Nat.mul_one, show ¬ (1 : Nat) = 0 by decide, if_false, show (2 : Nat) < 4 by decide, show 2 + 1 < 4 by decide, if_true, show 2 + 1 = 3 from rfl];omega
theorem mk25 : (Tryz.prog.info? 25).map (fun i => (i.size, i.bytes, i.zero)) = some (1, 8, some (.int .u64 0)) := by kernel_rfl
set_option maxHeartbeats 3200000 in
theorem uE {w : World} (s : Value) (x : Int) (h1 : Mz w (fun g => g < w.heap.size) s x.natAbs) (hx : x.natAbs < midN) (hc : 0 ≤ x ∧ x < ((2 ^ 127 : Nat) : Int)) :
 Ret Tryz.prog 39 #[.agg #[.bool (decide (x < 0)), s], .int .i64 2] w fun v w' => ∃ g b, v = .tuple #[.slice (some ⟨g, 0, none⟩) 2 2, .bool b] ∧ w.heap.size ≤ g ∧ g < w'.heap.size ∧ Rd w' g 0 2 (ug (tw x)) ∧ (b = true ↔ -((2 ^ 127 : Nat) : Int) ≤ x ∧ x < ((2 ^ 127 : Nat) : Int)) ∧ Same [] w w' := by
 have hS := Same.refl [] w;obtain ⟨H, hH⟩ : ∃ H, H = w.heap.size := ⟨_, rfl⟩;have hw0 := Nat.le_of_eq hH;rw [← hH] at h1 ⊢;have hm9 := gD;have hm8 := iD;have hr9 := gG x (y := ((2 ^ 128 : Nat) : Int)) zo
 have hcl : Rd.cmp x ((2 ^ 127 : Nat) : Int) = -1 := by unfold Rd.cmp; rw [if_pos zw]
 have ht7 : (((2 ^ 127 : Nat) : Int)).natAbs < topN := by rw [Int.natAbs_natCast]; exact gX zo
 have ht8 : (((2 ^ 128 : Nat) : Int)).natAbs < topN := by rw [Int.natAbs_natCast]; exact gX zo
 refine aS Tryz.func39 Tryz.ntmps39 rfl rfl (aD (aB (cA rfl rfl rfl ?_)));intro w1 hn hs;replace hw0 := hs.le hw0;replace hS := hS.trans hs;replace h1 := h1.same hs;obtain ⟨bL, hbL⟩ : ∃ x, x = w.heap.size := ⟨_, rfl⟩
 have hL : WB w1 bL (decide (x < 0)) s := by rw [hn, hbL]; exact WB.box _ _ _
 rw [← hbL];have hbLH : H ≤ bL := by omega
 have hw01 := hw0;have hbLl := hL.lt;clear hn hs;refine aF rfl rfl (aF rfl rfl (aG (aE (aD (aB (aA rfl rfl ?_))))))
 (refine aI rfl rfl (dE (aV ?_ ?_)) rfl ?_; (omega); (omega))
 (refine aI rfl rfl (cT (aV ?_ ?_)) rfl ?_; (omega); (omega))
 have hlL := hL.lt;refine aR rfl rfl nK rfl rfl (nI 127 zo) ?_;rintro v9 w2 ⟨⟨s9, rfl, hp⟩, hs⟩;replace hp := hp.mono (J := fun g => H ≤ g ∧ g ≠ bL) (fun g h _ => ⟨by omega, by omega⟩);replace hw0 := hs.le hw0;replace hS := hS.trans hs;replace h1 := h1.same hs;replace hL := hL.same hs;refine bF dJ rfl rfl ?_;intro w3 hn hs;obtain ⟨b6, hb6⟩ : ∃ x, x = w2.heap.size := ⟨_, rfl⟩
 have h6 : Row w3 b6 29 2 (fun i => (#[.bool false, .slice none 0 0] : Array Value).getD i undef) := by
  rw [hn, hb6];exact Row.alloc _ _ _
 rw [← hb6];have hHb6 : H ≤ b6 := by omega
 have qlb6hL := hL.lt;have qlb6h6 := h6.lt;replace hp := hp.ne (b := b6) zw;replace hw0 := hs.le hw0;replace hS := hS.trans hs;replace h1 := h1.same hs;replace hL := hL.same hs;replace hp := hp.same hs;have b6l := h6.lt;clear hn hs;refine aU (n := 2) rfl rfl cI rfl (bJ hp.one) h6 zo ?_;intro w4 hn9 hs;have h6 : WB w4 b6 (decide _) s9 := hn9.congr fun i hi => aN (g := wF _ _) hi;replace hS := hS.trans hs;replace hw0 := hs.le hw0;clear hn9;replace hL := hL.same hs;replace hp := hp.same hs;replace h1 := h1.same hs;refine aG (aE (aD ?_));replace hw0 := (aC _).le hw0;replace hS := hS.trans (aC _);replace h1 := h1.same (aC _);replace hL := hL.same (aC _);replace h6 := h6.same (aC _);replace hp := hp.same (aC _);refine cX (fun wS => WB wS bL (decide (x < 0)) s ∧ WB wS b6 (decide (((2 ^ 127 : Nat) : Int) < 0)) s9) [] (.cons 0 (.cons 1 (.cons 2 (.cons 3 (.cons 4 (.cons 5 (.cons 6 (.cons 7 (.cons 8 (.cons 9 (.cons 10 (.cons 11 .nil)))))))))))) cL zy ⟨hL, h6⟩ (cG rfl aH rfl u29 rfl cI (fun w9 h9 => h9.1.rd) rfl (cG rfl aH rfl u29 rfl cI (fun w9 h9 => h9.2.rd) rfl (bW rfl aH rfl rfl oY rfl rfl (gN s x h1.ins zw s9 ((2 ^ 127 : Nat) : Int) hp.ins ht7) ?_)));rintro _ w5 ⟨rfl, hs⟩;replace hw0 := hs.le hw0;replace hS := hS.trans hs;replace h1 := h1.same hs;replace hL := hL.same hs;replace h6 := h6.same hs;replace hp := hp.same hs;refine aQ rfl ⟨hL, h6⟩ (dW rfl aH rfl rfl rfl rfl (bH rfl aH rfl rfl (cG rfl (cZ rfl rfl zz) rfl u29 rfl cI (fun w9 h9 => h9.1.rd) rfl (cG rfl (cZ rfl rfl zz) rfl u29 rfl cI (fun w9 h9 => h9.2.rd) rfl (bW rfl (cZ rfl rfl zz) rfl rfl cf40 rfl rfl (mA s9 ((2 ^ 127 : Nat) : Int) hp.ins ht7) ?_)))));rintro v9 w6 ⟨⟨s8, rfl, hn⟩, hs⟩;replace hw0 := hs.le hw0;replace hS := hS.trans hs;replace h1 := h1.same hs;replace hL := hL.same hs;replace h6 := h6.same hs;refine aQ rfl ⟨hL, h6⟩ (bW rfl (cZ rfl rfl zz) rfl rfl oY rfl rfl (gN s x h1.ins zw s8 (-((2 ^ 127 : Nat) : Int)) hn.ins (by rw [Int.natAbs_neg]; exact ht7)) ?_);rintro _ w7 ⟨rfl, hs⟩;clear hn;replace hw0 := hs.le hw0;replace hS := hS.trans hs;replace h1 := h1.same hs;replace hL := hL.same hs;replace h6 := h6.same hs;refine aQ rfl ⟨hL, h6⟩ (dW rfl (cZ rfl rfl zz) rfl rfl rfl rfl (fA rfl aH rfl zz rfl rfl (dC rfl aH rfl rfl (cO (aE (aD (aD (aB (aO rfl dQ rfl (aL rfl u4 rfl hL.c0 rfl (aG (aE ?_))))))))))));refine aK rfl (fun h208 => ?_) (fun h208 => ?_)
 ·simp only [decide_eq_true_eq] at h208;omega
 ·simp only [decide_eq_false_iff_not, Int.not_lt] at h208;refine aX (aE (aD (aB (aA rfl rfl ?_))));have hlLM := hL.lt;replace h1 := h1.ne (b := w7.heap.size) (Nat.le_refl _);obtain ⟨bM, hbM⟩ : ∃ x, x = w7.heap.size := ⟨_, rfl⟩;refine jB (n := 2) rfl rfl u22 mk25 rfl zo zw rfl rfl ?_;rw [← hbM];intro w8 hM hs;replace hw0 := hs.le hw0;replace hS := hS.trans hs;replace h1 := h1.same hs;replace hL := hL.same hs;clear hs;refine aF rfl rfl (aG (aE (aD (aD (aB (aA rfl rfl (bB rfl u22 rfl (aA rfl rfl (aG (aE (bN ?_)))))))))));have hYd := h1;obtain ⟨k, a, hd, ha, hNa, hba⟩ := hYd;obtain ⟨Ay, cy, rfl⟩ := hd.shape;have hbLM : bL < bM := by omega
  have hHM : H ≤ bM := by omega
  replace hd := hd.mono (J := fun g => g ≠ bL ∧ g ≠ bM) (fun g h _ => ⟨by omega, by omega⟩)
  replace hM : Row w8 bM 25 2 (ug (pw a k (2 * 0))) := by rw [Nat.mul_zero, oM]; exact hM
  refine dR (fun i : Nat => [(2, .pointer (some ⟨bL, 0, none⟩)), (7, .bool (decide (Rd.cmp x (-((2 ^ 127 : Nat) : Int)) ≥ 0))), (10, .slice (some ⟨bM, 0, none⟩) 2 2), (46, .int .i64 (2 : Nat)), (47, .int .i64 (i : Nat))]) (fun m i w' => i + m = 2 ∧ H ≤ w'.heap.size ∧ Same [] w w' ∧ WB w' bL (decide (x < 0)) (.slice Ay k cy) ∧ Mg w' (fun g => g ≠ bL ∧ g ≠ bM) (.slice Ay k cy) k a ∧ Row w' bM 25 2 (ug (pw a k (2 * i)))) 2 0 ⟨rfl, rfl, rfl, rfl, rfl, trivial⟩ ⟨rfl, hw0, hS, hL, hd, hM⟩ ?_;clear hw0 hS hL hd hM h1;rintro m i w9 ⟨hm, hw0, hS, hL, hd, hM⟩;dsimp only;rcases (show m = 0 ∨ 0 < m by omega) with hm0 | hm0
  ·obtain rfl : i = 2 := by omega
   refine aD (aB (aI rfl rfl rfl rfl (aG (aE (aD ?_)))));refine aK rfl (fun h213 => ?_) (fun h213 => ?_)
   ·simp only [decide_eq_true_eq] at h213;omega
   ·simp only [decide_eq_false_iff_not, Int.not_lt] at h213;refine dG rfl (aE (aD (aB (aA rfl rfl (aA rfl rfl (aF rfl rfl (aF rfl rfl (aG (aE (aZ rfl rfl ?_))))))))));refine ⟨bM, _, rfl, hHM, hM.lt, (Row.rd hM 0 2 zo).congr fun r hr => (by rw [Nat.zero_add]; show Value.int .u64 _ = Value.int .u64 _; rw [vD ha hba zw rfl r hr]), ?_, hS⟩;rw [decide_eq_true_eq, ge_iff_le, rK];omega
  ·have hi2 : i < 2 := by omega
   refine aD (aB (aI rfl rfl rfl rfl (aG (aE (aD ?_)))));refine aK rfl (fun h213 => ?_) (fun h213 => ?_)
   ·simp only [decide_eq_true_eq] at h213;refine aX (aE (aD (bN (aD (aB (aA rfl rfl (aF rfl rfl (aG (aE (aD (aB (aF rfl rfl (aG (aE (bN (dR (fun j : Nat => [(2, .pointer (some ⟨bL, 0, none⟩)), (7, .bool (decide (Rd.cmp x (-((2 ^ 127 : Nat) : Int)) ≥ 0))), (10, .slice (some ⟨bM, 0, none⟩) 2 2), (11, .int .i64 (i : Nat)), (12, .int .i64 (j : Nat)), (46, .int .i64 (2 : Nat)), (47, .int .i64 (i : Nat))]) (fun m2 j w' => j + m2 = 2 ∧ H ≤ w'.heap.size ∧ Same [] w w' ∧ WB w' bL (decide (x < 0)) (.slice Ay k cy) ∧ Mg w' (fun g => g ≠ bL ∧ g ≠ bM) (.slice Ay k cy) k a ∧ Row w' bM 25 2 (ug (pw a k (2 * i + j)))) 2 0 ⟨rfl, rfl, rfl, rfl, rfl, rfl, rfl, trivial⟩ ⟨rfl, hw0, hS, hL, hd, hM⟩ ?_))))))))))))))));clear hw0 hS hL hd hM;rintro m2 j w10 ⟨hm2, hw0, hS, hL, hd, hM⟩;dsimp only;rcases (show m2 = 0 ∨ 0 < m2 ∧ ¬ 2 * i + j < k ∨ 0 < m2 ∧ j = 0 ∧ 2 * i + j < k ∨ 0 < m2 ∧ j = 1 ∧ 2 * i + j < k by omega) with hm3 | ⟨hm3, hjk⟩ | ⟨hm3, hj, hjk⟩ | ⟨hm3, hj, hjk⟩
    ·obtain rfl : j = 2 := by omega
     refine aD (aD (aB (aA rfl rfl (aI rfl rfl rfl rfl (aG (aE ?_))))));refine aK rfl (fun h214 => ?_) (fun h214 => ?_)
     ·simp only [decide_eq_true_eq] at h214;omega
     ·simp only [decide_eq_false_iff_not, Int.not_lt] at h214;refine dG rfl (cQ (aE (aB ?_)))
      (refine aI rfl rfl (cJ (aV ?_ ?_)) rfl ?_; (omega); (omega))
      exact aA rfl rfl (aG (bZ (m - 1) (i + 1) zw ⟨rfl, rfl, rfl, rfl, eF rfl zw, trivial⟩ ⟨by omega, hw0, hS, hL, hd, hM⟩))
    ·refine aD (aD (aB (aA rfl rfl (aI rfl rfl rfl rfl (aG (aE ?_))))));refine aK rfl (fun h214 => ?_) (fun h214 => ?_)
     ·simp only [decide_eq_true_eq] at h214;refine aX (aE (aD (bN (aD (aB (aA rfl rfl ?_))))))
      (refine aI rfl rfl (dE (aV ?_ ?_)) rfl ?_; (omega); (omega))
      refine aA rfl rfl ?_
      (refine aI rfl rfl (cJ (aV ?_ ?_)) rfl ?_; (omega); (omega))
      refine aO rfl dM rfl (aL rfl u27 rfl hL.c1 rfl (bB rfl u27 rfl (aI rfl rfl rfl rfl (aG (aE ?_)))));refine aK rfl (fun h215 => ?_) (fun h215 => ?_)
      ·simp only [decide_eq_true_eq] at h215;omega
      ·simp only [decide_eq_false_iff_not, Int.not_lt] at h215;refine aX (cQ (aE (aB (aA rfl rfl ?_))))
       (refine aI rfl rfl (cJ (aV ?_ ?_)) rfl ?_; (omega); (omega))
       refine aF rfl rfl (aG ?_);rw [← oN hjk] at hM;exact bZ (m2 - 1) (j + 1) zw ⟨rfl, rfl, rfl, rfl, eF rfl zw, rfl, rfl, trivial⟩ ⟨by omega, hw0, hS, hL, hd, hM⟩
     ·simp only [decide_eq_false_iff_not, Int.not_lt] at h214;omega
    ·subst hj;obtain ⟨gd, od, rfl, hgd, hgdl, hgdc, hrd⟩ := hd.lit zw;have had := ha (2 * i) zw;refine aD (aD (aB (aA rfl rfl (aI rfl rfl rfl rfl (aG (aE ?_))))));refine aK rfl (fun h214 => ?_) (fun h214 => ?_)
     ·simp only [decide_eq_true_eq] at h214;refine aX (aE (aD (bN (aD (aB (aA rfl rfl ?_))))))
      (refine aI rfl rfl (dE (aV ?_ ?_)) rfl ?_; (omega); (omega))
      refine aA rfl rfl ?_
      (refine aI rfl rfl (cJ (aV ?_ ?_)) rfl ?_; (omega); (omega))
      refine aO rfl dM rfl (aL rfl u27 rfl hL.c1 rfl (bB rfl u27 rfl (aI rfl rfl rfl rfl (aG (aE ?_)))));refine aK rfl (fun h215 => ?_) (fun h215 => ?_)
      ·simp only [decide_eq_true_eq] at h215;refine cP [] cL zy ?_;replace hw0 := (aC _).le hw0;replace hS := hS.trans (aC _);replace hL := hL.same (aC _);replace hM := hM.same (aC _);replace hd := hd.same (aC _);refine aA rfl rfl (aA rfl rfl (cC rfl rfl u22 fE zw zw rfl (aL rfl u25 rfl (hM.cell zw) rfl (aO rfl dM rfl (aL rfl u27 rfl hL.c1 rfl (aA rfl rfl ?_))))))
       (refine aI rfl rfl (dE (aV ?_ ?_)) rfl ?_; (omega); (omega))
       refine aA rfl rfl ?_
       (refine aI rfl rfl (cJ (aV ?_ ?_)) rfl ?_; (omega); (omega))
       refine cC rfl rfl u27 eC zw zw rfl (aL rfl u67 rfl (show _ = some (Value.int .u32 (a (2 * i) : Nat)) by rw [Nat.mul_one, show Int.toNat _ = 2 * i by omega]; exact hrd (2 * i) zw) rfl ?_)
       (refine cW rfl u67 u25 (dD ?_ ?_) rfl ?_; (omega); (omega))
       refine aA rfl rfl ?_
       (refine aI rfl rfl (dE (aV ?_ ?_)) rfl ?_; (omega); (omega))
       refine eQ rfl rfl zw (z := ((a (2 * i) * 1 : Nat) : Int)) (nO (D := 1) rfl zw) rfl (aI rfl rfl (or_a (by rw [show 0 + Int.toNat ((i : Nat) : Int) * 1 = i by omega]; exact qX _ _ _) had) rfl (cC rfl rfl u22 fE zw zw rfl (cM rfl rfl rfl fE (hM.cell zw) (hM.fz _) ?_)));intro w11 hn hs;replace hM := hM.set' hn;replace hw0 := hs.le hw0;replace hS := hS.trans hs;replace hL := hL.same hs;replace hd := hd.same hs;clear hn hs;refine aG (cQ (aE (aB (aA rfl rfl ?_))))
       (refine aI rfl rfl (cJ (aV ?_ ?_)) rfl ?_; (omega); (omega))
       refine aF rfl rfl (aG ?_);replace hM := hM.congr fun r _ => lG zw (lY (a := a) (k := k) (i := i) zw) r;exact bZ (m2 - 1) (0 + 1) zw ⟨rfl, rfl, rfl, rfl, eF rfl zw, rfl, rfl, trivial⟩ ⟨by omega, hw0, hS, hL, hd, hM⟩
      ·simp only [decide_eq_false_iff_not, Int.not_lt] at h215;omega
     ·simp only [decide_eq_false_iff_not, Int.not_lt] at h214;omega
    ·subst hj;obtain ⟨gd, od, rfl, hgd, hgdl, hgdc, hrd⟩ := hd.lit zw;have had := ha (2 * i + 1) zw;have hae := ha (2 * i) zw;refine aD (aD (aB (aA rfl rfl (aI rfl rfl rfl rfl (aG (aE ?_))))));refine aK rfl (fun h214 => ?_) (fun h214 => ?_)
     ·simp only [decide_eq_true_eq] at h214;refine aX (aE (aD (bN (aD (aB (aA rfl rfl ?_))))))
      (refine aI rfl rfl (dE (aV ?_ ?_)) rfl ?_; (omega); (omega))
      refine aA rfl rfl ?_
      (refine aI rfl rfl (cJ (aV ?_ ?_)) rfl ?_; (omega); (omega))
      refine aO rfl dM rfl (aL rfl u27 rfl hL.c1 rfl (bB rfl u27 rfl (aI rfl rfl rfl rfl (aG (aE ?_)))));refine aK rfl (fun h215 => ?_) (fun h215 => ?_)
      ·simp only [decide_eq_true_eq] at h215;refine cP [] cL zy ?_;replace hw0 := (aC _).le hw0;replace hS := hS.trans (aC _);replace hL := hL.same (aC _);replace hM := hM.same (aC _);replace hd := hd.same (aC _);refine aA rfl rfl (aA rfl rfl (cC rfl rfl u22 fE zw zw rfl (aL rfl u25 rfl (hM.cell zw) rfl (aO rfl dM rfl (aL rfl u27 rfl hL.c1 rfl (aA rfl rfl ?_))))))
       (refine aI rfl rfl (dE (aV ?_ ?_)) rfl ?_; (omega); (omega))
       refine aA rfl rfl ?_
       (refine aI rfl rfl (cJ (aV ?_ ?_)) rfl ?_; (omega); (omega))
       refine cC rfl rfl u27 eC zw zw rfl (aL rfl u67 rfl (show _ = some (Value.int .u32 (a (2 * i + 1) : Nat)) by rw [Nat.mul_one, show Int.toNat _ = 2 * i + 1 by omega]; exact hrd (2 * i + 1) zw) rfl ?_)
       (refine cW rfl u67 u25 (dD ?_ ?_) rfl ?_; (omega); (omega))
       refine aA rfl rfl ?_
       (refine aI rfl rfl (dE (aV ?_ ?_)) rfl ?_; (omega); (omega))
       refine eQ rfl rfl zw (z := ((a (2 * i + 1) * 4294967296 : Nat) : Int)) (nO (D := 4294967296) rfl zw) rfl (aI rfl rfl (or_b (by rw [show 0 + Int.toNat ((i : Nat) : Int) * 1 = i by omega]; exact qW zw) hae had) rfl (cC rfl rfl u22 fE zw zw rfl (cM rfl rfl rfl fE (hM.cell zw) (hM.fz _) ?_)));intro w11 hn hs;replace hM := hM.set' hn;replace hw0 := hs.le hw0;replace hS := hS.trans hs;replace hL := hL.same hs;replace hd := hd.same hs;clear hn hs;refine aG (cQ (aE (aB (aA rfl rfl ?_))))
       (refine aI rfl rfl (cJ (aV ?_ ?_)) rfl ?_; (omega); (omega))
       refine aF rfl rfl (aG ?_);replace hM := hM.congr fun r _ => lG zw (qV (a := a) (k := k) (i := i) zw) r;exact bZ (m2 - 1) (1 + 1) zw ⟨rfl, rfl, rfl, rfl, eF rfl zw, rfl, rfl, trivial⟩ ⟨by omega, hw0, hS, hL, hd, hM⟩
      ·simp only [decide_eq_false_iff_not, Int.not_lt] at h215;omega
     ·simp only [decide_eq_false_iff_not, Int.not_lt] at h214;omega
   ·simp only [decide_eq_false_iff_not, Int.not_lt] at h213;omega
set_option maxHeartbeats 3200000 in
theorem uD {w : World} (s : Value) (x : Int) (h1 : Mz w (fun g => g < w.heap.size) s x.natAbs) (hx : x.natAbs < midN) (hc : ((2 ^ 127 : Nat) : Int) ≤ x) :
 Ret Tryz.prog 39 #[.agg #[.bool (decide (x < 0)), s], .int .i64 2] w fun v w' => ∃ g b, v = .tuple #[.slice (some ⟨g, 0, none⟩) 2 2, .bool b] ∧ w.heap.size ≤ g ∧ g < w'.heap.size ∧ Rd w' g 0 2 (ug (tw x)) ∧ (b = true ↔ -((2 ^ 127 : Nat) : Int) ≤ x ∧ x < ((2 ^ 127 : Nat) : Int)) ∧ Same [] w w' := by
 have hS := Same.refl [] w;obtain ⟨H, hH⟩ : ∃ H, H = w.heap.size := ⟨_, rfl⟩;have hw0 := Nat.le_of_eq hH;rw [← hH] at h1 ⊢;have hm9 := gD;have hm8 := iD;have hr9 := gG x (y := ((2 ^ 128 : Nat) : Int)) zo
 have hcl : ¬ Rd.cmp x ((2 ^ 127 : Nat) : Int) < 0 := by rw [Int.not_lt, rK]; exact hc
 have ht7 : (((2 ^ 127 : Nat) : Int)).natAbs < topN := by rw [Int.natAbs_natCast]; exact gX zo
 have ht8 : (((2 ^ 128 : Nat) : Int)).natAbs < topN := by rw [Int.natAbs_natCast]; exact gX zo
 refine aS Tryz.func39 Tryz.ntmps39 rfl rfl (aD (aB (cA rfl rfl rfl ?_)));intro w1 hn hs;replace hw0 := hs.le hw0;replace hS := hS.trans hs;replace h1 := h1.same hs;obtain ⟨bL, hbL⟩ : ∃ x, x = w.heap.size := ⟨_, rfl⟩
 have hL : WB w1 bL (decide (x < 0)) s := by rw [hn, hbL]; exact WB.box _ _ _
 rw [← hbL];have hbLH : H ≤ bL := by omega
 have hw01 := hw0;have hbLl := hL.lt;clear hn hs;refine aF rfl rfl (aF rfl rfl (aG (aE (aD (aB (aA rfl rfl ?_))))))
 (refine aI rfl rfl (dE (aV ?_ ?_)) rfl ?_; (omega); (omega))
 (refine aI rfl rfl (cT (aV ?_ ?_)) rfl ?_; (omega); (omega))
 have hlL := hL.lt;refine aR rfl rfl nK rfl rfl (nI 127 zo) ?_;rintro v9 w2 ⟨⟨s9, rfl, hp⟩, hs⟩;replace hp := hp.mono (J := fun g => H ≤ g ∧ g ≠ bL) (fun g h _ => ⟨by omega, by omega⟩);replace hw0 := hs.le hw0;replace hS := hS.trans hs;replace h1 := h1.same hs;replace hL := hL.same hs;refine bF dJ rfl rfl ?_;intro w3 hn hs;obtain ⟨b6, hb6⟩ : ∃ x, x = w2.heap.size := ⟨_, rfl⟩
 have h6 : Row w3 b6 29 2 (fun i => (#[.bool false, .slice none 0 0] : Array Value).getD i undef) := by
  rw [hn, hb6];exact Row.alloc _ _ _
 rw [← hb6];have hHb6 : H ≤ b6 := by omega
 have qlb6hL := hL.lt;have qlb6h6 := h6.lt;replace hp := hp.ne (b := b6) zw;replace hw0 := hs.le hw0;replace hS := hS.trans hs;replace h1 := h1.same hs;replace hL := hL.same hs;replace hp := hp.same hs;have b6l := h6.lt;clear hn hs;refine aU (n := 2) rfl rfl cI rfl (bJ hp.one) h6 zo ?_;intro w4 hn9 hs;have h6 : WB w4 b6 (decide _) s9 := hn9.congr fun i hi => aN (g := wF _ _) hi;replace hS := hS.trans hs;replace hw0 := hs.le hw0;clear hn9;replace hL := hL.same hs;replace hp := hp.same hs;replace h1 := h1.same hs;refine aG (aE (aD ?_));replace hw0 := (aC _).le hw0;replace hS := hS.trans (aC _);replace h1 := h1.same (aC _);replace hL := hL.same (aC _);replace h6 := h6.same (aC _);replace hp := hp.same (aC _);refine cX (fun wS => WB wS bL (decide (x < 0)) s ∧ WB wS b6 (decide (((2 ^ 127 : Nat) : Int) < 0)) s9) [] (.cons 0 (.cons 1 (.cons 2 (.cons 3 (.cons 4 (.cons 5 (.cons 6 (.cons 7 (.cons 8 (.cons 9 (.cons 10 (.cons 11 .nil)))))))))))) cL zy ⟨hL, h6⟩ (cG rfl aH rfl u29 rfl cI (fun w9 h9 => h9.1.rd) rfl (cG rfl aH rfl u29 rfl cI (fun w9 h9 => h9.2.rd) rfl (bW rfl aH rfl rfl oY rfl rfl (gN s x h1.ins zw s9 ((2 ^ 127 : Nat) : Int) hp.ins ht7) ?_)));rintro _ w5 ⟨rfl, hs⟩;replace hw0 := hs.le hw0;replace hS := hS.trans hs;replace h1 := h1.same hs;replace hL := hL.same hs;replace h6 := h6.same hs;refine aQ rfl ⟨hL, h6⟩ (dW rfl aH rfl rfl rfl rfl (bH rfl aH rfl rfl (dB rfl rfl rfl rfl zz (dB rfl rfl rfl rfl zz (dB rfl rfl rfl rfl zz (dB rfl rfl rfl rfl zz (dB rfl rfl rfl rfl zz (hC rfl aH rfl zz rfl rfl (dC rfl aH rfl rfl (cO (aE (aD (aD (aB (aO rfl dQ rfl (aL rfl u4 rfl hL.c0 rfl (aG (aE ?_))))))))))))))))));refine aK rfl (fun h208 => ?_) (fun h208 => ?_)
 ·simp only [decide_eq_true_eq] at h208;omega
 ·simp only [decide_eq_false_iff_not, Int.not_lt] at h208;refine aX (aE (aD (aB (aA rfl rfl ?_))));have hlLM := hL.lt;replace h1 := h1.ne (b := w5.heap.size) (Nat.le_refl _);obtain ⟨bM, hbM⟩ : ∃ x, x = w5.heap.size := ⟨_, rfl⟩;refine jB (n := 2) rfl rfl u22 mk25 rfl zo zw rfl rfl ?_;rw [← hbM];intro w6 hM hs;replace hw0 := hs.le hw0;replace hS := hS.trans hs;replace h1 := h1.same hs;replace hL := hL.same hs;clear hs;refine aF rfl rfl (aG (aE (aD (aD (aB (aA rfl rfl (bB rfl u22 rfl (aA rfl rfl (aG (aE (bN ?_)))))))))));have hYd := h1;obtain ⟨k, a, hd, ha, hNa, hba⟩ := hYd;obtain ⟨Ay, cy, rfl⟩ := hd.shape;have hbLM : bL < bM := by omega
  have hHM : H ≤ bM := by omega
  replace hd := hd.mono (J := fun g => g ≠ bL ∧ g ≠ bM) (fun g h _ => ⟨by omega, by omega⟩)
  replace hM : Row w6 bM 25 2 (ug (pw a k (2 * 0))) := by rw [Nat.mul_zero, oM]; exact hM
  refine dR (fun i : Nat => [(2, .pointer (some ⟨bL, 0, none⟩)), (7, .bool false), (10, .slice (some ⟨bM, 0, none⟩) 2 2), (46, .int .i64 (2 : Nat)), (47, .int .i64 (i : Nat))]) (fun m i w' => i + m = 2 ∧ H ≤ w'.heap.size ∧ Same [] w w' ∧ WB w' bL (decide (x < 0)) (.slice Ay k cy) ∧ Mg w' (fun g => g ≠ bL ∧ g ≠ bM) (.slice Ay k cy) k a ∧ Row w' bM 25 2 (ug (pw a k (2 * i)))) 2 0 ⟨rfl, rfl, rfl, rfl, rfl, trivial⟩ ⟨rfl, hw0, hS, hL, hd, hM⟩ ?_;clear hw0 hS hL hd hM h1;rintro m i w7 ⟨hm, hw0, hS, hL, hd, hM⟩;dsimp only;rcases (show m = 0 ∨ 0 < m by omega) with hm0 | hm0
  ·obtain rfl : i = 2 := by omega
   refine aD (aB (aI rfl rfl rfl rfl (aG (aE (aD ?_)))));refine aK rfl (fun h213 => ?_) (fun h213 => ?_)
   ·simp only [decide_eq_true_eq] at h213;omega
   ·simp only [decide_eq_false_iff_not, Int.not_lt] at h213;refine dG rfl (aE (aD (aB (aA rfl rfl (aA rfl rfl (aF rfl rfl (aF rfl rfl (aG (aE (aZ rfl rfl ?_))))))))));refine ⟨bM, _, rfl, hHM, hM.lt, (Row.rd hM 0 2 zo).congr fun r hr => (by rw [Nat.zero_add]; show Value.int .u64 _ = Value.int .u64 _; rw [vD ha hba zw rfl r hr]), ?_, hS⟩;exact ⟨nofun, fun h => absurd h.2 zw⟩
  ·have hi2 : i < 2 := by omega
   refine aD (aB (aI rfl rfl rfl rfl (aG (aE (aD ?_)))));refine aK rfl (fun h213 => ?_) (fun h213 => ?_)
   ·simp only [decide_eq_true_eq] at h213;refine aX (aE (aD (bN (aD (aB (aA rfl rfl (aF rfl rfl (aG (aE (aD (aB (aF rfl rfl (aG (aE (bN (dR (fun j : Nat => [(2, .pointer (some ⟨bL, 0, none⟩)), (7, .bool false), (10, .slice (some ⟨bM, 0, none⟩) 2 2), (11, .int .i64 (i : Nat)), (12, .int .i64 (j : Nat)), (46, .int .i64 (2 : Nat)), (47, .int .i64 (i : Nat))]) (fun m2 j w' => j + m2 = 2 ∧ H ≤ w'.heap.size ∧ Same [] w w' ∧ WB w' bL (decide (x < 0)) (.slice Ay k cy) ∧ Mg w' (fun g => g ≠ bL ∧ g ≠ bM) (.slice Ay k cy) k a ∧ Row w' bM 25 2 (ug (pw a k (2 * i + j)))) 2 0 ⟨rfl, rfl, rfl, rfl, rfl, rfl, rfl, trivial⟩ ⟨rfl, hw0, hS, hL, hd, hM⟩ ?_))))))))))))))));clear hw0 hS hL hd hM;rintro m2 j w8 ⟨hm2, hw0, hS, hL, hd, hM⟩;dsimp only;rcases (show m2 = 0 ∨ 0 < m2 ∧ ¬ 2 * i + j < k ∨ 0 < m2 ∧ j = 0 ∧ 2 * i + j < k ∨ 0 < m2 ∧ j = 1 ∧ 2 * i + j < k by omega) with hm3 | ⟨hm3, hjk⟩ | ⟨hm3, hj, hjk⟩ | ⟨hm3, hj, hjk⟩
    ·obtain rfl : j = 2 := by omega
     refine aD (aD (aB (aA rfl rfl (aI rfl rfl rfl rfl (aG (aE ?_))))));refine aK rfl (fun h214 => ?_) (fun h214 => ?_)
     ·simp only [decide_eq_true_eq] at h214;omega
     ·simp only [decide_eq_false_iff_not, Int.not_lt] at h214;refine dG rfl (cQ (aE (aB ?_)))
      (refine aI rfl rfl (cJ (aV ?_ ?_)) rfl ?_; (omega); (omega))
      exact aA rfl rfl (aG (bZ (m - 1) (i + 1) zw ⟨rfl, rfl, rfl, rfl, eF rfl zw, trivial⟩ ⟨by omega, hw0, hS, hL, hd, hM⟩))
    ·refine aD (aD (aB (aA rfl rfl (aI rfl rfl rfl rfl (aG (aE ?_))))));refine aK rfl (fun h214 => ?_) (fun h214 => ?_)
     ·simp only [decide_eq_true_eq] at h214;refine aX (aE (aD (bN (aD (aB (aA rfl rfl ?_))))))
      (refine aI rfl rfl (dE (aV ?_ ?_)) rfl ?_; (omega); (omega))
      refine aA rfl rfl ?_
      (refine aI rfl rfl (cJ (aV ?_ ?_)) rfl ?_; (omega); (omega))
      refine aO rfl dM rfl (aL rfl u27 rfl hL.c1 rfl (bB rfl u27 rfl (aI rfl rfl rfl rfl (aG (aE ?_)))));refine aK rfl (fun h215 => ?_) (fun h215 => ?_)
      ·simp only [decide_eq_true_eq] at h215;omega
      ·simp only [decide_eq_false_iff_not, Int.not_lt] at h215;refine aX (cQ (aE (aB (aA rfl rfl ?_))))
       (refine aI rfl rfl (cJ (aV ?_ ?_)) rfl ?_; (omega); (omega))
       refine aF rfl rfl (aG ?_);rw [← oN hjk] at hM;exact bZ (m2 - 1) (j + 1) zw ⟨rfl, rfl, rfl, rfl, eF rfl zw, rfl, rfl, trivial⟩ ⟨by omega, hw0, hS, hL, hd, hM⟩
     ·simp only [decide_eq_false_iff_not, Int.not_lt] at h214;omega
    ·subst hj;obtain ⟨gd, od, rfl, hgd, hgdl, hgdc, hrd⟩ := hd.lit zw;have had := ha (2 * i) zw;refine aD (aD (aB (aA rfl rfl (aI rfl rfl rfl rfl (aG (aE ?_))))));refine aK rfl (fun h214 => ?_) (fun h214 => ?_)
     ·simp only [decide_eq_true_eq] at h214;refine aX (aE (aD (bN (aD (aB (aA rfl rfl ?_))))))
      (refine aI rfl rfl (dE (aV ?_ ?_)) rfl ?_; (omega); (omega))
      refine aA rfl rfl ?_
      (refine aI rfl rfl (cJ (aV ?_ ?_)) rfl ?_; (omega); (omega))
      refine aO rfl dM rfl (aL rfl u27 rfl hL.c1 rfl (bB rfl u27 rfl (aI rfl rfl rfl rfl (aG (aE ?_)))));refine aK rfl (fun h215 => ?_) (fun h215 => ?_)
      ·simp only [decide_eq_true_eq] at h215;refine cP [] cL zy ?_;replace hw0 := (aC _).le hw0;replace hS := hS.trans (aC _);replace hL := hL.same (aC _);replace hM := hM.same (aC _);replace hd := hd.same (aC _);refine aA rfl rfl (aA rfl rfl (cC rfl rfl u22 fE zw zw rfl (aL rfl u25 rfl (hM.cell zw) rfl (aO rfl dM rfl (aL rfl u27 rfl hL.c1 rfl (aA rfl rfl ?_))))))
       (refine aI rfl rfl (dE (aV ?_ ?_)) rfl ?_; (omega); (omega))
       refine aA rfl rfl ?_
       (refine aI rfl rfl (cJ (aV ?_ ?_)) rfl ?_; (omega); (omega))
       refine cC rfl rfl u27 eC zw zw rfl (aL rfl u67 rfl (show _ = some (Value.int .u32 (a (2 * i) : Nat)) by rw [Nat.mul_one, show Int.toNat _ = 2 * i by omega]; exact hrd (2 * i) zw) rfl ?_)
       (refine cW rfl u67 u25 (dD ?_ ?_) rfl ?_; (omega); (omega))
       refine aA rfl rfl ?_
       (refine aI rfl rfl (dE (aV ?_ ?_)) rfl ?_; (omega); (omega))
       refine eQ rfl rfl zw (z := ((a (2 * i) * 1 : Nat) : Int)) (nO (D := 1) rfl zw) rfl (aI rfl rfl (or_a (by rw [show 0 + Int.toNat ((i : Nat) : Int) * 1 = i by omega]; exact qX _ _ _) had) rfl (cC rfl rfl u22 fE zw zw rfl (cM rfl rfl rfl fE (hM.cell zw) (hM.fz _) ?_)));intro w9 hn hs;replace hM := hM.set' hn;replace hw0 := hs.le hw0;replace hS := hS.trans hs;replace hL := hL.same hs;replace hd := hd.same hs;clear hn hs;refine aG (cQ (aE (aB (aA rfl rfl ?_))))
       (refine aI rfl rfl (cJ (aV ?_ ?_)) rfl ?_; (omega); (omega))
       refine aF rfl rfl (aG ?_);replace hM := hM.congr fun r _ => lG zw (lY (a := a) (k := k) (i := i) zw) r;exact bZ (m2 - 1) (0 + 1) zw ⟨rfl, rfl, rfl, rfl, eF rfl zw, rfl, rfl, trivial⟩ ⟨by omega, hw0, hS, hL, hd, hM⟩
      ·simp only [decide_eq_false_iff_not, Int.not_lt] at h215;omega
     ·simp only [decide_eq_false_iff_not, Int.not_lt] at h214;omega
    ·subst hj;obtain ⟨gd, od, rfl, hgd, hgdl, hgdc, hrd⟩ := hd.lit zw;have had := ha (2 * i + 1) zw;have hae := ha (2 * i) zw;refine aD (aD (aB (aA rfl rfl (aI rfl rfl rfl rfl (aG (aE ?_))))));refine aK rfl (fun h214 => ?_) (fun h214 => ?_)
     ·simp only [decide_eq_true_eq] at h214;refine aX (aE (aD (bN (aD (aB (aA rfl rfl ?_))))))
      (refine aI rfl rfl (dE (aV ?_ ?_)) rfl ?_; (omega); (omega))
      refine aA rfl rfl ?_
      (refine aI rfl rfl (cJ (aV ?_ ?_)) rfl ?_; (omega); (omega))
      refine aO rfl dM rfl (aL rfl u27 rfl hL.c1 rfl (bB rfl u27 rfl (aI rfl rfl rfl rfl (aG (aE ?_)))));refine aK rfl (fun h215 => ?_) (fun h215 => ?_)
      ·simp only [decide_eq_true_eq] at h215;refine cP [] cL zy ?_;replace hw0 := (aC _).le hw0;replace hS := hS.trans (aC _);replace hL := hL.same (aC _);replace hM := hM.same (aC _);replace hd := hd.same (aC _);refine aA rfl rfl (aA rfl rfl (cC rfl rfl u22 fE zw zw rfl (aL rfl u25 rfl (hM.cell zw) rfl (aO rfl dM rfl (aL rfl u27 rfl hL.c1 rfl (aA rfl rfl ?_))))))
       (refine aI rfl rfl (dE (aV ?_ ?_)) rfl ?_; (omega); (omega))
       refine aA rfl rfl ?_
       (refine aI rfl rfl (cJ (aV ?_ ?_)) rfl ?_; (omega); (omega))
       refine cC rfl rfl u27 eC zw zw rfl (aL rfl u67 rfl (show _ = some (Value.int .u32 (a (2 * i + 1) : Nat)) by rw [Nat.mul_one, show Int.toNat _ = 2 * i + 1 by omega]; exact hrd (2 * i + 1) zw) rfl ?_)
       (refine cW rfl u67 u25 (dD ?_ ?_) rfl ?_; (omega); (omega))
       refine aA rfl rfl ?_
       (refine aI rfl rfl (dE (aV ?_ ?_)) rfl ?_; (omega); (omega))
       refine eQ rfl rfl zw (z := ((a (2 * i + 1) * 4294967296 : Nat) : Int)) (nO (D := 4294967296) rfl zw) rfl (aI rfl rfl (or_b (by rw [show 0 + Int.toNat ((i : Nat) : Int) * 1 = i by omega]; exact qW zw) hae had) rfl (cC rfl rfl u22 fE zw zw rfl (cM rfl rfl rfl fE (hM.cell zw) (hM.fz _) ?_)));intro w9 hn hs;replace hM := hM.set' hn;replace hw0 := hs.le hw0;replace hS := hS.trans hs;replace hL := hL.same hs;replace hd := hd.same hs;clear hn hs;refine aG (cQ (aE (aB (aA rfl rfl ?_))))
       (refine aI rfl rfl (cJ (aV ?_ ?_)) rfl ?_; (omega); (omega))
       refine aF rfl rfl (aG ?_);replace hM := hM.congr fun r _ => lG zw (qV (a := a) (k := k) (i := i) zw) r;exact bZ (m2 - 1) (1 + 1) zw ⟨rfl, rfl, rfl, rfl, eF rfl zw, rfl, rfl, trivial⟩ ⟨by omega, hw0, hS, hL, hd, hM⟩
      ·simp only [decide_eq_false_iff_not, Int.not_lt] at h215;omega
     ·simp only [decide_eq_false_iff_not, Int.not_lt] at h214;omega
   ·simp only [decide_eq_false_iff_not, Int.not_lt] at h213;omega
set_option maxHeartbeats 3200000 in
theorem uF {w : World} (s : Value) (x : Int) (h1 : Mz w (fun g => g < w.heap.size) s x.natAbs) (hx : x.natAbs < midN) (hc : x < 0) :
 Ret Tryz.prog 39 #[.agg #[.bool (decide (x < 0)), s], .int .i64 2] w fun v w' => ∃ g b, v = .tuple #[.slice (some ⟨g, 0, none⟩) 2 2, .bool b] ∧ w.heap.size ≤ g ∧ g < w'.heap.size ∧ Rd w' g 0 2 (ug (tw x)) ∧ (b = true ↔ -((2 ^ 127 : Nat) : Int) ≤ x ∧ x < ((2 ^ 127 : Nat) : Int)) ∧ Same [] w w' := by
 have hS := Same.refl [] w;obtain ⟨H, hH⟩ : ∃ H, H = w.heap.size := ⟨_, rfl⟩;have hw0 := Nat.le_of_eq hH;rw [← hH] at h1 ⊢;have hm9 := gD;have hm8 := iD;have hr9 := gG x (y := ((2 ^ 128 : Nat) : Int)) zo
 have hcl : Rd.cmp x ((2 ^ 127 : Nat) : Int) = -1 := by unfold Rd.cmp; rw [if_pos zw]
 have ht7 : (((2 ^ 127 : Nat) : Int)).natAbs < topN := by rw [Int.natAbs_natCast]; exact gX zo
 have ht8 : (((2 ^ 128 : Nat) : Int)).natAbs < topN := by rw [Int.natAbs_natCast]; exact gX zo
 refine aS Tryz.func39 Tryz.ntmps39 rfl rfl (aD (aB (cA rfl rfl rfl ?_)));intro w1 hn hs;replace hw0 := hs.le hw0;replace hS := hS.trans hs;replace h1 := h1.same hs;obtain ⟨bL, hbL⟩ : ∃ x, x = w.heap.size := ⟨_, rfl⟩
 have hL : WB w1 bL (decide (x < 0)) s := by rw [hn, hbL]; exact WB.box _ _ _
 rw [← hbL];have hbLH : H ≤ bL := by omega
 have hw01 := hw0;have hbLl := hL.lt;clear hn hs;refine aF rfl rfl (aF rfl rfl (aG (aE (aD (aB (aA rfl rfl ?_))))))
 (refine aI rfl rfl (dE (aV ?_ ?_)) rfl ?_; (omega); (omega))
 (refine aI rfl rfl (cT (aV ?_ ?_)) rfl ?_; (omega); (omega))
 have hlL := hL.lt;refine aR rfl rfl nK rfl rfl (nI 127 zo) ?_;rintro v9 w2 ⟨⟨s9, rfl, hp⟩, hs⟩;replace hp := hp.mono (J := fun g => H ≤ g ∧ g ≠ bL) (fun g h _ => ⟨by omega, by omega⟩);replace hw0 := hs.le hw0;replace hS := hS.trans hs;replace h1 := h1.same hs;replace hL := hL.same hs;refine bF dJ rfl rfl ?_;intro w3 hn hs;obtain ⟨b6, hb6⟩ : ∃ x, x = w2.heap.size := ⟨_, rfl⟩
 have h6 : Row w3 b6 29 2 (fun i => (#[.bool false, .slice none 0 0] : Array Value).getD i undef) := by
  rw [hn, hb6];exact Row.alloc _ _ _
 rw [← hb6];have hHb6 : H ≤ b6 := by omega
 have qlb6hL := hL.lt;have qlb6h6 := h6.lt;replace hp := hp.ne (b := b6) zw;replace hw0 := hs.le hw0;replace hS := hS.trans hs;replace h1 := h1.same hs;replace hL := hL.same hs;replace hp := hp.same hs;have b6l := h6.lt;clear hn hs;refine aU (n := 2) rfl rfl cI rfl (bJ hp.one) h6 zo ?_;intro w4 hn9 hs;have h6 : WB w4 b6 (decide _) s9 := hn9.congr fun i hi => aN (g := wF _ _) hi;replace hS := hS.trans hs;replace hw0 := hs.le hw0;clear hn9;replace hL := hL.same hs;replace hp := hp.same hs;replace h1 := h1.same hs;refine aG (aE (aD ?_));replace hw0 := (aC _).le hw0;replace hS := hS.trans (aC _);replace h1 := h1.same (aC _);replace hL := hL.same (aC _);replace h6 := h6.same (aC _);replace hp := hp.same (aC _);refine cX (fun wS => WB wS bL (decide (x < 0)) s ∧ WB wS b6 (decide (((2 ^ 127 : Nat) : Int) < 0)) s9) [] (.cons 0 (.cons 1 (.cons 2 (.cons 3 (.cons 4 (.cons 5 (.cons 6 (.cons 7 (.cons 8 (.cons 9 (.cons 10 (.cons 11 .nil)))))))))))) cL zy ⟨hL, h6⟩ (cG rfl aH rfl u29 rfl cI (fun w9 h9 => h9.1.rd) rfl (cG rfl aH rfl u29 rfl cI (fun w9 h9 => h9.2.rd) rfl (bW rfl aH rfl rfl oY rfl rfl (gN s x h1.ins zw s9 ((2 ^ 127 : Nat) : Int) hp.ins ht7) ?_)));rintro _ w5 ⟨rfl, hs⟩;replace hw0 := hs.le hw0;replace hS := hS.trans hs;replace h1 := h1.same hs;replace hL := hL.same hs;replace h6 := h6.same hs;replace hp := hp.same hs;refine aQ rfl ⟨hL, h6⟩ (dW rfl aH rfl rfl rfl rfl (bH rfl aH rfl rfl (cG rfl (cZ rfl rfl zz) rfl u29 rfl cI (fun w9 h9 => h9.1.rd) rfl (cG rfl (cZ rfl rfl zz) rfl u29 rfl cI (fun w9 h9 => h9.2.rd) rfl (bW rfl (cZ rfl rfl zz) rfl rfl cf40 rfl rfl (mA s9 ((2 ^ 127 : Nat) : Int) hp.ins ht7) ?_)))));rintro v9 w6 ⟨⟨s8, rfl, hn⟩, hs⟩;replace hw0 := hs.le hw0;replace hS := hS.trans hs;replace h1 := h1.same hs;replace hL := hL.same hs;replace h6 := h6.same hs;replace hp := hp.same hs;refine aQ rfl ⟨hL, h6⟩ (bW rfl (cZ rfl rfl zz) rfl rfl oY rfl rfl (gN s x h1.ins zw s8 (-((2 ^ 127 : Nat) : Int)) hn.ins (by rw [Int.natAbs_neg]; exact ht7)) ?_);rintro _ w7 ⟨rfl, hs⟩;clear hn;replace hw0 := hs.le hw0;replace hS := hS.trans hs;replace h1 := h1.same hs;replace hL := hL.same hs;replace h6 := h6.same hs;replace hp := hp.same hs;refine aQ rfl ⟨hL, h6⟩ (dW rfl (cZ rfl rfl zz) rfl rfl rfl rfl (fA rfl aH rfl zz rfl rfl (dC rfl aH rfl rfl (cO (aE (aD (aD (aB (aO rfl dQ rfl (aL rfl u4 rfl hL.c0 rfl (aG (aE ?_))))))))))));refine aK rfl (fun h208 => ?_) (fun h208 => ?_)
 ·simp only [decide_eq_true_eq] at h208;refine aD ?_;refine eS (fun p : Nat × Value => [(1, .int .i64 2), (2, .pointer (some ⟨bL, 0, none⟩)), (7, .bool (decide (Rd.cmp x (-((2 ^ 127 : Nat) : Int)) ≥ 0))), (9, .pointer (some ⟨p.1, 0, none⟩))]) (fun p w' => H ≤ w'.heap.size ∧ Same [] w w' ∧ WB w' bL (decide (x < 0)) s ∧ WB w' p.1 (decide (x.tmod ((2 ^ 128 : Nat) : Int) < 0)) p.2 ∧ Mz w' (fun g => H ≤ g ∧ g ≠ bL) p.2 (x.tmod ((2 ^ 128 : Nat) : Int)).natAbs ∧ bL < p.1) ?_ ?_
  ·replace hw0 := (aC _).le hw0;replace hS := hS.trans (aC _);replace h1 := h1.same (aC _);replace hL := hL.same (aC _);replace h6 := h6.same (aC _);replace hp := hp.same (aC _);refine cX (fun wS => WB wS bL (decide (x < 0)) s) [] (.cons 0 (.cons 1 (.cons 2 (.alt3 (.cons 3 (.alt3 (.cons 4 (.cons 5 (.cons 6 (.cons 7 (.alt2 (.cons 8 (.cons 9 (.cons 10 (.cons 11 .nil)))) (.cons 9 (.cons 8 (.cons 10 (.cons 11 .nil))))))))) (.cons 8 (.alt2 (.cons 4 (.cons 5 (.cons 6 (.cons 7 (.cons 9 (.cons 10 (.cons 11 .nil))))))) (.cons 9 (.cons 4 (.cons 5 (.cons 6 (.cons 7 (.cons 10 (.cons 11 .nil))))))))) (.cons 9 (.alt2 (.cons 4 (.cons 5 (.cons 6 (.cons 7 (.cons 8 (.cons 10 (.cons 11 .nil))))))) (.cons 8 (.cons 4 (.cons 5 (.cons 6 (.cons 7 (.cons 10 (.cons 11 .nil))))))))))) (.cons 8 (.alt2 (.cons 3 (.alt2 (.cons 4 (.cons 5 (.cons 6 (.cons 7 (.cons 9 (.cons 10 (.cons 11 .nil))))))) (.cons 9 (.cons 4 (.cons 5 (.cons 6 (.cons 7 (.cons 10 (.cons 11 .nil))))))))) (.cons 9 (.cons 3 (.cons 4 (.cons 5 (.cons 6 (.cons 7 (.cons 10 (.cons 11 .nil)))))))))) (.cons 9 (.alt2 (.cons 3 (.alt2 (.cons 4 (.cons 5 (.cons 6 (.cons 7 (.cons 8 (.cons 10 (.cons 11 .nil))))))) (.cons 8 (.cons 4 (.cons 5 (.cons 6 (.cons 7 (.cons 10 (.cons 11 .nil))))))))) (.cons 8 (.cons 3 (.cons 4 (.cons 5 (.cons 6 (.cons 7 (.cons 10 (.cons 11 .nil)))))))))))))) cL zy hL (cG rfl aH rfl u29 rfl cI (fun w9 h9 => h9.rd) rfl (bH rfl aH rfl rfl ?_))
   (refine dW rfl aH rfl rfl (dE (aV ?_ ?_)) rfl ?_; (omega); (omega))
   refine jZ ?_ ?_ ?_
   ·refine bW rfl aH rfl rfl nK rfl rfl (nI 128 zo) ?_;rintro v9 w8 ⟨⟨s8, rfl, ho⟩, hs⟩;replace hw0 := hs.le hw0;replace hS := hS.trans hs;replace h1 := h1.same hs;replace hL := hL.same hs;replace h6 := h6.same hs;replace hp := hp.same hs;refine aQ rfl hL ?_;refine jZ ?_ ?_ ?_
    ·have hlL := hL.lt;refine bW rfl aH rfl rfl qD rfl rfl (eN s x h1.ins zw s8 ((2 ^ 128 : Nat) : Int) ho.ins ht8 zo) ?_;rintro _ w9 ⟨v1, v2, rfl, ⟨s1, rfl, hq⟩, ⟨s2, rfl, hr⟩, hs⟩;clear ho;replace hw0 := hs.le hw0;replace hS := hS.trans hs;replace hL := hL.same hs;replace h6 := h6.same hs;replace hp := hp.same hs;refine aQ rfl hL (bH rfl aH rfl rfl (cB rfl aH rfl rfl rfl (cB rfl aH rfl rfl rfl ?_)));refine dX ?_ ?_
     ·refine cR rfl aH dJ rfl rfl ?_;intro w10 hn hs;obtain ⟨b8, hb8⟩ : ∃ x, x = w9.heap.size := ⟨_, rfl⟩
      have h8 : Row w10 b8 29 2 (fun i => (#[.bool false, .slice none 0 0] : Array Value).getD i undef) := by
       rw [hn, hb8];exact Row.alloc _ _ _
      rw [← hb8];have hHb8 : H ≤ b8 := by omega
      have qlb8hL := hL.lt;have qlb8h6 := h6.lt;have qlb8h8 := h8.lt;replace hp := hp.ne (b := b8) zw;replace hq := hq.ne (b := b8) zw;replace hr := hr.ne (b := b8) zw;replace hw0 := hs.le hw0;replace hS := hS.trans hs;replace hL := hL.same hs;replace h6 := h6.same hs;replace hp := hp.same hs;replace hq := hq.same hs;replace hr := hr.same hs;have b8l := h8.lt;clear hn hs;refine aQ rfl hL (cR rfl aH dJ rfl rfl ?_);intro w11 hn hs;obtain ⟨b9, hb9⟩ : ∃ x, x = w10.heap.size := ⟨_, rfl⟩
      have h9 : Row w11 b9 29 2 (fun i => (#[.bool false, .slice none 0 0] : Array Value).getD i undef) := by
       rw [hn, hb9];exact Row.alloc _ _ _
      rw [← hb9];have hHb9 : H ≤ b9 := by omega
      have qlb9hL := hL.lt;have qlb9h6 := h6.lt;have qlb9h8 := h8.lt;have qlb9h9 := h9.lt;replace hp := hp.ne (b := b9) zw;replace hq := hq.ne (b := b9) zw;replace hr := hr.ne (b := b9) zw;replace hw0 := hs.le hw0;replace hS := hS.trans hs;replace hL := hL.same hs;replace h8 := h8.same hs;replace hq := hq.same hs;replace hr := hr.same hs;have b9l := h9.lt;clear hn hs;refine aQ rfl hL (bA rfl aH (n := 2) rfl rfl cI rfl (bJ hq.one) h8 zo ?_);intro w12 hn9 hs;have h8 : WB w12 b8 (decide _) s1 := hn9.congr fun i hi => aN (g := wF _ _) hi;replace hS := hS.trans hs;replace hw0 := hs.le hw0;clear hn9;replace hL := hL.same hs;replace h9 := h9.same hs;replace hr := hr.same hs;refine aQ rfl hL (bA rfl aH (n := 2) rfl rfl cI rfl (bJ hr.one) h9 zo ?_);intro w13 hn9 hs;have h9 : WB w13 b9 (decide _) s2 := hn9.congr fun i hi => aN (g := wF _ _) hi;replace hS := hS.trans hs;replace hw0 := hs.le hw0;clear hn9;replace hL := hL.same hs;replace hr := hr.same hs;exact aQ rfl hL (cO (bZ 0 (b9, s2) zo ⟨rfl, rfl, rfl, rfl, trivial⟩ ⟨hw0, hS, hL, h9, hr.mono (fun g h _ => ⟨by omega, by omega⟩), by show bL < b9; omega⟩))
     ·refine cR rfl aH dJ rfl rfl ?_;intro w10 hn hs;obtain ⟨b9, hb9⟩ : ∃ x, x = w9.heap.size := ⟨_, rfl⟩
      have h9 : Row w10 b9 29 2 (fun i => (#[.bool false, .slice none 0 0] : Array Value).getD i undef) := by
       rw [hn, hb9];exact Row.alloc _ _ _
      rw [← hb9];have hHb9 : H ≤ b9 := by omega
      have qlb9hL := hL.lt;have qlb9h6 := h6.lt;have qlb9h9 := h9.lt;replace hp := hp.ne (b := b9) zw;replace hq := hq.ne (b := b9) zw;replace hr := hr.ne (b := b9) zw;replace hw0 := hs.le hw0;replace hS := hS.trans hs;replace hL := hL.same hs;replace h6 := h6.same hs;replace hp := hp.same hs;replace hq := hq.same hs;replace hr := hr.same hs;have b9l := h9.lt;clear hn hs;refine aQ rfl hL (cR rfl aH dJ rfl rfl ?_);intro w11 hn hs;obtain ⟨b8, hb8⟩ : ∃ x, x = w10.heap.size := ⟨_, rfl⟩
      have h8 : Row w11 b8 29 2 (fun i => (#[.bool false, .slice none 0 0] : Array Value).getD i undef) := by
       rw [hn, hb8];exact Row.alloc _ _ _
      rw [← hb8];have hHb8 : H ≤ b8 := by omega
      have qlb8hL := hL.lt;have qlb8h6 := h6.lt;have qlb8h8 := h8.lt;have qlb8h9 := h9.lt;replace hp := hp.ne (b := b8) zw;replace hq := hq.ne (b := b8) zw;replace hr := hr.ne (b := b8) zw;replace hw0 := hs.le hw0;replace hS := hS.trans hs;replace hL := hL.same hs;replace h9 := h9.same hs;replace hq := hq.same hs;replace hr := hr.same hs;have b8l := h8.lt;clear hn hs;refine aQ rfl hL (bA rfl aH (n := 2) rfl rfl cI rfl (bJ hq.one) h8 zo ?_);intro w12 hn9 hs;have h8 : WB w12 b8 (decide _) s1 := hn9.congr fun i hi => aN (g := wF _ _) hi;replace hS := hS.trans hs;replace hw0 := hs.le hw0;clear hn9;replace hL := hL.same hs;replace h9 := h9.same hs;replace hr := hr.same hs;refine aQ rfl hL (bA rfl aH (n := 2) rfl rfl cI rfl (bJ hr.one) h9 zo ?_);intro w13 hn9 hs;have h9 : WB w13 b9 (decide _) s2 := hn9.congr fun i hi => aN (g := wF _ _) hi;replace hS := hS.trans hs;replace hw0 := hs.le hw0;clear hn9;replace hL := hL.same hs;replace hr := hr.same hs;exact aQ rfl hL (cO (bZ 0 (b9, s2) zo ⟨rfl, rfl, rfl, rfl, trivial⟩ ⟨hw0, hS, hL, h9, hr.mono (fun g h _ => ⟨by omega, by omega⟩), by show bL < b9; omega⟩))
    ·refine cR rfl aH dJ rfl rfl ?_;intro w9 hn hs;obtain ⟨b8, hb8⟩ : ∃ x, x = w8.heap.size := ⟨_, rfl⟩
     have h8 : Row w9 b8 29 2 (fun i => (#[.bool false, .slice none 0 0] : Array Value).getD i undef) := by
      rw [hn, hb8];exact Row.alloc _ _ _
     rw [← hb8];have hHb8 : H ≤ b8 := by omega
     have qlb8hL := hL.lt;have qlb8h6 := h6.lt;have qlb8h8 := h8.lt;replace hp := hp.ne (b := b8) zw;replace hw0 := hs.le hw0;replace hS := hS.trans hs;replace h1 := h1.same hs;replace hL := hL.same hs;replace h6 := h6.same hs;replace hp := hp.same hs;replace ho := ho.same hs;have b8l := h8.lt;clear hn hs;refine aQ rfl hL ?_;refine dX ?_ ?_
     ·have hlL := hL.lt;have hl8 := h8.lt;refine bW rfl aH rfl rfl qD rfl rfl (eN s x h1.ins zw s8 ((2 ^ 128 : Nat) : Int) ho.ins ht8 zo) ?_;rintro _ w10 ⟨v1, v2, rfl, ⟨s1, rfl, hq⟩, ⟨s2, rfl, hr⟩, hs⟩;clear ho;replace hw0 := hs.le hw0;replace hS := hS.trans hs;replace hL := hL.same hs;replace h6 := h6.same hs;replace h8 := h8.same hs;replace hp := hp.same hs;refine aQ rfl hL (bH rfl aH rfl rfl (cB rfl aH rfl rfl rfl (cB rfl aH rfl rfl rfl (cR rfl aH dJ rfl rfl ?_))));intro w11 hn hs;obtain ⟨b9, hb9⟩ : ∃ x, x = w10.heap.size := ⟨_, rfl⟩
      have h9 : Row w11 b9 29 2 (fun i => (#[.bool false, .slice none 0 0] : Array Value).getD i undef) := by
       rw [hn, hb9];exact Row.alloc _ _ _
      rw [← hb9];have hHb9 : H ≤ b9 := by omega
      have qlb9hL := hL.lt;have qlb9h6 := h6.lt;have qlb9h8 := h8.lt;have qlb9h9 := h9.lt;replace hp := hp.ne (b := b9) zw;replace hq := hq.ne (b := b9) zw;replace hr := hr.ne (b := b9) zw;replace hw0 := hs.le hw0;replace hS := hS.trans hs;replace hL := hL.same hs;replace h8 := h8.same hs;replace hq := hq.same hs;replace hr := hr.same hs;have b9l := h9.lt;clear hn hs;refine aQ rfl hL (bA rfl aH (n := 2) rfl rfl cI rfl (bJ hq.one) h8 zo ?_);intro w12 hn9 hs;have h8 : WB w12 b8 (decide _) s1 := hn9.congr fun i hi => aN (g := wF _ _) hi;replace hS := hS.trans hs;replace hw0 := hs.le hw0;clear hn9;replace hL := hL.same hs;replace h9 := h9.same hs;replace hr := hr.same hs;refine aQ rfl hL (bA rfl aH (n := 2) rfl rfl cI rfl (bJ hr.one) h9 zo ?_);intro w13 hn9 hs;have h9 : WB w13 b9 (decide _) s2 := hn9.congr fun i hi => aN (g := wF _ _) hi;replace hS := hS.trans hs;replace hw0 := hs.le hw0;clear hn9;replace hL := hL.same hs;replace hr := hr.same hs;exact aQ rfl hL (cO (bZ 0 (b9, s2) zo ⟨rfl, rfl, rfl, rfl, trivial⟩ ⟨hw0, hS, hL, h9, hr.mono (fun g h _ => ⟨by omega, by omega⟩), by show bL < b9; omega⟩))
     ·refine cR rfl aH dJ rfl rfl ?_;intro w10 hn hs;obtain ⟨b9, hb9⟩ : ∃ x, x = w9.heap.size := ⟨_, rfl⟩
      have h9 : Row w10 b9 29 2 (fun i => (#[.bool false, .slice none 0 0] : Array Value).getD i undef) := by
       rw [hn, hb9];exact Row.alloc _ _ _
      rw [← hb9];have hHb9 : H ≤ b9 := by omega
      have qlb9hL := hL.lt;have qlb9h6 := h6.lt;have qlb9h8 := h8.lt;have qlb9h9 := h9.lt;replace hp := hp.ne (b := b9) zw;replace hw0 := hs.le hw0;replace hS := hS.trans hs;replace h1 := h1.same hs;replace hL := hL.same hs;replace h8 := h8.same hs;replace ho := ho.same hs;have b9l := h9.lt;clear hn hs;refine aQ rfl hL ?_;have hlL := hL.lt;have hl8 := h8.lt;have hl9 := h9.lt;refine bW rfl aH rfl rfl qD rfl rfl (eN s x h1.ins zw s8 ((2 ^ 128 : Nat) : Int) ho.ins ht8 zo) ?_;rintro _ w11 ⟨v1, v2, rfl, ⟨s1, rfl, hq⟩, ⟨s2, rfl, hr⟩, hs⟩;clear ho;replace hw0 := hs.le hw0;replace hS := hS.trans hs;replace hL := hL.same hs;replace h8 := h8.same hs;replace h9 := h9.same hs;refine aQ rfl hL (bH rfl aH rfl rfl (cB rfl aH rfl rfl rfl (cB rfl aH rfl rfl rfl (bA rfl aH (n := 2) rfl rfl cI rfl (bJ hq.one) h8 zo ?_))));intro w12 hn9 hs;have h8 : WB w12 b8 (decide _) s1 := hn9.congr fun i hi => aN (g := wF _ _) hi;replace hS := hS.trans hs;replace hw0 := hs.le hw0;clear hn9;replace hL := hL.same hs;replace h9 := h9.same hs;replace hr := hr.same hs;refine aQ rfl hL (bA rfl aH (n := 2) rfl rfl cI rfl (bJ hr.one) h9 zo ?_);intro w13 hn9 hs;have h9 : WB w13 b9 (decide _) s2 := hn9.congr fun i hi => aN (g := wF _ _) hi;replace hS := hS.trans hs;replace hw0 := hs.le hw0;clear hn9;replace hL := hL.same hs;replace hr := hr.same hs;exact aQ rfl hL (cO (bZ 0 (b9, s2) zo ⟨rfl, rfl, rfl, rfl, trivial⟩ ⟨hw0, hS, hL, h9, hr.mono (fun g h _ => ⟨by omega, by omega⟩), by show bL < b9; omega⟩))
    ·refine cR rfl aH dJ rfl rfl ?_;intro w9 hn hs;obtain ⟨b9, hb9⟩ : ∃ x, x = w8.heap.size := ⟨_, rfl⟩
     have h9 : Row w9 b9 29 2 (fun i => (#[.bool false, .slice none 0 0] : Array Value).getD i undef) := by
      rw [hn, hb9];exact Row.alloc _ _ _
     rw [← hb9];have hHb9 : H ≤ b9 := by omega
     have qlb9hL := hL.lt;have qlb9h6 := h6.lt;have qlb9h9 := h9.lt;replace hp := hp.ne (b := b9) zw;replace hw0 := hs.le hw0;replace hS := hS.trans hs;replace h1 := h1.same hs;replace hL := hL.same hs;replace h6 := h6.same hs;replace hp := hp.same hs;replace ho := ho.same hs;have b9l := h9.lt;clear hn hs;refine aQ rfl hL ?_;refine dX ?_ ?_
     ·have hlL := hL.lt;have hl9 := h9.lt;refine bW rfl aH rfl rfl qD rfl rfl (eN s x h1.ins zw s8 ((2 ^ 128 : Nat) : Int) ho.ins ht8 zo) ?_;rintro _ w10 ⟨v1, v2, rfl, ⟨s1, rfl, hq⟩, ⟨s2, rfl, hr⟩, hs⟩;clear ho;replace hw0 := hs.le hw0;replace hS := hS.trans hs;replace hL := hL.same hs;replace h6 := h6.same hs;replace h9 := h9.same hs;replace hp := hp.same hs;refine aQ rfl hL (bH rfl aH rfl rfl (cB rfl aH rfl rfl rfl (cB rfl aH rfl rfl rfl (cR rfl aH dJ rfl rfl ?_))));intro w11 hn hs;obtain ⟨b8, hb8⟩ : ∃ x, x = w10.heap.size := ⟨_, rfl⟩
      have h8 : Row w11 b8 29 2 (fun i => (#[.bool false, .slice none 0 0] : Array Value).getD i undef) := by
       rw [hn, hb8];exact Row.alloc _ _ _
      rw [← hb8];have hHb8 : H ≤ b8 := by omega
      have qlb8hL := hL.lt;have qlb8h6 := h6.lt;have qlb8h8 := h8.lt;have qlb8h9 := h9.lt;replace hp := hp.ne (b := b8) zw;replace hq := hq.ne (b := b8) zw;replace hr := hr.ne (b := b8) zw;replace hw0 := hs.le hw0;replace hS := hS.trans hs;replace hL := hL.same hs;replace h9 := h9.same hs;replace hq := hq.same hs;replace hr := hr.same hs;have b8l := h8.lt;clear hn hs;refine aQ rfl hL (bA rfl aH (n := 2) rfl rfl cI rfl (bJ hq.one) h8 zo ?_);intro w12 hn9 hs;have h8 : WB w12 b8 (decide _) s1 := hn9.congr fun i hi => aN (g := wF _ _) hi;replace hS := hS.trans hs;replace hw0 := hs.le hw0;clear hn9;replace hL := hL.same hs;replace h9 := h9.same hs;replace hr := hr.same hs;refine aQ rfl hL (bA rfl aH (n := 2) rfl rfl cI rfl (bJ hr.one) h9 zo ?_);intro w13 hn9 hs;have h9 : WB w13 b9 (decide _) s2 := hn9.congr fun i hi => aN (g := wF _ _) hi;replace hS := hS.trans hs;replace hw0 := hs.le hw0;clear hn9;replace hL := hL.same hs;replace hr := hr.same hs;exact aQ rfl hL (cO (bZ 0 (b9, s2) zo ⟨rfl, rfl, rfl, rfl, trivial⟩ ⟨hw0, hS, hL, h9, hr.mono (fun g h _ => ⟨by omega, by omega⟩), by show bL < b9; omega⟩))
     ·refine cR rfl aH dJ rfl rfl ?_;intro w10 hn hs;obtain ⟨b8, hb8⟩ : ∃ x, x = w9.heap.size := ⟨_, rfl⟩
      have h8 : Row w10 b8 29 2 (fun i => (#[.bool false, .slice none 0 0] : Array Value).getD i undef) := by
       rw [hn, hb8];exact Row.alloc _ _ _
      rw [← hb8];have hHb8 : H ≤ b8 := by omega
      have qlb8hL := hL.lt;have qlb8h6 := h6.lt;have qlb8h8 := h8.lt;have qlb8h9 := h9.lt;replace hp := hp.ne (b := b8) zw;replace hw0 := hs.le hw0;replace hS := hS.trans hs;replace h1 := h1.same hs;replace hL := hL.same hs;replace h9 := h9.same hs;replace ho := ho.same hs;have b8l := h8.lt;clear hn hs;refine aQ rfl hL ?_;have hlL := hL.lt;have hl8 := h8.lt;have hl9 := h9.lt;refine bW rfl aH rfl rfl qD rfl rfl (eN s x h1.ins zw s8 ((2 ^ 128 : Nat) : Int) ho.ins ht8 zo) ?_;rintro _ w11 ⟨v1, v2, rfl, ⟨s1, rfl, hq⟩, ⟨s2, rfl, hr⟩, hs⟩;clear ho;replace hw0 := hs.le hw0;replace hS := hS.trans hs;replace hL := hL.same hs;replace h8 := h8.same hs;replace h9 := h9.same hs;refine aQ rfl hL (bH rfl aH rfl rfl (cB rfl aH rfl rfl rfl (cB rfl aH rfl rfl rfl (bA rfl aH (n := 2) rfl rfl cI rfl (bJ hq.one) h8 zo ?_))));intro w12 hn9 hs;have h8 : WB w12 b8 (decide _) s1 := hn9.congr fun i hi => aN (g := wF _ _) hi;replace hS := hS.trans hs;replace hw0 := hs.le hw0;clear hn9;replace hL := hL.same hs;replace h9 := h9.same hs;replace hr := hr.same hs;refine aQ rfl hL (bA rfl aH (n := 2) rfl rfl cI rfl (bJ hr.one) h9 zo ?_);intro w13 hn9 hs;have h9 : WB w13 b9 (decide _) s2 := hn9.congr fun i hi => aN (g := wF _ _) hi;replace hS := hS.trans hs;replace hw0 := hs.le hw0;clear hn9;replace hL := hL.same hs;replace hr := hr.same hs;exact aQ rfl hL (cO (bZ 0 (b9, s2) zo ⟨rfl, rfl, rfl, rfl, trivial⟩ ⟨hw0, hS, hL, h9, hr.mono (fun g h _ => ⟨by omega, by omega⟩), by show bL < b9; omega⟩))
   ·refine cR rfl aH dJ rfl rfl ?_;intro w8 hn hs;obtain ⟨b8, hb8⟩ : ∃ x, x = w7.drew.heap.size := ⟨_, rfl⟩
    have h8 : Row w8 b8 29 2 (fun i => (#[.bool false, .slice none 0 0] : Array Value).getD i undef) := by
     rw [hn, hb8];exact Row.alloc _ _ _
    rw [← hb8];have hHb8 : H ≤ b8 := by omega
    have qlb8hL := hL.lt;have qlb8h6 := h6.lt;have qlb8h8 := h8.lt;replace hp := hp.ne (b := b8) zw;replace hw0 := hs.le hw0;replace hS := hS.trans hs;replace h1 := h1.same hs;replace hL := hL.same hs;replace h6 := h6.same hs;replace hp := hp.same hs;have b8l := h8.lt;clear hn hs;refine aQ rfl hL ?_;refine dX ?_ ?_
    ·refine bW rfl aH rfl rfl nK rfl rfl (nI 128 zo) ?_;rintro v9 w9 ⟨⟨s8, rfl, ho⟩, hs⟩;replace hw0 := hs.le hw0;replace hS := hS.trans hs;replace h1 := h1.same hs;replace hL := hL.same hs;replace h6 := h6.same hs;replace h8 := h8.same hs;replace hp := hp.same hs;refine aQ rfl hL ?_;refine dX ?_ ?_
     ·have hlL := hL.lt;have hl8 := h8.lt;refine bW rfl aH rfl rfl qD rfl rfl (eN s x h1.ins zw s8 ((2 ^ 128 : Nat) : Int) ho.ins ht8 zo) ?_;rintro _ w10 ⟨v1, v2, rfl, ⟨s1, rfl, hq⟩, ⟨s2, rfl, hr⟩, hs⟩;clear ho;replace hw0 := hs.le hw0;replace hS := hS.trans hs;replace hL := hL.same hs;replace h6 := h6.same hs;replace h8 := h8.same hs;replace hp := hp.same hs;refine aQ rfl hL (bH rfl aH rfl rfl (cB rfl aH rfl rfl rfl (cB rfl aH rfl rfl rfl (cR rfl aH dJ rfl rfl ?_))));intro w11 hn hs;obtain ⟨b9, hb9⟩ : ∃ x, x = w10.heap.size := ⟨_, rfl⟩
      have h9 : Row w11 b9 29 2 (fun i => (#[.bool false, .slice none 0 0] : Array Value).getD i undef) := by
       rw [hn, hb9];exact Row.alloc _ _ _
      rw [← hb9];have hHb9 : H ≤ b9 := by omega
      have qlb9hL := hL.lt;have qlb9h6 := h6.lt;have qlb9h8 := h8.lt;have qlb9h9 := h9.lt;replace hp := hp.ne (b := b9) zw;replace hq := hq.ne (b := b9) zw;replace hr := hr.ne (b := b9) zw;replace hw0 := hs.le hw0;replace hS := hS.trans hs;replace hL := hL.same hs;replace h8 := h8.same hs;replace hq := hq.same hs;replace hr := hr.same hs;have b9l := h9.lt;clear hn hs;refine aQ rfl hL (bA rfl aH (n := 2) rfl rfl cI rfl (bJ hq.one) h8 zo ?_);intro w12 hn9 hs;have h8 : WB w12 b8 (decide _) s1 := hn9.congr fun i hi => aN (g := wF _ _) hi;replace hS := hS.trans hs;replace hw0 := hs.le hw0;clear hn9;replace hL := hL.same hs;replace h9 := h9.same hs;replace hr := hr.same hs;refine aQ rfl hL (bA rfl aH (n := 2) rfl rfl cI rfl (bJ hr.one) h9 zo ?_);intro w13 hn9 hs;have h9 : WB w13 b9 (decide _) s2 := hn9.congr fun i hi => aN (g := wF _ _) hi;replace hS := hS.trans hs;replace hw0 := hs.le hw0;clear hn9;replace hL := hL.same hs;replace hr := hr.same hs;exact aQ rfl hL (cO (bZ 0 (b9, s2) zo ⟨rfl, rfl, rfl, rfl, trivial⟩ ⟨hw0, hS, hL, h9, hr.mono (fun g h _ => ⟨by omega, by omega⟩), by show bL < b9; omega⟩))
     ·refine cR rfl aH dJ rfl rfl ?_;intro w10 hn hs;obtain ⟨b9, hb9⟩ : ∃ x, x = w9.heap.size := ⟨_, rfl⟩
      have h9 : Row w10 b9 29 2 (fun i => (#[.bool false, .slice none 0 0] : Array Value).getD i undef) := by
       rw [hn, hb9];exact Row.alloc _ _ _
      rw [← hb9];have hHb9 : H ≤ b9 := by omega
      have qlb9hL := hL.lt;have qlb9h6 := h6.lt;have qlb9h8 := h8.lt;have qlb9h9 := h9.lt;replace hp := hp.ne (b := b9) zw;replace hw0 := hs.le hw0;replace hS := hS.trans hs;replace h1 := h1.same hs;replace hL := hL.same hs;replace h8 := h8.same hs;replace ho := ho.same hs;have b9l := h9.lt;clear hn hs;refine aQ rfl hL ?_;have hlL := hL.lt;have hl8 := h8.lt;have hl9 := h9.lt;refine bW rfl aH rfl rfl qD rfl rfl (eN s x h1.ins zw s8 ((2 ^ 128 : Nat) : Int) ho.ins ht8 zo) ?_;rintro _ w11 ⟨v1, v2, rfl, ⟨s1, rfl, hq⟩, ⟨s2, rfl, hr⟩, hs⟩;clear ho;replace hw0 := hs.le hw0;replace hS := hS.trans hs;replace hL := hL.same hs;replace h8 := h8.same hs;replace h9 := h9.same hs;refine aQ rfl hL (bH rfl aH rfl rfl (cB rfl aH rfl rfl rfl (cB rfl aH rfl rfl rfl (bA rfl aH (n := 2) rfl rfl cI rfl (bJ hq.one) h8 zo ?_))));intro w12 hn9 hs;have h8 : WB w12 b8 (decide _) s1 := hn9.congr fun i hi => aN (g := wF _ _) hi;replace hS := hS.trans hs;replace hw0 := hs.le hw0;clear hn9;replace hL := hL.same hs;replace h9 := h9.same hs;replace hr := hr.same hs;refine aQ rfl hL (bA rfl aH (n := 2) rfl rfl cI rfl (bJ hr.one) h9 zo ?_);intro w13 hn9 hs;have h9 : WB w13 b9 (decide _) s2 := hn9.congr fun i hi => aN (g := wF _ _) hi;replace hS := hS.trans hs;replace hw0 := hs.le hw0;clear hn9;replace hL := hL.same hs;replace hr := hr.same hs;exact aQ rfl hL (cO (bZ 0 (b9, s2) zo ⟨rfl, rfl, rfl, rfl, trivial⟩ ⟨hw0, hS, hL, h9, hr.mono (fun g h _ => ⟨by omega, by omega⟩), by show bL < b9; omega⟩))
    ·refine cR rfl aH dJ rfl rfl ?_;intro w9 hn hs;obtain ⟨b9, hb9⟩ : ∃ x, x = w8.heap.size := ⟨_, rfl⟩
     have h9 : Row w9 b9 29 2 (fun i => (#[.bool false, .slice none 0 0] : Array Value).getD i undef) := by
      rw [hn, hb9];exact Row.alloc _ _ _
     rw [← hb9];have hHb9 : H ≤ b9 := by omega
     have qlb9hL := hL.lt;have qlb9h6 := h6.lt;have qlb9h8 := h8.lt;have qlb9h9 := h9.lt;replace hp := hp.ne (b := b9) zw;replace hw0 := hs.le hw0;replace hS := hS.trans hs;replace h1 := h1.same hs;replace hL := hL.same hs;replace h8 := h8.same hs;have b9l := h9.lt;clear hn hs;refine aQ rfl hL (bW rfl aH rfl rfl nK rfl rfl (nI 128 zo) ?_);rintro v9 w10 ⟨⟨s8, rfl, ho⟩, hs⟩;replace hw0 := hs.le hw0;replace hS := hS.trans hs;replace h1 := h1.same hs;replace hL := hL.same hs;replace h8 := h8.same hs;replace h9 := h9.same hs;refine aQ rfl hL ?_;have hlL := hL.lt;have hl8 := h8.lt;have hl9 := h9.lt;refine bW rfl aH rfl rfl qD rfl rfl (eN s x h1.ins zw s8 ((2 ^ 128 : Nat) : Int) ho.ins ht8 zo) ?_;rintro _ w11 ⟨v1, v2, rfl, ⟨s1, rfl, hq⟩, ⟨s2, rfl, hr⟩, hs⟩;clear ho;replace hw0 := hs.le hw0;replace hS := hS.trans hs;replace hL := hL.same hs;replace h8 := h8.same hs;replace h9 := h9.same hs;refine aQ rfl hL (bH rfl aH rfl rfl (cB rfl aH rfl rfl rfl (cB rfl aH rfl rfl rfl (bA rfl aH (n := 2) rfl rfl cI rfl (bJ hq.one) h8 zo ?_))));intro w12 hn9 hs;have h8 : WB w12 b8 (decide _) s1 := hn9.congr fun i hi => aN (g := wF _ _) hi;replace hS := hS.trans hs;replace hw0 := hs.le hw0;clear hn9;replace hL := hL.same hs;replace h9 := h9.same hs;replace hr := hr.same hs;refine aQ rfl hL (bA rfl aH (n := 2) rfl rfl cI rfl (bJ hr.one) h9 zo ?_);intro w13 hn9 hs;have h9 : WB w13 b9 (decide _) s2 := hn9.congr fun i hi => aN (g := wF _ _) hi;replace hS := hS.trans hs;replace hw0 := hs.le hw0;clear hn9;replace hL := hL.same hs;replace hr := hr.same hs;exact aQ rfl hL (cO (bZ 0 (b9, s2) zo ⟨rfl, rfl, rfl, rfl, trivial⟩ ⟨hw0, hS, hL, h9, hr.mono (fun g h _ => ⟨by omega, by omega⟩), by show bL < b9; omega⟩))
   ·refine cR rfl aH dJ rfl rfl ?_;intro w8 hn hs;obtain ⟨b9, hb9⟩ : ∃ x, x = w7.drew.heap.size := ⟨_, rfl⟩
    have h9 : Row w8 b9 29 2 (fun i => (#[.bool false, .slice none 0 0] : Array Value).getD i undef) := by
     rw [hn, hb9];exact Row.alloc _ _ _
    rw [← hb9];have hHb9 : H ≤ b9 := by omega
    have qlb9hL := hL.lt;have qlb9h6 := h6.lt;have qlb9h9 := h9.lt;replace hp := hp.ne (b := b9) zw;replace hw0 := hs.le hw0;replace hS := hS.trans hs;replace h1 := h1.same hs;replace hL := hL.same hs;replace h6 := h6.same hs;replace hp := hp.same hs;have b9l := h9.lt;clear hn hs;refine aQ rfl hL ?_;refine dX ?_ ?_
    ·refine bW rfl aH rfl rfl nK rfl rfl (nI 128 zo) ?_;rintro v9 w9 ⟨⟨s8, rfl, ho⟩, hs⟩;replace hw0 := hs.le hw0;replace hS := hS.trans hs;replace h1 := h1.same hs;replace hL := hL.same hs;replace h6 := h6.same hs;replace h9 := h9.same hs;replace hp := hp.same hs;refine aQ rfl hL ?_;refine dX ?_ ?_
     ·have hlL := hL.lt;have hl9 := h9.lt;refine bW rfl aH rfl rfl qD rfl rfl (eN s x h1.ins zw s8 ((2 ^ 128 : Nat) : Int) ho.ins ht8 zo) ?_;rintro _ w10 ⟨v1, v2, rfl, ⟨s1, rfl, hq⟩, ⟨s2, rfl, hr⟩, hs⟩;clear ho;replace hw0 := hs.le hw0;replace hS := hS.trans hs;replace hL := hL.same hs;replace h6 := h6.same hs;replace h9 := h9.same hs;replace hp := hp.same hs;refine aQ rfl hL (bH rfl aH rfl rfl (cB rfl aH rfl rfl rfl (cB rfl aH rfl rfl rfl (cR rfl aH dJ rfl rfl ?_))));intro w11 hn hs;obtain ⟨b8, hb8⟩ : ∃ x, x = w10.heap.size := ⟨_, rfl⟩
      have h8 : Row w11 b8 29 2 (fun i => (#[.bool false, .slice none 0 0] : Array Value).getD i undef) := by
       rw [hn, hb8];exact Row.alloc _ _ _
      rw [← hb8];have hHb8 : H ≤ b8 := by omega
      have qlb8hL := hL.lt;have qlb8h6 := h6.lt;have qlb8h8 := h8.lt;have qlb8h9 := h9.lt;replace hp := hp.ne (b := b8) zw;replace hq := hq.ne (b := b8) zw;replace hr := hr.ne (b := b8) zw;replace hw0 := hs.le hw0;replace hS := hS.trans hs;replace hL := hL.same hs;replace h9 := h9.same hs;replace hq := hq.same hs;replace hr := hr.same hs;have b8l := h8.lt;clear hn hs;refine aQ rfl hL (bA rfl aH (n := 2) rfl rfl cI rfl (bJ hq.one) h8 zo ?_);intro w12 hn9 hs;have h8 : WB w12 b8 (decide _) s1 := hn9.congr fun i hi => aN (g := wF _ _) hi;replace hS := hS.trans hs;replace hw0 := hs.le hw0;clear hn9;replace hL := hL.same hs;replace h9 := h9.same hs;replace hr := hr.same hs;refine aQ rfl hL (bA rfl aH (n := 2) rfl rfl cI rfl (bJ hr.one) h9 zo ?_);intro w13 hn9 hs;have h9 : WB w13 b9 (decide _) s2 := hn9.congr fun i hi => aN (g := wF _ _) hi;replace hS := hS.trans hs;replace hw0 := hs.le hw0;clear hn9;replace hL := hL.same hs;replace hr := hr.same hs;exact aQ rfl hL (cO (bZ 0 (b9, s2) zo ⟨rfl, rfl, rfl, rfl, trivial⟩ ⟨hw0, hS, hL, h9, hr.mono (fun g h _ => ⟨by omega, by omega⟩), by show bL < b9; omega⟩))
     ·refine cR rfl aH dJ rfl rfl ?_;intro w10 hn hs;obtain ⟨b8, hb8⟩ : ∃ x, x = w9.heap.size := ⟨_, rfl⟩
      have h8 : Row w10 b8 29 2 (fun i => (#[.bool false, .slice none 0 0] : Array Value).getD i undef) := by
       rw [hn, hb8];exact Row.alloc _ _ _
      rw [← hb8];have hHb8 : H ≤ b8 := by omega
      have qlb8hL := hL.lt;have qlb8h6 := h6.lt;have qlb8h8 := h8.lt;have qlb8h9 := h9.lt;replace hp := hp.ne (b := b8) zw;replace hw0 := hs.le hw0;replace hS := hS.trans hs;replace h1 := h1.same hs;replace hL := hL.same hs;replace h9 := h9.same hs;replace ho := ho.same hs;have b8l := h8.lt;clear hn hs;refine aQ rfl hL ?_;have hlL := hL.lt;have hl8 := h8.lt;have hl9 := h9.lt;refine bW rfl aH rfl rfl qD rfl rfl (eN s x h1.ins zw s8 ((2 ^ 128 : Nat) : Int) ho.ins ht8 zo) ?_;rintro _ w11 ⟨v1, v2, rfl, ⟨s1, rfl, hq⟩, ⟨s2, rfl, hr⟩, hs⟩;clear ho;replace hw0 := hs.le hw0;replace hS := hS.trans hs;replace hL := hL.same hs;replace h8 := h8.same hs;replace h9 := h9.same hs;refine aQ rfl hL (bH rfl aH rfl rfl (cB rfl aH rfl rfl rfl (cB rfl aH rfl rfl rfl (bA rfl aH (n := 2) rfl rfl cI rfl (bJ hq.one) h8 zo ?_))));intro w12 hn9 hs;have h8 : WB w12 b8 (decide _) s1 := hn9.congr fun i hi => aN (g := wF _ _) hi;replace hS := hS.trans hs;replace hw0 := hs.le hw0;clear hn9;replace hL := hL.same hs;replace h9 := h9.same hs;replace hr := hr.same hs;refine aQ rfl hL (bA rfl aH (n := 2) rfl rfl cI rfl (bJ hr.one) h9 zo ?_);intro w13 hn9 hs;have h9 : WB w13 b9 (decide _) s2 := hn9.congr fun i hi => aN (g := wF _ _) hi;replace hS := hS.trans hs;replace hw0 := hs.le hw0;clear hn9;replace hL := hL.same hs;replace hr := hr.same hs;exact aQ rfl hL (cO (bZ 0 (b9, s2) zo ⟨rfl, rfl, rfl, rfl, trivial⟩ ⟨hw0, hS, hL, h9, hr.mono (fun g h _ => ⟨by omega, by omega⟩), by show bL < b9; omega⟩))
    ·refine cR rfl aH dJ rfl rfl ?_;intro w9 hn hs;obtain ⟨b8, hb8⟩ : ∃ x, x = w8.heap.size := ⟨_, rfl⟩
     have h8 : Row w9 b8 29 2 (fun i => (#[.bool false, .slice none 0 0] : Array Value).getD i undef) := by
      rw [hn, hb8];exact Row.alloc _ _ _
     rw [← hb8];have hHb8 : H ≤ b8 := by omega
     have qlb8hL := hL.lt;have qlb8h6 := h6.lt;have qlb8h8 := h8.lt;have qlb8h9 := h9.lt;replace hp := hp.ne (b := b8) zw;replace hw0 := hs.le hw0;replace hS := hS.trans hs;replace h1 := h1.same hs;replace hL := hL.same hs;replace h9 := h9.same hs;have b8l := h8.lt;clear hn hs;refine aQ rfl hL (bW rfl aH rfl rfl nK rfl rfl (nI 128 zo) ?_);rintro v9 w10 ⟨⟨s8, rfl, ho⟩, hs⟩;replace hw0 := hs.le hw0;replace hS := hS.trans hs;replace h1 := h1.same hs;replace hL := hL.same hs;replace h8 := h8.same hs;replace h9 := h9.same hs;refine aQ rfl hL ?_;have hlL := hL.lt;have hl8 := h8.lt;have hl9 := h9.lt;refine bW rfl aH rfl rfl qD rfl rfl (eN s x h1.ins zw s8 ((2 ^ 128 : Nat) : Int) ho.ins ht8 zo) ?_;rintro _ w11 ⟨v1, v2, rfl, ⟨s1, rfl, hq⟩, ⟨s2, rfl, hr⟩, hs⟩;clear ho;replace hw0 := hs.le hw0;replace hS := hS.trans hs;replace hL := hL.same hs;replace h8 := h8.same hs;replace h9 := h9.same hs;refine aQ rfl hL (bH rfl aH rfl rfl (cB rfl aH rfl rfl rfl (cB rfl aH rfl rfl rfl (bA rfl aH (n := 2) rfl rfl cI rfl (bJ hq.one) h8 zo ?_))));intro w12 hn9 hs;have h8 : WB w12 b8 (decide _) s1 := hn9.congr fun i hi => aN (g := wF _ _) hi;replace hS := hS.trans hs;replace hw0 := hs.le hw0;clear hn9;replace hL := hL.same hs;replace h9 := h9.same hs;replace hr := hr.same hs;refine aQ rfl hL (bA rfl aH (n := 2) rfl rfl cI rfl (bJ hr.one) h9 zo ?_);intro w13 hn9 hs;have h9 : WB w13 b9 (decide _) s2 := hn9.congr fun i hi => aN (g := wF _ _) hi;replace hS := hS.trans hs;replace hw0 := hs.le hw0;clear hn9;replace hL := hL.same hs;replace hr := hr.same hs;exact aQ rfl hL (cO (bZ 0 (b9, s2) zo ⟨rfl, rfl, rfl, rfl, trivial⟩ ⟨hw0, hS, hL, h9, hr.mono (fun g h _ => ⟨by omega, by omega⟩), by show bL < b9; omega⟩))
  ·clear hw0 hS hL h1;rintro ⟨b9, s2⟩ w14 ⟨hw0, hS, hL, h9, hr, hb9⟩;simp only at h9 hr hb9;dsimp only;refine aE ?_;replace hw0 := (aC _).le hw0;replace hS := hS.trans (aC _);replace hL := hL.same (aC _);replace h9 := h9.same (aC _);replace hr := hr.same (aC _);refine cX (fun wS => WB wS b9 (decide (x.tmod ((2 ^ 128 : Nat) : Int) < 0)) s2) [] (.cons 0 (.cons 1 (.cons 2 (.cons 3 (.cons 4 (.cons 5 .nil)))))) cL zy h9 (cG rfl aH rfl u29 rfl cI (fun w9 h9 => h9.rd) rfl (bH rfl aH rfl rfl ?_))
   (refine dW rfl aH rfl rfl (dE (aV ?_ ?_)) rfl ?_; (omega); (omega))
   refine bW rfl aH rfl rfl nK rfl rfl (nI 128 zo) ?_;rintro v9 w15 ⟨⟨s8, rfl, ho⟩, hs⟩;replace hw0 := hs.le hw0;replace hS := hS.trans hs;replace hL := hL.same hs;replace h9 := h9.same hs;replace hr := hr.same hs;refine aQ rfl h9 ?_;have hlL := hL.lt;refine bW rfl aH rfl rfl lV rfl rfl (fH s2 (x.tmod ((2 ^ 128 : Nat) : Int)) hr.ins zw s8 ((2 ^ 128 : Nat) : Int) ho.ins ht8) ?_;rintro v9 w16 ⟨⟨s5, rfl, hy⟩, hs⟩;replace hy := hy.mono (J := fun g => H ≤ g ∧ g ≠ bL) (fun g h _ => ⟨by omega, by omega⟩);clear ho;replace hw0 := hs.le hw0;replace hS := hS.trans hs;replace hL := hL.same hs;replace h9 := h9.same hs;replace hr := hr.same hs;refine aQ rfl h9 (bA rfl aH (n := 2) rfl rfl cI rfl (bJ hy.one) hL zo ?_);intro w17 hn9 hs;have hL : WB w17 bL (decide _) s5 := hn9.congr fun i hi => aN (g := wF _ _) hi;replace hS := hS.trans hs;replace hw0 := hs.le hw0;clear hn9;replace h9 := h9.same hs;replace hy := hy.same hs;refine aQ rfl h9 (cO (aE (aD (aB (aA rfl rfl ?_)))));have hlLM := hL.lt;replace hy := hy.ne (b := w17.heap.size) (Nat.le_refl _);obtain ⟨bM, hbM⟩ : ∃ x, x = w17.heap.size := ⟨_, rfl⟩;refine jB (n := 2) rfl rfl u22 mk25 rfl zo zw rfl rfl ?_;rw [← hbM];intro w18 hM hs;replace hw0 := hs.le hw0;replace hS := hS.trans hs;replace hL := hL.same hs;replace hy := hy.same hs;clear hs;refine aF rfl rfl (aG (aE (aD (aD (aB (aA rfl rfl (bB rfl u22 rfl (aA rfl rfl (aG (aE (bN ?_)))))))))));have hYd := hy;obtain ⟨k, a, hd, ha, hNa, hba⟩ := hYd;obtain ⟨Ay, cy, rfl⟩ := hd.shape;have hbLM : bL < bM := by omega
   have hHM : H ≤ bM := by omega
   replace hd := hd.mono (J := fun g => g ≠ bL ∧ g ≠ bM) (fun g h _ => ⟨by omega, by omega⟩)
   replace hM : Row w18 bM 25 2 (ug (pw a k (2 * 0))) := by rw [Nat.mul_zero, oM]; exact hM
   refine dR (fun i : Nat => [(2, .pointer (some ⟨bL, 0, none⟩)), (7, .bool (decide (Rd.cmp x (-((2 ^ 127 : Nat) : Int)) ≥ 0))), (10, .slice (some ⟨bM, 0, none⟩) 2 2), (46, .int .i64 (2 : Nat)), (47, .int .i64 (i : Nat))]) (fun m i w' => i + m = 2 ∧ H ≤ w'.heap.size ∧ Same [] w w' ∧ WB w' bL (decide (x.tmod ((2 ^ 128 : Nat) : Int) + ((2 ^ 128 : Nat) : Int) < 0)) (.slice Ay k cy) ∧ Mg w' (fun g => g ≠ bL ∧ g ≠ bM) (.slice Ay k cy) k a ∧ Row w' bM 25 2 (ug (pw a k (2 * i)))) 2 0 ⟨rfl, rfl, rfl, rfl, rfl, trivial⟩ ⟨rfl, hw0, hS, hL, hd, hM⟩ ?_;clear hw0 hS hL hd hM hy;rintro m i w19 ⟨hm, hw0, hS, hL, hd, hM⟩;dsimp only;rcases (show m = 0 ∨ 0 < m by omega) with hm0 | hm0
   ·obtain rfl : i = 2 := by omega
    refine aD (aB (aI rfl rfl rfl rfl (aG (aE (aD ?_)))));refine aK rfl (fun h213 => ?_) (fun h213 => ?_)
    ·simp only [decide_eq_true_eq] at h213;omega
    ·simp only [decide_eq_false_iff_not, Int.not_lt] at h213;refine dG rfl (aE (aD (aB (aA rfl rfl (aA rfl rfl (aF rfl rfl (aF rfl rfl (aG (aE (aZ rfl rfl ?_))))))))));refine ⟨bM, _, rfl, hHM, hM.lt, (Row.rd hM 0 2 zo).congr fun r hr => (by rw [Nat.zero_add]; show Value.int .u64 _ = Value.int .u64 _; rw [vD ha hba zw (sY x) r hr]), ?_, hS⟩;rw [decide_eq_true_eq, ge_iff_le, rK];omega
   ·have hi2 : i < 2 := by omega
    refine aD (aB (aI rfl rfl rfl rfl (aG (aE (aD ?_)))));refine aK rfl (fun h213 => ?_) (fun h213 => ?_)
    ·simp only [decide_eq_true_eq] at h213;refine aX (aE (aD (bN (aD (aB (aA rfl rfl (aF rfl rfl (aG (aE (aD (aB (aF rfl rfl (aG (aE (bN (dR (fun j : Nat => [(2, .pointer (some ⟨bL, 0, none⟩)), (7, .bool (decide (Rd.cmp x (-((2 ^ 127 : Nat) : Int)) ≥ 0))), (10, .slice (some ⟨bM, 0, none⟩) 2 2), (11, .int .i64 (i : Nat)), (12, .int .i64 (j : Nat)), (46, .int .i64 (2 : Nat)), (47, .int .i64 (i : Nat))]) (fun m2 j w' => j + m2 = 2 ∧ H ≤ w'.heap.size ∧ Same [] w w' ∧ WB w' bL (decide (x.tmod ((2 ^ 128 : Nat) : Int) + ((2 ^ 128 : Nat) : Int) < 0)) (.slice Ay k cy) ∧ Mg w' (fun g => g ≠ bL ∧ g ≠ bM) (.slice Ay k cy) k a ∧ Row w' bM 25 2 (ug (pw a k (2 * i + j)))) 2 0 ⟨rfl, rfl, rfl, rfl, rfl, rfl, rfl, trivial⟩ ⟨rfl, hw0, hS, hL, hd, hM⟩ ?_))))))))))))))));clear hw0 hS hL hd hM;rintro m2 j w20 ⟨hm2, hw0, hS, hL, hd, hM⟩;dsimp only;rcases (show m2 = 0 ∨ 0 < m2 ∧ ¬ 2 * i + j < k ∨ 0 < m2 ∧ j = 0 ∧ 2 * i + j < k ∨ 0 < m2 ∧ j = 1 ∧ 2 * i + j < k by omega) with hm3 | ⟨hm3, hjk⟩ | ⟨hm3, hj, hjk⟩ | ⟨hm3, hj, hjk⟩
     ·obtain rfl : j = 2 := by omega
      refine aD (aD (aB (aA rfl rfl (aI rfl rfl rfl rfl (aG (aE ?_))))));refine aK rfl (fun h214 => ?_) (fun h214 => ?_)
      ·simp only [decide_eq_true_eq] at h214;omega
      ·simp only [decide_eq_false_iff_not, Int.not_lt] at h214;refine dG rfl (cQ (aE (aB ?_)))
       (refine aI rfl rfl (cJ (aV ?_ ?_)) rfl ?_; (omega); (omega))
       exact aA rfl rfl (aG (bZ (m - 1) (i + 1) zw ⟨rfl, rfl, rfl, rfl, eF rfl zw, trivial⟩ ⟨by omega, hw0, hS, hL, hd, hM⟩))
     ·refine aD (aD (aB (aA rfl rfl (aI rfl rfl rfl rfl (aG (aE ?_))))));refine aK rfl (fun h214 => ?_) (fun h214 => ?_)
      ·simp only [decide_eq_true_eq] at h214;refine aX (aE (aD (bN (aD (aB (aA rfl rfl ?_))))))
       (refine aI rfl rfl (dE (aV ?_ ?_)) rfl ?_; (omega); (omega))
       refine aA rfl rfl ?_
       (refine aI rfl rfl (cJ (aV ?_ ?_)) rfl ?_; (omega); (omega))
       refine aO rfl dM rfl (aL rfl u27 rfl hL.c1 rfl (bB rfl u27 rfl (aI rfl rfl rfl rfl (aG (aE ?_)))));refine aK rfl (fun h215 => ?_) (fun h215 => ?_)
       ·simp only [decide_eq_true_eq] at h215;omega
       ·simp only [decide_eq_false_iff_not, Int.not_lt] at h215;refine aX (cQ (aE (aB (aA rfl rfl ?_))))
        (refine aI rfl rfl (cJ (aV ?_ ?_)) rfl ?_; (omega); (omega))
        refine aF rfl rfl (aG ?_);rw [← oN hjk] at hM;exact bZ (m2 - 1) (j + 1) zw ⟨rfl, rfl, rfl, rfl, eF rfl zw, rfl, rfl, trivial⟩ ⟨by omega, hw0, hS, hL, hd, hM⟩
      ·simp only [decide_eq_false_iff_not, Int.not_lt] at h214;omega
     ·subst hj;obtain ⟨gd, od, rfl, hgd, hgdl, hgdc, hrd⟩ := hd.lit zw;have had := ha (2 * i) zw;refine aD (aD (aB (aA rfl rfl (aI rfl rfl rfl rfl (aG (aE ?_))))));refine aK rfl (fun h214 => ?_) (fun h214 => ?_)
      ·simp only [decide_eq_true_eq] at h214;refine aX (aE (aD (bN (aD (aB (aA rfl rfl ?_))))))
       (refine aI rfl rfl (dE (aV ?_ ?_)) rfl ?_; (omega); (omega))
       refine aA rfl rfl ?_
       (refine aI rfl rfl (cJ (aV ?_ ?_)) rfl ?_; (omega); (omega))
       refine aO rfl dM rfl (aL rfl u27 rfl hL.c1 rfl (bB rfl u27 rfl (aI rfl rfl rfl rfl (aG (aE ?_)))));refine aK rfl (fun h215 => ?_) (fun h215 => ?_)
       ·simp only [decide_eq_true_eq] at h215;refine cP [] cL zy ?_;replace hw0 := (aC _).le hw0;replace hS := hS.trans (aC _);replace hL := hL.same (aC _);replace hM := hM.same (aC _);replace hd := hd.same (aC _);refine aA rfl rfl (aA rfl rfl (cC rfl rfl u22 fE zw zw rfl (aL rfl u25 rfl (hM.cell zw) rfl (aO rfl dM rfl (aL rfl u27 rfl hL.c1 rfl (aA rfl rfl ?_))))))
        (refine aI rfl rfl (dE (aV ?_ ?_)) rfl ?_; (omega); (omega))
        refine aA rfl rfl ?_
        (refine aI rfl rfl (cJ (aV ?_ ?_)) rfl ?_; (omega); (omega))
        refine cC rfl rfl u27 eC zw zw rfl (aL rfl u67 rfl (show _ = some (Value.int .u32 (a (2 * i) : Nat)) by rw [Nat.mul_one, show Int.toNat _ = 2 * i by omega]; exact hrd (2 * i) zw) rfl ?_)
        (refine cW rfl u67 u25 (dD ?_ ?_) rfl ?_; (omega); (omega))
        refine aA rfl rfl ?_
        (refine aI rfl rfl (dE (aV ?_ ?_)) rfl ?_; (omega); (omega))
        refine eQ rfl rfl zw (z := ((a (2 * i) * 1 : Nat) : Int)) (nO (D := 1) rfl zw) rfl (aI rfl rfl (or_a (by rw [show 0 + Int.toNat ((i : Nat) : Int) * 1 = i by omega]; exact qX _ _ _) had) rfl (cC rfl rfl u22 fE zw zw rfl (cM rfl rfl rfl fE (hM.cell zw) (hM.fz _) ?_)));intro w21 hn hs;replace hM := hM.set' hn;replace hw0 := hs.le hw0;replace hS := hS.trans hs;replace hL := hL.same hs;replace hd := hd.same hs;clear hn hs;refine aG (cQ (aE (aB (aA rfl rfl ?_))))
        (refine aI rfl rfl (cJ (aV ?_ ?_)) rfl ?_; (omega); (omega))
        refine aF rfl rfl (aG ?_);replace hM := hM.congr fun r _ => lG zw (lY (a := a) (k := k) (i := i) zw) r;exact bZ (m2 - 1) (0 + 1) zw ⟨rfl, rfl, rfl, rfl, eF rfl zw, rfl, rfl, trivial⟩ ⟨by omega, hw0, hS, hL, hd, hM⟩
       ·simp only [decide_eq_false_iff_not, Int.not_lt] at h215;omega
      ·simp only [decide_eq_false_iff_not, Int.not_lt] at h214;omega
     ·subst hj;obtain ⟨gd, od, rfl, hgd, hgdl, hgdc, hrd⟩ := hd.lit zw;have had := ha (2 * i + 1) zw;have hae := ha (2 * i) zw;refine aD (aD (aB (aA rfl rfl (aI rfl rfl rfl rfl (aG (aE ?_))))));refine aK rfl (fun h214 => ?_) (fun h214 => ?_)
      ·simp only [decide_eq_true_eq] at h214;refine aX (aE (aD (bN (aD (aB (aA rfl rfl ?_))))))
       (refine aI rfl rfl (dE (aV ?_ ?_)) rfl ?_; (omega); (omega))
       refine aA rfl rfl ?_
       (refine aI rfl rfl (cJ (aV ?_ ?_)) rfl ?_; (omega); (omega))
       refine aO rfl dM rfl (aL rfl u27 rfl hL.c1 rfl (bB rfl u27 rfl (aI rfl rfl rfl rfl (aG (aE ?_)))));refine aK rfl (fun h215 => ?_) (fun h215 => ?_)
       ·simp only [decide_eq_true_eq] at h215;refine cP [] cL zy ?_;replace hw0 := (aC _).le hw0;replace hS := hS.trans (aC _);replace hL := hL.same (aC _);replace hM := hM.same (aC _);replace hd := hd.same (aC _);refine aA rfl rfl (aA rfl rfl (cC rfl rfl u22 fE zw zw rfl (aL rfl u25 rfl (hM.cell zw) rfl (aO rfl dM rfl (aL rfl u27 rfl hL.c1 rfl (aA rfl rfl ?_))))))
        (refine aI rfl rfl (dE (aV ?_ ?_)) rfl ?_; (omega); (omega))
        refine aA rfl rfl ?_
        (refine aI rfl rfl (cJ (aV ?_ ?_)) rfl ?_; (omega); (omega))
        refine cC rfl rfl u27 eC zw zw rfl (aL rfl u67 rfl (show _ = some (Value.int .u32 (a (2 * i + 1) : Nat)) by rw [Nat.mul_one, show Int.toNat _ = 2 * i + 1 by omega]; exact hrd (2 * i + 1) zw) rfl ?_)
        (refine cW rfl u67 u25 (dD ?_ ?_) rfl ?_; (omega); (omega))
        refine aA rfl rfl ?_
        (refine aI rfl rfl (dE (aV ?_ ?_)) rfl ?_; (omega); (omega))
        refine eQ rfl rfl zw (z := ((a (2 * i + 1) * 4294967296 : Nat) : Int)) (nO (D := 4294967296) rfl zw) rfl (aI rfl rfl (or_b (by rw [show 0 + Int.toNat ((i : Nat) : Int) * 1 = i by omega]; exact qW zw) hae had) rfl (cC rfl rfl u22 fE zw zw rfl (cM rfl rfl rfl fE (hM.cell zw) (hM.fz _) ?_)));intro w21 hn hs;replace hM := hM.set' hn;replace hw0 := hs.le hw0;replace hS := hS.trans hs;replace hL := hL.same hs;replace hd := hd.same hs;clear hn hs;refine aG (cQ (aE (aB (aA rfl rfl ?_))))
        (refine aI rfl rfl (cJ (aV ?_ ?_)) rfl ?_; (omega); (omega))
        refine aF rfl rfl (aG ?_);replace hM := hM.congr fun r _ => lG zw (qV (a := a) (k := k) (i := i) zw) r;exact bZ (m2 - 1) (1 + 1) zw ⟨rfl, rfl, rfl, rfl, eF rfl zw, rfl, rfl, trivial⟩ ⟨by omega, hw0, hS, hL, hd, hM⟩
       ·simp only [decide_eq_false_iff_not, Int.not_lt] at h215;omega
      ·simp only [decide_eq_false_iff_not, Int.not_lt] at h214;omega
    ·simp only [decide_eq_false_iff_not, Int.not_lt] at h213;omega
 ·simp only [decide_eq_false_iff_not, Int.not_lt] at h208;omega
theorem toWords {w : World} (s : Value) (x : Int) (h1 : Mz w (fun g => g < w.heap.size) s x.natAbs) (hx : x.natAbs < midN) : Ret Tryz.prog 39 #[.agg #[.bool (decide (x < 0)), s], .int .i64 2] w fun v w' => ∃ g b, v = .tuple #[.slice (some ⟨g, 0, none⟩) 2 2, .bool b] ∧ w.heap.size ≤ g ∧ g < w'.heap.size ∧ Rd w' g 0 2 (ug (tw x)) ∧ (b = true ↔ -((2 ^ 127 : Nat) : Int) ≤ x ∧ x < ((2 ^ 127 : Nat) : Int)) ∧ Same [] w w' := by
 rcases (show x < 0 ∨ (0 ≤ x ∧ x < ((2 ^ 127 : Nat) : Int)) ∨ ((2 ^ 127 : Nat) : Int) ≤ x by omega) with h | h | h
 ·exact uF s x h1 hx h
 ·exact uE s x h1 hx h
 ·exact uD s x h1 hx h
end Go.Proofs.YtccicbpeajdjgaaGreatDoor.Vm
