/- Words in a row moved by bits, multiplied by a word, subtracted. -/
import Derived.Test.YtccicbpeajdjgaaGreatDoorQVm
import Derived.Test.YtccicbpeajdjgaaGreatDoorQTq
set_option linter.unusedVariables false
set_option linter.unusedSimpArgs false
namespace Go.Proofs.YtccicbpeajdjgaaGreatDoor.Vm
open Go Mix Go.RowKit Wd
set_option maxRecDepth 20000
/-- one step of a subtraction of rows of words -/
theorem iM {P A Bn Y a y c b c2 : Nat} (h : Bn + Y = A + c * P) (h2 : b + y + c = a + c2 * 18446744073709551616) : (Bn + b * P) + (Y + y * P) = (A + a * P) + c2 * (P * 18446744073709551616) := by
 have h3 : (b + y + c) * P = (a + c2 * 18446744073709551616) * P := by rw [h2]
 rw [Nat.add_mul, Nat.add_mul, Nat.add_mul] at h3;rw [Nat.mul_comm P, ← Nat.mul_assoc];omega
/-- one step of a product of a row of words and a word -/
theorem mQ {P A Bn y a c b c2 : Nat} (h : Bn + c * P = A * y) (h2 : a * y + c = c2 * 18446744073709551616 + b) : (Bn + b * P) + c2 * (P * 18446744073709551616) = (A + a * P) * y := by
 have h3 : (a * y + c) * P = (c2 * 18446744073709551616 + b) * P := by rw [h2]
 rw [Nat.add_mul, Nat.add_mul] at h3;rw [Nat.mul_comm P, ← Nat.mul_assoc, Nat.add_mul, Nat.mul_right_comm a];omega
theorem uA {b : Nat → Nat} {i x : Nat} : un (fun j => if j = i then x else b j) (i + 1) = un b i + x * 18446744073709551616 ^ i := by
 rw [gO, if_pos rfl]
 congr 1
 exact pO fun j hj => if_neg zw
theorem cf174 (us : Array Value) (w : World) : (callFunc 174 us).run Tryz.prog w = .ok (.enter 174 us) w := by kernel_rfl
theorem cf215 (us : Array Value) (w : World) : (callFunc 215 us).run Tryz.prog w = .ok (.enter 215 us) w := by kernel_rfl
theorem cf219 (us : Array Value) (w : World) : (callFunc 219 us).run Tryz.prog w = .ok (.enter 219 us) w := by kernel_rfl
theorem cf240 (us : Array Value) (w : World) : (callFunc 240 us).run Tryz.prog w = .ok (.enter 240 us) w := by kernel_rfl
theorem cf250 (us : Array Value) (w : World) : (callFunc 250 us).run Tryz.prog w = .ok (.enter 250 us) w := by kernel_rfl
set_option maxHeartbeats 200000 in
theorem mulWW {w : World} (x y : Nat) (hx : x < 18446744073709551616) (hy : y < 18446744073709551616) :
 Ret Tryz.prog 176 #[.int .u64 (x : Nat), .int .u64 (y : Nat)] w fun v w' => v = .tuple #[.int .u64 ((x * y / 18446744073709551616 : Nat) : Int), .int .u64 ((x * y % 18446744073709551616 : Nat) : Int)] ∧ w' = w := by
 obtain ⟨p, hp⟩ : ∃ z, z = x * y := ⟨_, rfl⟩
 have hpl : p < 18446744073709551616 * 18446744073709551616 := by rw [hp]; exact Nat.mul_lt_mul_of_lt_of_le hx (Nat.le_of_lt hy) zo
 rw [← hp];refine aS Tryz.func176 Tryz.ntmps176 rfl rfl (aD (aB (aF rfl rfl (aF rfl rfl (aG (aE (aD (aB (aA rfl rfl (aA rfl rfl (aR rfl rfl sK rfl rfl (mulB x y hx hy) ?_)))))))))));rintro _ w99 ⟨rfl, hw99⟩;replace hw99 := hw99.symm;subst hw99;rw [← hp];exact aA rfl rfl (aY rfl rfl rfl (aY rfl rfl rfl (aF rfl rfl (aF rfl rfl (aG (aE (aD (aB (aA rfl rfl (aA rfl rfl (aF rfl rfl (aF rfl rfl (aG (aE (aZ rfl rfl ⟨rfl, rfl⟩)))))))))))))))
set_option maxHeartbeats 400000 in
theorem vN {w : World} (x1 x0 y1 y0 : Nat) (hx0 : x0 < 18446744073709551616) (hy0 : y0 < 18446744073709551616) (hc : y1 < x1) :
 Ret Tryz.prog 216 #[.int .u64 (x1 : Nat), .int .u64 (x0 : Nat), .int .u64 (y1 : Nat), .int .u64 (y0 : Nat)] w fun v w' => v = .bool (decide (y1 * 18446744073709551616 + y0 < x1 * 18446744073709551616 + x0)) ∧ w' = w := by
 refine aS Tryz.func216 Tryz.ntmps216 rfl rfl (aD (aB (aF rfl rfl (aG (aE (aD (aB (aA rfl rfl (aA rfl rfl (aI rfl rfl rfl rfl (aA rfl rfl (aW rfl rfl rfl zz (aW rfl rfl rfl zz (aW rfl rfl rfl zz (aW rfl rfl rfl zz (dU rfl rfl rfl (dU rfl rfl rfl (dU rfl rfl rfl (aW rfl rfl rfl zz (cH rfl zz rfl rfl (aF rfl rfl (aG (aE (aZ rfl rfl ?_))))))))))))))))))))))))
 have e9 : ∀ a b : Bool, a = b → tupV [Value.bool a] = .bool b := fun a b h => by rw [h]; rfl
 refine ⟨e9 _ _ ?_, rfl⟩
 first | (rw [decide_eq_decide]; omega) | (symm; rw [decide_eq_true_eq]; omega) | (symm; rw [decide_eq_false_iff_not]; omega)
set_option maxHeartbeats 400000 in
theorem vM {w : World} (x1 x0 y1 y0 : Nat) (hx0 : x0 < 18446744073709551616) (hy0 : y0 < 18446744073709551616) (hc : x1 = y1) :
 Ret Tryz.prog 216 #[.int .u64 (x1 : Nat), .int .u64 (x0 : Nat), .int .u64 (y1 : Nat), .int .u64 (y0 : Nat)] w fun v w' => v = .bool (decide (y1 * 18446744073709551616 + y0 < x1 * 18446744073709551616 + x0)) ∧ w' = w := by
 refine aS Tryz.func216 Tryz.ntmps216 rfl rfl (aD (aB (aF rfl rfl (aG (aE (aD (aB (aA rfl rfl (aA rfl rfl (aI rfl rfl rfl rfl (aA rfl rfl (aJ rfl rfl zz (aA rfl rfl (aJ rfl rfl zz (aA rfl rfl (aJ rfl rfl zz (aI rfl rfl rfl rfl (aJ rfl rfl zz (aA rfl rfl (aJ rfl rfl zz (aA rfl rfl (aJ rfl rfl zz (aA rfl rfl (aJ rfl rfl zz (aI rfl rfl rfl rfl (aJ rfl rfl zz (cH rfl zz rfl rfl (cE rfl zz rfl rfl (aF rfl rfl (aG (aE (aZ rfl rfl ?_))))))))))))))))))))))))))))))))
 have e9 : ∀ a b : Bool, a = b → tupV [Value.bool a] = .bool b := fun a b h => by rw [h]; rfl
 refine ⟨e9 _ _ ?_, rfl⟩
 first | (rw [decide_eq_decide]; omega) | (symm; rw [decide_eq_true_eq]; omega) | (symm; rw [decide_eq_false_iff_not]; omega)
set_option maxHeartbeats 400000 in
theorem vL {w : World} (x1 x0 y1 y0 : Nat) (hx0 : x0 < 18446744073709551616) (hy0 : y0 < 18446744073709551616) (hc : x1 < y1) :
 Ret Tryz.prog 216 #[.int .u64 (x1 : Nat), .int .u64 (x0 : Nat), .int .u64 (y1 : Nat), .int .u64 (y0 : Nat)] w fun v w' => v = .bool (decide (y1 * 18446744073709551616 + y0 < x1 * 18446744073709551616 + x0)) ∧ w' = w := by
 refine aS Tryz.func216 Tryz.ntmps216 rfl rfl (aD (aB (aF rfl rfl (aG (aE (aD (aB (aA rfl rfl (aA rfl rfl (aI rfl rfl rfl rfl (aA rfl rfl (aJ rfl rfl zz (aA rfl rfl (aJ rfl rfl zz (aA rfl rfl (aJ rfl rfl zz (aI rfl rfl rfl rfl (aJ rfl rfl zz (aA rfl rfl (aW rfl rfl rfl zz (aW rfl rfl rfl zz (aW rfl rfl rfl zz (aJ rfl rfl zz (cE rfl zz rfl rfl (cE rfl zz rfl rfl (aF rfl rfl (aG (aE (aZ rfl rfl ?_)))))))))))))))))))))))))))))
 have e9 : ∀ a b : Bool, a = b → tupV [Value.bool a] = .bool b := fun a b h => by rw [h]; rfl
 refine ⟨e9 _ _ ?_, rfl⟩
 first | (rw [decide_eq_decide]; omega) | (symm; rw [decide_eq_true_eq]; omega) | (symm; rw [decide_eq_false_iff_not]; omega)
theorem greater {w : World} (x1 x0 y1 y0 : Nat) (hx0 : x0 < 18446744073709551616) (hy0 : y0 < 18446744073709551616) : Ret Tryz.prog 216 #[.int .u64 (x1 : Nat), .int .u64 (x0 : Nat), .int .u64 (y1 : Nat), .int .u64 (y0 : Nat)] w (fun v w' => v = .bool (decide (y1 * 18446744073709551616 + y0 < x1 * 18446744073709551616 + x0)) ∧ w' = w) := by
 rcases (show y1 < x1 ∨ x1 = y1 ∨ x1 < y1 by omega) with h | h | h
 ·exact vN x1 x0 y1 y0 hx0 hy0 h
 ·exact vM x1 x0 y1 y0 hx0 hy0 h
 ·exact vL x1 x0 y1 y0 hx0 hy0 h
set_option maxHeartbeats 400000 in
theorem tJ {w : World} (x y c : Nat) (hx : x < 18446744073709551616) (hy : y < 18446744073709551616) (hc : c < 18446744073709551616) :
 Ret Tryz.prog 250 #[.int .u64 (x : Nat), .int .u64 (y : Nat), .int .u64 (c : Nat)] w fun v w' => v = .tuple #[.int .u64 (((x * y + c) / 18446744073709551616 : Nat) : Int), .int .u64 (((x * y + c) % 18446744073709551616 : Nat) : Int)] ∧ w' = w := by
 obtain ⟨p, hp⟩ : ∃ z, z = x * y := ⟨_, rfl⟩
 have hpl : p ≤ 18446744073709551615 * 18446744073709551615 := by rw [hp]; exact Nat.mul_le_mul zw zw
 rw [← hp];refine aS Tryz.func250 Tryz.ntmps250 rfl rfl (aD (aB (aF rfl rfl (aF rfl rfl (aG (aE (aD (aB (aA rfl rfl (aA rfl rfl (aR rfl rfl sK rfl rfl (mulB x y hx hy) ?_)))))))))));rintro _ w99 ⟨rfl, hw99⟩;replace hw99 := hw99.symm;subst hw99;rw [← hp];refine aA rfl rfl (aY rfl rfl rfl (aY rfl rfl rfl (aF rfl rfl (aF rfl rfl (aG (aE (aD (aB (aF rfl rfl (aG (aE (aD (aB (aA rfl rfl (aA rfl rfl (aR rfl rfl wK rfl rfl (addB (p % 18446744073709551616) c zw hc 0 zo) ?_))))))))))))))));rintro _ w99 ⟨rfl, hw99⟩;replace hw99 := hw99.symm;subst hw99;exact aA rfl rfl (aY rfl rfl rfl (aY rfl rfl rfl (aF rfl rfl (aF rfl rfl (aG (aE (aD (aB (aA rfl rfl (aA rfl rfl (aI rfl rfl (cJ (pE zw)) rfl (aA rfl rfl (aF rfl rfl (aF rfl rfl (aG (aE (aZ rfl rfl ⟨by rw [show p / 18446744073709551616 + (p % 18446744073709551616 + c + 0) / 18446744073709551616 = (p + c) / 18446744073709551616 by omega, show (p % 18446744073709551616 + c + 0) % 18446744073709551616 = (p + c) % 18446744073709551616 by omega]; rfl, rfl⟩)))))))))))))))))
set_option maxHeartbeats 1000000 in
theorem lshG {w : World} (gz cz N : Nat) (fz : Nat → Value) (hf : Row w gz 150 N fz) (hN : 2 ≤ N) (gx cx : Nat) (hne : gx ≠ gz) (hgx : gx < w.heap.size) (x1 x0 s : Nat) (hX0 : w.cell? ⟨gx, 0, none⟩ = some (.int .u64 (x0 : Nat))) (hX1 : w.cell? ⟨gx, 1, none⟩ = some (.int .u64 (x1 : Nat))) (hx0 : x0 < 18446744073709551616) (hx1 : x1 < 18446744073709551616) (hs : 0 < s ∧ s < 64) :
 Ret Tryz.prog 215 #[.slice (some ⟨gz, 0, none⟩) 2 cz, .slice (some ⟨gx, 0, none⟩) 2 cx, .int .u64 (s : Nat)] w fun v w' => v = .int .u64 ((x1 / 2 ^ (64 - s) : Nat) : Int) ∧ (∃ f, Row w' gz 150 N f ∧ f 0 = .int .u64 ((x0 * 2 ^ s % 18446744073709551616 : Nat) : Int) ∧ f 1 = .int .u64 ((x1 * 2 ^ s % 18446744073709551616 + x0 / 2 ^ (64 - s) : Nat) : Int)) ∧ Same [gz] w w' := by
 have hS := Same.refl [gz] w;obtain ⟨hs0, hs1⟩ := hs;refine aS Tryz.func215 Tryz.ntmps215 rfl rfl (aD (aB (aF rfl rfl (aG (aE (aD (aD (aB (aA rfl rfl (bB rfl u125 rfl (aA rfl rfl (bB rfl u125 rfl (aI rfl rfl rfl rfl (aG (aE ?_)))))))))))))));refine aK rfl (fun h174 => ?_) (fun h174 => ?_)
 ·first | (cases h174; done) | (simp at h174; done) | (simp at h174; omega)
 ·simp only [bne_eq_false_iff_eq] at h174;refine aX (aE (aD (aD (aB (aA rfl rfl (aI rfl rfl rfl rfl (aG (aE ?_))))))));refine aK rfl (fun h178 => ?_) (fun h178 => ?_)
  ·first | (cases h178; done) | (simp at h178; done) | (simp at h178; omega)
  ·simp only [beq_eq_false_iff_ne, ne_eq] at h178;refine aX (aE (aD (aD (aB (aA rfl rfl (bB rfl u125 rfl (aI rfl rfl rfl rfl (aG (aE ?_)))))))));refine aK rfl (fun h182 => ?_) (fun h182 => ?_)
   ·first | (cases h182; done) | (simp at h182; done) | (simp at h182; omega)
   ·simp only [beq_eq_false_iff_ne, ne_eq] at h182;refine aX (aE (aD (aB (aA rfl rfl (aI rfl rfl (sQ zw) rfl (aF rfl rfl (aG (aE (aD (aB (aA rfl rfl ?_)))))))))))
    (refine aI rfl rfl (cT (z := ((64 - s : Nat) : Int)) ?_) rfl ?_; (rw [dD zw zw]; omega))
    refine aF rfl rfl (aG (aE (aD (aB (aA rfl rfl (aI rfl rfl (sQ zw) rfl (aF rfl rfl (aG (aE (aD (aB (aA rfl rfl (aA rfl rfl (bB rfl u125 rfl ?_))))))))))))))
    (refine aI rfl rfl (cT (aV ?_ ?_)) rfl ?_; (omega); (omega))
    refine cC rfl rfl u125 cV zw zw rfl (aL rfl u150 rfl (show _ = some (Value.int .u64 (x1 : Nat)) from hX1) rfl (aA rfl rfl (dF rfl rfl zw (dK (r := 64 - s) (by show 64 - s ≤ 64; omega)) rfl (aF rfl rfl (aG (aE (aD (aD (aB (aA rfl rfl (bB rfl u125 rfl ?_)))))))))))
    (refine aI rfl rfl (cT (aV ?_ ?_)) rfl ?_; (omega); (omega))
    refine aF rfl rfl (aG (aE (bN (dR (fun i : Nat => [(0, .slice (some ⟨gz, 0, none⟩) 2 cz), (1, .slice (some ⟨gx, 0, none⟩) 2 cx), (2, .int .u64 (s : Nat)), (6, .int .u64 (x1 / 2 ^ (64 - s) : Nat)), (7, .int .u64 (64 - s : Nat)), (8, .int .i64 (i : Nat))]) (fun m i w' => m = i ∧ gx < w'.heap.size ∧ w'.cell? ⟨gx, 0, none⟩ = some (.int .u64 (x0 : Nat)) ∧ Same [gz] w w' ∧ (i = 1 ∧ w'.cell? ⟨gx, 1, none⟩ = some (.int .u64 (x1 : Nat)) ∧ (∃ f, Row w' gz 150 N f) ∨ i = 0 ∧ ∃ f, Row w' gz 150 N f ∧ f 1 = .int .u64 ((x1 * 2 ^ s % 18446744073709551616 + x0 / 2 ^ (64 - s) : Nat) : Int))) 1 1 ⟨rfl, rfl, rfl, rfl, rfl, eF rfl zw, trivial⟩ ⟨rfl, hgx, hX0, hS, .inl ⟨rfl, hX1, _, hf⟩⟩ ?_))));clear hX0 hX1 hf hgx hS;rintro m i w1 ⟨hm, hgx, hX0, hS, ⟨rfl, hX1, f, hf⟩ | ⟨rfl, f, hf, hf1⟩⟩
    ·refine aD (aD (aB (aA rfl rfl (aI rfl rfl rfl rfl (aG (aE ?_))))));refine aK rfl (fun h189 => ?_) (fun h189 => ?_)
     ·simp only [gt_iff_lt, decide_eq_true_eq] at h189;refine aX (aE (aD (bN (cP [] cL zy ?_))));replace hS := hS.trans (aC _);replace hX0 := dI hX0 (aC _);replace hX1 := dI hX1 (aC _);replace hf := hf.same (aC _);replace hgx := (aC _).lt hgx;refine aA rfl rfl (aA rfl rfl (aA rfl rfl (aA rfl rfl (cC rfl rfl u125 cV zw zw rfl (aL rfl u150 rfl (show _ = some (Value.int .u64 (x1 : Nat)) from hX1) rfl (aA rfl rfl (eQ rfl rfl zw (fI (z := x1 * 2 ^ (s) % 18446744073709551616) zw rfl) rfl (aA rfl rfl (aA rfl rfl ?_)))))))))
      (refine aI rfl rfl (cT (aV ?_ ?_)) rfl ?_; (omega); (omega))
      refine cC rfl rfl u125 cV zw zw rfl (aL rfl u150 rfl (show _ = some (Value.int .u64 (x0 : Nat)) from hX0) rfl (aA rfl rfl (dF rfl rfl zw (dK (r := 64 - s) (by show 64 - s ≤ 64; omega)) rfl (aI rfl rfl ((nS zw (iS hx0 zw)).1) rfl (cC rfl rfl u125 cV zw zw rfl (cM rfl rfl rfl cV (hf.cell (i := 1) zw) (hf.fz _) ?_))))));intro w2 hn hs9;replace hf := hf.set' hn;replace hS := hS.trans hs9;replace hX0 := dI hX0 hs9 (by simp; exact hne) hgx;replace hgx := hs9.lt hgx;refine aG (cQ (aE (aB (aA rfl rfl ?_))))
      (refine aI rfl rfl (cT (aV ?_ ?_)) rfl ?_; (omega); (omega))
      exact aF rfl rfl (aG (bZ 0 0 zw ⟨rfl, rfl, rfl, rfl, rfl, eF rfl zw, trivial⟩ ⟨rfl, hgx, hX0, hS, .inr ⟨rfl, _, hf, by simp [upd]⟩⟩))
     ·first | (cases h189; done) | (simp at h189; done) | (simp at h189; omega)
    ·refine aD (aD (aB (aA rfl rfl (aI rfl rfl rfl rfl (aG (aE ?_))))));refine aK rfl (fun h189 => ?_) (fun h189 => ?_)
     ·first | (cases h189; done) | (simp at h189; done) | (simp at h189; omega)
     ·simp only [gt_iff_lt, decide_eq_false_iff_not, Int.not_lt] at h189;refine dG rfl (aE (aD (aB (aA rfl rfl (aA rfl rfl (cC rfl rfl u125 cV zw zw rfl (aL rfl u150 rfl (show _ = some (Value.int .u64 (x0 : Nat)) from hX0) rfl (aA rfl rfl (eQ rfl rfl zw (fI (z := x0 * 2 ^ (s) % 18446744073709551616) zw rfl) rfl (cC rfl rfl u125 cV zw zw rfl (cM rfl rfl rfl cV (hf.cell (i := 0) zw) (hf.fz _) ?_)))))))))));intro w2 hn hs9;replace hf := hf.set' hn;replace hS := hS.trans hs9;exact aG (aE (aZ rfl rfl ⟨rfl, ⟨_, hf, by simp [upd], by simp [upd]; exact hf1⟩, hS⟩))
set_option maxHeartbeats 200000 in
theorem lsh {w : World} (gz cz N : Nat) (fz : Nat → Value) (hf : Row w gz 150 N fz) (hN : 2 ≤ N) (gx cx : Nat) (hne : gx ≠ gz) (hgx : gx < w.heap.size) (x1 x0 s : Nat) (hX0 : w.cell? ⟨gx, 0, none⟩ = some (.int .u64 (x0 : Nat))) (hX1 : w.cell? ⟨gx, 1, none⟩ = some (.int .u64 (x1 : Nat))) (hx0 : x0 < 18446744073709551616) (hx1 : x1 < 18446744073709551616) (hs : 0 < s ∧ s < 64) :
 Ret Tryz.prog 166 #[.slice (some ⟨gz, 0, none⟩) 2 cz, .slice (some ⟨gx, 0, none⟩) 2 cx, .int .u64 (s : Nat)] w fun v w' => v = .int .u64 ((x1 / 2 ^ (64 - s) : Nat) : Int) ∧ (∃ f, Row w' gz 150 N f ∧ f 0 = .int .u64 ((x0 * 2 ^ s % 18446744073709551616 : Nat) : Int) ∧ f 1 = .int .u64 ((x1 * 2 ^ s % 18446744073709551616 + x0 / 2 ^ (64 - s) : Nat) : Int)) ∧ Same [gz] w w' := by
 refine aS Tryz.func166 Tryz.ntmps166 rfl rfl (aD (aB (aF rfl rfl (aG (aE (aD (aB (aA rfl rfl (aA rfl rfl (aA rfl rfl (aR rfl rfl cf215 rfl rfl (lshG gz cz N fz hf hN gx cx hne hgx x1 x0 s hX0 hX1 hx0 hx1 hs) ?_)))))))))));rintro v9 w1 ⟨rfl, h9⟩;exact aF rfl rfl (aG (aE (aZ rfl rfl ⟨rfl, h9⟩)))
set_option maxHeartbeats 1000000 in
theorem rshG {w : World} (gz cz N : Nat) (fz : Nat → Value) (hf : Row w gz 150 N fz) (hN : 3 ≤ N) (u1 u0 s : Nat) (hu0 : fz 0 = .int .u64 (u0 : Nat)) (hu1 : fz 1 = .int .u64 (u1 : Nat)) (hu2 : fz 2 = .int .u64 ((0 : Nat) : Int)) (h0 : u0 < 18446744073709551616) (h1 : u1 < 18446744073709551616) (hs : 0 < s ∧ s < 64) :
 Ret Tryz.prog 219 #[.slice (some ⟨gz, 0, none⟩) 3 cz, .slice (some ⟨gz, 0, none⟩) 3 cz, .int .u64 (s : Nat)] w fun v w' => (∃ f, Row w' gz 150 N f ∧ f 0 = .int .u64 ((u1 * 2 ^ (64 - s) % 18446744073709551616 + u0 / 2 ^ s : Nat) : Int) ∧ f 1 = .int .u64 ((u1 / 2 ^ s : Nat) : Int) ∧ f 2 = .int .u64 ((0 : Nat) : Int)) ∧ Same [gz] w w' := by
 have hS := Same.refl [gz] w;obtain ⟨hs0, hs1⟩ := hs;have hf0 := hu0;have hf1 := hu1;have hf2 := hu2;refine aS Tryz.func219 Tryz.ntmps219 rfl rfl (aD (aB (aF rfl rfl (aG (aE (aD (aD (aB (aA rfl rfl (bB rfl u125 rfl (aA rfl rfl (bB rfl u125 rfl (aI rfl rfl rfl rfl (aG (aE ?_)))))))))))))));refine aK rfl (fun h197 => ?_) (fun h197 => ?_)
 ·first | (cases h197; done) | (simp at h197; done) | (simp at h197; omega)
 ·simp only [bne_eq_false_iff_eq] at h197;refine aX (aE (aD (aD (aB (aA rfl rfl (aI rfl rfl rfl rfl (aG (aE ?_))))))));refine aK rfl (fun h201 => ?_) (fun h201 => ?_)
  ·first | (cases h201; done) | (simp at h201; done) | (simp at h201; omega)
  ·simp only [beq_eq_false_iff_ne, ne_eq] at h201;refine aX (aE (aD (aD (aB (aA rfl rfl (bB rfl u125 rfl (aI rfl rfl rfl rfl (aG (aE ?_)))))))));refine aK rfl (fun h205 => ?_) (fun h205 => ?_)
   ·first | (cases h205; done) | (simp at h205; done) | (simp at h205; omega)
   ·simp only [beq_eq_false_iff_ne, ne_eq] at h205;refine aX (aE (aD (aB (aA rfl rfl (aI rfl rfl (sQ zw) rfl (aF rfl rfl (aG (aE (aD (aB (aA rfl rfl ?_)))))))))))
    (refine aI rfl rfl (cT (z := ((64 - s : Nat) : Int)) ?_) rfl ?_; (rw [dD zw zw]; omega))
    refine aF rfl rfl (aG (aE (aD (aB (aA rfl rfl (aI rfl rfl (sQ zw) rfl (aF rfl rfl (aG (aE (aD (aB (aA rfl rfl (cC rfl rfl u125 cV zw zw rfl (aL rfl u150 rfl (show _ = some (Value.int .u64 (u0 : Nat)) from (hf.cell (i := 0) zw).trans (congrArg some hf0)) rfl (aA rfl rfl (eQ rfl rfl zw (fI (z := u0 * 2 ^ (64 - s) % 18446744073709551616) zw rfl) rfl (aF rfl rfl (aG (aE (aD (aD (aB (aF rfl rfl (aG (aE (bN (dR (fun i : Nat => [(0, .slice (some ⟨gz, 0, none⟩) 3 cz), (1, .slice (some ⟨gz, 0, none⟩) 3 cz), (2, .int .u64 (s : Nat)), (6, .int .u64 (u0 * 2 ^ (64 - s) % 18446744073709551616 : Nat)), (7, .int .u64 (64 - s : Nat)), (8, .int .i64 (i : Nat))]) (fun m i w' => m + i = 3 ∧ Same [gz] w w' ∧ ∃ f, Row w' gz 150 N f ∧ f 2 = .int .u64 ((0 : Nat) : Int) ∧ (i = 1 ∧ f 0 = .int .u64 (u0 : Nat) ∧ f 1 = .int .u64 (u1 : Nat) ∨ i = 2 ∧ f 0 = .int .u64 ((u1 * 2 ^ (64 - s) % 18446744073709551616 + u0 / 2 ^ s : Nat) : Int) ∧ f 1 = .int .u64 (u1 : Nat) ∨ i = 3 ∧ f 0 = .int .u64 ((u1 * 2 ^ (64 - s) % 18446744073709551616 + u0 / 2 ^ s : Nat) : Int) ∧ f 1 = .int .u64 ((u1 / 2 ^ s : Nat) : Int))) 2 1 ⟨rfl, rfl, rfl, rfl, rfl, eF rfl zw, trivial⟩ ⟨rfl, hS, _, hf, hu2, .inl ⟨rfl, hu0, hu1⟩⟩ ?_)))))))))))))))))))))))))));clear hf hS hf0 hf1 hf2;rintro m i w1 ⟨hm, hS, f, hf, hf2, ⟨rfl, hf0, hf1⟩ | ⟨rfl, hf0, hf1⟩ | ⟨rfl, hf0, hf1⟩⟩
    ·refine aD (aD (aB (aA rfl rfl (aA rfl rfl (bB rfl u125 rfl (aI rfl rfl rfl rfl (aG (aE ?_))))))));refine aK rfl (fun h212 => ?_) (fun h212 => ?_)
     ·simp only [decide_eq_true_eq] at h212;refine aX (aE (aD (bN (cP [] cL zy ?_))));replace hS := hS.trans (aC _);replace hf := hf.same (aC _);refine aA rfl rfl (aA rfl rfl ?_)
      (refine aI rfl rfl (cT (aV ?_ ?_)) rfl ?_; (omega); (omega))
      refine aA rfl rfl (aA rfl rfl ?_)
      (refine aI rfl rfl (cT (aV ?_ ?_)) rfl ?_; (omega); (omega))
      refine cC rfl rfl u125 cV zw zw rfl (aL rfl u150 rfl (show _ = some (Value.int .u64 (u0 : Nat)) from (hf.cell (i := 0) zw).trans (congrArg some hf0)) rfl (aA rfl rfl (dF rfl rfl zw (dK (r := s) (by show s ≤ 64; omega)) rfl (aA rfl rfl (aA rfl rfl (cC rfl rfl u125 cV zw zw rfl (aL rfl u150 rfl (show _ = some (Value.int .u64 (u1 : Nat)) from (hf.cell (i := 1) zw).trans (congrArg some hf1)) rfl (aA rfl rfl (eQ rfl rfl zw (fI (z := u1 * 2 ^ (64 - s) % 18446744073709551616) zw rfl) rfl (aI rfl rfl ((jA _ _ _).trans (nS (s := 64 - s) zw (by have := iS (x := u0) (s := 64 - s) h0 zw; rw [show 64 - (64 - s) = s by omega] at this; exact this)).1) rfl (cC rfl rfl u125 cV zw zw rfl (cM rfl rfl rfl cV (hf.cell zt) (hf.fz _) ?_))))))))))));intro w2 hn hs9;replace hf := hf.set' hn;replace hS := hS.trans hs9;refine aG (cQ (aE (aB (aA rfl rfl ?_))))
      (refine aI rfl rfl (cJ (aV ?_ ?_)) rfl ?_; (omega); (omega))
      exact aF rfl rfl (aG (bZ 1 2 zw ⟨rfl, rfl, rfl, rfl, rfl, eF rfl zw, trivial⟩ ⟨rfl, hS, _, hf, by simp [upd]; exact hf2, .inr (.inl ⟨rfl, by simp [upd], by simp [upd]; exact hf1⟩)⟩))
     ·first | (cases h212; done) | (simp at h212; done) | (simp at h212; omega)
    ·refine aD (aD (aB (aA rfl rfl (aA rfl rfl (bB rfl u125 rfl (aI rfl rfl rfl rfl (aG (aE ?_))))))));refine aK rfl (fun h212 => ?_) (fun h212 => ?_)
     ·simp only [decide_eq_true_eq] at h212;refine aX (aE (aD (bN (cP [] cL zy ?_))));replace hS := hS.trans (aC _);replace hf := hf.same (aC _);refine aA rfl rfl (aA rfl rfl ?_)
      (refine aI rfl rfl (cT (aV ?_ ?_)) rfl ?_; (omega); (omega))
      refine aA rfl rfl (aA rfl rfl ?_)
      (refine aI rfl rfl (cT (aV ?_ ?_)) rfl ?_; (omega); (omega))
      refine cC rfl rfl u125 cV zw zw rfl (aL rfl u150 rfl (show _ = some (Value.int .u64 (u1 : Nat)) from (hf.cell (i := 1) zw).trans (congrArg some hf1)) rfl (aA rfl rfl (dF rfl rfl zw (dK (r := s) (by show s ≤ 64; omega)) rfl (aA rfl rfl (aA rfl rfl (cC rfl rfl u125 cV zw zw rfl (aL rfl u150 rfl (show _ = some (Value.int .u64 (0 : Nat)) from (hf.cell (i := 2) zw).trans (congrArg some hf2)) rfl (aA rfl rfl (eQ rfl rfl zw (fI (z := 0 * 2 ^ (64 - s) % 18446744073709551616) zw rfl) rfl (aI rfl rfl ((jA _ _ _).trans (nS (s := 64 - s) zw (by have := iS (x := u1) (s := 64 - s) h1 zw; rw [show 64 - (64 - s) = s by omega] at this; exact this)).1) rfl ?_))))))))));rw [show 0 * 2 ^ (64 - s) % 18446744073709551616 + u1 / 2 ^ s = u1 / 2 ^ s by rw [Nat.zero_mul]; omega];refine cC rfl rfl u125 cV zw zw rfl (cM rfl rfl rfl cV (hf.cell zt) (hf.fz _) ?_);intro w2 hn hs9;replace hf := hf.set' hn;replace hS := hS.trans hs9;refine aG (cQ (aE (aB (aA rfl rfl ?_))))
      (refine aI rfl rfl (cJ (aV ?_ ?_)) rfl ?_; (omega); (omega))
      exact aF rfl rfl (aG (bZ 0 3 zw ⟨rfl, rfl, rfl, rfl, rfl, eF rfl zw, trivial⟩ ⟨rfl, hS, _, hf, by simp [upd]; exact hf2, .inr (.inr ⟨rfl, by simp [upd]; exact hf0, by simp [upd]⟩)⟩))
     ·first | (cases h212; done) | (simp at h212; done) | (simp at h212; omega)
    ·refine aD (aD (aB (aA rfl rfl (aA rfl rfl (bB rfl u125 rfl (aI rfl rfl rfl rfl (aG (aE ?_))))))));refine aK rfl (fun h212 => ?_) (fun h212 => ?_)
     ·first | (cases h212; done) | (simp at h212; done) | (simp at h212; omega)
     ·simp only [decide_eq_false_iff_not, Int.not_lt] at h212;refine dG rfl (aE (aD (aB (aA rfl rfl (aA rfl rfl (bB rfl u125 rfl ?_))))))
      (refine aI rfl rfl (cT (aV ?_ ?_)) rfl ?_; (omega); (omega))
      refine aA rfl rfl (aA rfl rfl (bB rfl u125 rfl ?_))
      (refine aI rfl rfl (cT (aV ?_ ?_)) rfl ?_; (omega); (omega))
      refine cC rfl rfl u125 cV zw zw rfl (aL rfl u150 rfl (show _ = some (Value.int .u64 (0 : Nat)) from (hf.cell (i := 2) zw).trans (congrArg some hf2)) rfl (aA rfl rfl (dF rfl rfl zw (dK (r := s) (by show s ≤ 64; omega)) rfl ?_)));rw [Nat.zero_div];refine cC rfl rfl u125 cV zw zw rfl (cM rfl rfl rfl cV (hf.cell zt) (hf.fz _) ?_);intro w2 hn hs9;replace hf := hf.set' hn;replace hS := hS.trans hs9;exact aG (aE (aZ rfl rfl ⟨⟨_, hf, by simp [upd]; exact hf0, by simp [upd]; exact hf1, by simp [upd]⟩, hS⟩))
set_option maxHeartbeats 200000 in
theorem rsh {w : World} (gz cz N : Nat) (fz : Nat → Value) (hf : Row w gz 150 N fz) (hN : 3 ≤ N) (u1 u0 s : Nat) (hu0 : fz 0 = .int .u64 (u0 : Nat)) (hu1 : fz 1 = .int .u64 (u1 : Nat)) (hu2 : fz 2 = .int .u64 ((0 : Nat) : Int)) (h0 : u0 < 18446744073709551616) (h1 : u1 < 18446744073709551616) (hs : 0 < s ∧ s < 64) :
 Ret Tryz.prog 170 #[.slice (some ⟨gz, 0, none⟩) 3 cz, .slice (some ⟨gz, 0, none⟩) 3 cz, .int .u64 (s : Nat)] w fun v w' => (∃ f, Row w' gz 150 N f ∧ f 0 = .int .u64 ((u1 * 2 ^ (64 - s) % 18446744073709551616 + u0 / 2 ^ s : Nat) : Int) ∧ f 1 = .int .u64 ((u1 / 2 ^ s : Nat) : Int) ∧ f 2 = .int .u64 ((0 : Nat) : Int)) ∧ Same [gz] w w' := by
 refine aS Tryz.func170 Tryz.ntmps170 rfl rfl (aD (aB (aF rfl rfl (aG (aE (aD (aB (aA rfl rfl (aA rfl rfl (aA rfl rfl (aR rfl rfl cf219 rfl rfl (rshG gz cz N fz hf hN u1 u0 s hu0 hu1 hu2 h0 h1 hs) ?_)))))))))));rintro v9 w1 h9;exact aF rfl rfl (aG (aE (aZ rfl rfl h9)))
set_option maxHeartbeats 1000000 in
theorem mulAddG {w : World} (gz cz N n : Nat) (fz : Nat → Value) (hf : Row w gz 150 N fz) (hN : n ≤ N) (hn9 : n ≤ 1024) (gx cx : Nat) (hgx : gx < w.heap.size) (a : Nat → Nat) (hx : Rd w gx 0 n (ug a)) (ha : ∀ i, i < n → a i < 18446744073709551616) (y : Nat) (hy : y < 18446744073709551616) :
 Ret Tryz.prog 240 #[.slice (some ⟨gz, 0, none⟩) n cz, .slice (some ⟨gx, 0, none⟩) n cx, .int .u64 (y : Nat), .int .u64 ((0 : Nat) : Int)] w fun v w' => ∃ c b f, v = .int .u64 ((c : Nat) : Int) ∧ c < 18446744073709551616 ∧ Row w' gz 150 N f ∧ (∀ j, j < n → f j = .int .u64 (b j : Nat) ∧ b j < 18446744073709551616) ∧ un b n + c * 18446744073709551616 ^ n = un a n * y ∧ Same [gz] w w' := by
 have hS := Same.refl [gz] w;refine aS Tryz.func240 Tryz.ntmps240 rfl rfl (aD (aB (aF rfl rfl (aG (aE (aD (aD (aB (aA rfl rfl (bB rfl u125 rfl (aA rfl rfl (bB rfl u125 rfl (aI rfl rfl rfl rfl (aG (aE ?_)))))))))))))));refine aK rfl (fun h220 => ?_) (fun h220 => ?_)
 ·first | (cases h220; done) | (simp at h220; done) | (simp at h220; omega)
 ·simp only [bne_eq_false_iff_eq] at h220;refine aX (aE (aD (aB (aA rfl rfl (aF rfl rfl (aG (aE (aD (aD (aB (aA rfl rfl (bB rfl u125 rfl (aA rfl rfl (aG (aE (bN (dR (fun p : Nat × Nat => [(0, .slice (some ⟨gz, 0, none⟩) n cz), (1, .slice (some ⟨gx, 0, none⟩) n cx), (2, .int .u64 (y : Nat)), (8, .int .u64 (p.2 : Nat)), (18, .int .i64 (n : Nat)), (19, .int .i64 (p.1 : Nat))]) (fun m p w' => m + p.1 = n ∧ p.2 < 18446744073709551616 ∧ Same [gz] w w' ∧ gx < w'.heap.size ∧ (∀ j, p.1 ≤ j → j < n → w'.cell? ⟨gx, j, none⟩ = some (.int .u64 (a j : Nat))) ∧ ∃ b f, Row w' gz 150 N f ∧ (∀ j, j < p.1 → f j = .int .u64 (b j : Nat) ∧ b j < 18446744073709551616) ∧ un b p.1 + p.2 * 18446744073709551616 ^ p.1 = un a p.1 * y) n (0, 0) ⟨rfl, rfl, rfl, rfl, rfl, rfl, trivial⟩ ⟨rfl, by decide, hS, hgx, fun j _ hj => (by have := hx j hj; rw [Nat.zero_add] at this; exact this), fun _ => 0, _, hf, nofun, by simp [un]⟩ ?_)))))))))))))))));clear hx hf hgx hS;rintro m ⟨i, c⟩ w1 ⟨hm, hcl, hS, hgx, hx, b, f, hf, hb, hu⟩;dsimp only at hm hcl hx hb hu ⊢;refine aD (aB (aI rfl rfl rfl rfl (aG (aE (aD ?_)))));refine aK rfl (fun h224 => ?_) (fun h224 => ?_)
  ·simp only [decide_eq_true_eq] at h224;have hai := ha i zw;refine aX (aE (aD (bN (aD (aB (aA rfl rfl (aF rfl rfl (aG (aE (aB (aA rfl rfl (aA rfl rfl (aA rfl rfl (aA rfl rfl (cC rfl rfl u125 cV zw zw rfl (aL rfl u150 rfl (show _ = some (Value.int .u64 (a i : Nat)) from by rw [Nat.zero_add, Nat.mul_one, show Int.toNat ((i : Nat) : Int) = i by omega]; exact hx i (Nat.le_refl _) zw) rfl (aA rfl rfl (aA rfl rfl (aR rfl rfl cf250 rfl rfl (tJ (a i) y c hai hy hcl) ?_)))))))))))))))))));rintro _ w99 ⟨rfl, hw99⟩;replace hw99 := hw99.symm;subst hw99;refine aA rfl rfl (aY rfl rfl rfl (aY rfl rfl rfl (aF rfl rfl (cC rfl rfl u125 cV zw zw rfl (cM rfl rfl rfl cV (hf.cell zw) (hf.fz _) ?_)))));intro w2 hn hs;have hx2 : ∀ j, i + 1 ≤ j → j < n → w2.cell? ⟨gx, j, none⟩ = some (.int .u64 (a j : Nat)) := fun j h1 h2 => eY (hx j zw h2) hf hn zw;replace hf := hf.set' hn;replace hS := hS.trans hs;replace hgx := hs.lt hgx;refine aG (cQ (aE (aB ?_)))
   (refine aI rfl rfl (cJ (aV ?_ ?_)) rfl ?_; (omega); (omega))
   refine aA rfl rfl (aG ?_);refine bZ (m - 1) (i + 1, (a i * y + c) / 18446744073709551616) zw ⟨rfl, rfl, rfl, rfl, rfl, eF rfl zw, trivial⟩ ⟨by omega, (Nat.div_lt_iff_lt_mul zo).2 (by have := Nat.mul_le_mul (show a i ≤ 18446744073709551615 by omega) (show y ≤ 18446744073709551615 by omega); omega), hS, hgx, hx2, fun j => if j = i then (a i * y + c) % 18446744073709551616 else b j, _, hf, fun j hj => ?_, ?_⟩
   ·by_cases hji : j = i
    ·subst hji;exact ⟨by simp [upd], by simp; omega⟩
    ·obtain ⟨g1, g2⟩ := hb j zw;simp only [if_neg hji];exact ⟨by simp [upd, hji]; exact g1, g2⟩
   ·show un _ (i + 1) + _ * 18446744073709551616 ^ (i + 1) = _
    rw [uA, Nat.pow_succ, gO];exact mQ hu (by have := Nat.div_add_mod (a i * y + c) 18446744073709551616; omega)
  ·simp only [decide_eq_false_iff_not, Int.not_lt] at h224;obtain rfl : i = n := by omega
   exact dG rfl (aE (aZ rfl rfl ⟨c, b, f, rfl, hcl, hf, hb, hu, hS⟩))
set_option maxHeartbeats 200000 in
theorem oR {w : World} (gz cz N n : Nat) (fz : Nat → Value) (hf : Row w gz 150 N fz) (hN : n ≤ N) (hn9 : n ≤ 1024) (gx cx : Nat) (hgx : gx < w.heap.size) (a : Nat → Nat) (hx : Rd w gx 0 n (ug a)) (ha : ∀ i, i < n → a i < 18446744073709551616) (y : Nat) (hy : y < 18446744073709551616) :
 Ret Tryz.prog 217 #[.slice (some ⟨gz, 0, none⟩) n cz, .slice (some ⟨gx, 0, none⟩) n cx, .int .u64 (y : Nat), .int .u64 ((0 : Nat) : Int)] w fun v w' => ∃ c b f, v = .int .u64 ((c : Nat) : Int) ∧ c < 18446744073709551616 ∧ Row w' gz 150 N f ∧ (∀ j, j < n → f j = .int .u64 (b j : Nat) ∧ b j < 18446744073709551616) ∧ un b n + c * 18446744073709551616 ^ n = un a n * y ∧ Same [gz] w w' := by
 refine aS Tryz.func217 Tryz.ntmps217 rfl rfl (aD (aB (aF rfl rfl (aG (aE (aD (aB (aA rfl rfl (aA rfl rfl (aA rfl rfl (aA rfl rfl (aR rfl rfl cf240 rfl rfl (mulAddG gz cz N n fz hf hN hn9 gx cx hgx a hx ha y hy) ?_))))))))))));rintro v9 w1 ⟨c, b, f, rfl, h9⟩;exact aF rfl rfl (aG (aE (aZ rfl rfl ⟨c, b, f, rfl, h9⟩)))
set_option maxHeartbeats 1000000 in
theorem subG {w : World} (g o c N n : Nat) (fz : Nat → Value) (hf : Row w g 150 N fz) (hN : o + n ≤ N) (hn9 : n ≤ 1024) (gy oy cy : Nat) (hne : gy ≠ g) (hgy : gy < w.heap.size) (a y : Nat → Nat) (ha : ∀ j, j < n → fz (o + j) = .int .u64 (a j : Nat) ∧ a j < 18446744073709551616) (hy : Rd w gy oy n (ug y)) (hyl : ∀ j, j < n → y j < 18446744073709551616) :
 Ret Tryz.prog 174 #[.slice (some ⟨g, o, none⟩) n c, .slice (some ⟨g, o, none⟩) n c, .slice (some ⟨gy, oy, none⟩) n cy] w fun v w' => ∃ k b f, v = .int .u64 ((k : Nat) : Int) ∧ k ≤ 1 ∧ Row w' g 150 N f ∧ (∀ j, j < n → f (o + j) = .int .u64 (b j : Nat) ∧ b j < 18446744073709551616) ∧ (∀ j, j < o ∨ o + n ≤ j → f j = fz j) ∧ un b n + un y n = un a n + k * 18446744073709551616 ^ n ∧ Same [g] w w' := by
 have hS := Same.refl [g] w;refine aS Tryz.func174 Tryz.ntmps174 rfl rfl (aD (aB (aF rfl rfl (aG (aE (aD (aD (aB (aA rfl rfl (bB rfl u125 rfl (aA rfl rfl (bB rfl u125 rfl (aI rfl rfl rfl rfl (aA rfl rfl (aJ rfl rfl (by simp_all) (aA rfl rfl (aJ rfl rfl (by simp_all) (bB rfl u125 rfl (aJ rfl rfl (by simp_all) (aA rfl rfl (aJ rfl rfl (by simp_all) (bB rfl u125 rfl (aJ rfl rfl (by simp_all) (aI rfl rfl rfl rfl (cE rfl (by simp_all) rfl rfl (aG (aE ?_)))))))))))))))))))))))))));refine aK rfl (fun h77 => ?_) (fun h77 => ?_)
 ·first | (cases h77; done) | (simp at h77; done) | (simp at h77; omega)
 ·simp only [bne_eq_false_iff_eq] at h77;refine aX (aE (aD (aD (aB (aA rfl rfl (bB rfl u125 rfl (aA rfl rfl (aG (aE (bN (dR (fun p : Nat × Nat => [(0, .slice (some ⟨g, o, none⟩) n c), (1, .slice (some ⟨g, o, none⟩) n c), (2, .slice (some ⟨gy, oy, none⟩) n cy), (6, .int .u64 (p.2 : Nat)), (24, .int .i64 (n : Nat)), (25, .int .i64 (p.1 : Nat))]) (fun m p w' => m + p.1 = n ∧ p.2 ≤ 1 ∧ Same [g] w w' ∧ Rd w' gy oy n (ug y) ∧ gy < w'.heap.size ∧ ∃ b f, Row w' g 150 N f ∧ (∀ j, j < p.1 → f (o + j) = .int .u64 (b j : Nat) ∧ b j < 18446744073709551616) ∧ (∀ j, p.1 ≤ j → j < n → f (o + j) = .int .u64 (a j : Nat)) ∧ (∀ j, j < o ∨ o + n ≤ j → f j = fz j) ∧ un b p.1 + un y p.1 = un a p.1 + p.2 * 18446744073709551616 ^ p.1) n (0, 0) ⟨rfl, rfl, rfl, rfl, rfl, rfl, trivial⟩ ⟨rfl, by decide, hS, hy, hgy, fun _ => 0, _, hf, nofun, fun j _ hj => (ha j hj).1, fun j _ => rfl, by simp [un]⟩ ?_)))))))))));clear hy hf hgy hS;rintro m ⟨i, k⟩ w1 ⟨hm, hk, hS, hy, hgy, b, f, hf, hb, hr, ho, hu⟩;dsimp only at hm hk hb hr hu ⊢;refine aD (aB (aI rfl rfl rfl rfl (aG (aE (aD ?_)))));refine aK rfl (fun h81 => ?_) (fun h81 => ?_)
  ·simp only [decide_eq_true_eq] at h81;have hai := (ha i zw).2;have hyi := hyl i zw;refine aX (aE (aD (bN (aD (aB (aA rfl rfl (aF rfl rfl (aG (aE (aD (cP [] cL zy ?_)))))))))));replace hS := hS.trans (aC _);replace hf := hf.same (aC _);replace hy := hy.same (aC _);replace hgy := (aC _).lt hgy;refine aA rfl rfl (aA rfl rfl (cC rfl rfl u125 cV zw zw rfl (aL rfl u150 rfl (show _ = some (Value.int .u64 (a i : Nat)) from by rw [Nat.mul_one, show Int.toNat ((i : Nat) : Int) = i by omega]; exact (hf.cell zw).trans (congrArg some (hr i (Nat.le_refl _) zw))) rfl (aA rfl rfl (aA rfl rfl (cC rfl rfl u125 cV zw zw rfl (aL rfl u150 rfl (show _ = some (Value.int .u64 (y i : Nat)) from by rw [Nat.mul_one, show Int.toNat ((i : Nat) : Int) = i by omega]; exact hy i zw) rfl (aA rfl rfl (aR rfl rfl wJ rfl rfl (subB (a i) (y i) hai hyi k hk) ?_)))))))));rintro _ w99 ⟨rfl, hw99⟩;replace hw99 := hw99.symm;subst hw99;refine aA rfl rfl (aY rfl rfl rfl (aY rfl rfl rfl (aF rfl rfl (aF rfl rfl (aG (aE (aD (aB (aA rfl rfl (aA rfl rfl (aA rfl rfl (cC rfl rfl u125 cV zw zw rfl (cM rfl rfl rfl cV (hf.cell zw) (hf.fz _) ?_)))))))))))));intro w2 hn hs;replace hf := hf.set' hn;replace hS := hS.trans hs;replace hy := hy.same hs;replace hgy := hs.lt hgy;refine aG (aE (aB (aA rfl rfl (aF rfl rfl (aG (cQ (aE (aB ?_))))))))
   (refine aI rfl rfl (cJ (aV ?_ ?_)) rfl ?_; (omega); (omega))
   refine aA rfl rfl (aG ?_);refine bZ (m - 1) (i + 1, if a i < y i + k then 1 else 0) zw ⟨rfl, rfl, rfl, rfl, rfl, eF rfl zw, trivial⟩ ⟨by omega, by dsimp only; split <;> omega, hS, hy, hgy, fun j => if j = i then (a i + 18446744073709551616 - y i - k) % 18446744073709551616 else b j, _, hf, fun j hj => ?_, fun j h1 h2 => ?_, fun j hj => ?_, ?_⟩
   ·by_cases hji : j = i
    ·subst hji;exact ⟨by simp [upd], by simp; omega⟩
    ·obtain ⟨g1, g2⟩ := hb j (by dsimp only at hj; omega);simp only [if_neg hji];exact ⟨by simp [upd, hji]; exact g1, g2⟩
   ·dsimp only at h1;simp only [upd];rw [if_neg zt];exact hr j zw h2
   ·simp only [upd];rw [if_neg zt];exact ho j hj
   ·show un _ (i + 1) + un _ (i + 1) = un _ (i + 1) + _ * 18446744073709551616 ^ (i + 1)
    rw [uA, Nat.pow_succ, gO, gO];exact iM hu (by split <;> omega)
  ·simp only [decide_eq_false_iff_not, Int.not_lt] at h81;obtain rfl : i = n := by omega
   exact dG rfl (aE (aZ rfl rfl ⟨k, b, f, rfl, hk, hf, hb, ho, hu, hS⟩))
set_option maxHeartbeats 200000 in
theorem subV {w : World} (g o c N n : Nat) (fz : Nat → Value) (hf : Row w g 150 N fz) (hN : o + n ≤ N) (hn9 : n ≤ 1024) (gy oy cy : Nat) (hne : gy ≠ g) (hgy : gy < w.heap.size) (a y : Nat → Nat) (ha : ∀ j, j < n → fz (o + j) = .int .u64 (a j : Nat) ∧ a j < 18446744073709551616) (hy : Rd w gy oy n (ug y)) (hyl : ∀ j, j < n → y j < 18446744073709551616) :
 Ret Tryz.prog 137 #[.slice (some ⟨g, o, none⟩) n c, .slice (some ⟨g, o, none⟩) n c, .slice (some ⟨gy, oy, none⟩) n cy] w fun v w' => ∃ k b f, v = .int .u64 ((k : Nat) : Int) ∧ k ≤ 1 ∧ Row w' g 150 N f ∧ (∀ j, j < n → f (o + j) = .int .u64 (b j : Nat) ∧ b j < 18446744073709551616) ∧ (∀ j, j < o ∨ o + n ≤ j → f j = fz j) ∧ un b n + un y n = un a n + k * 18446744073709551616 ^ n ∧ Same [g] w w' := by
 refine aS Tryz.func137 Tryz.ntmps137 rfl rfl (aD (aB (aF rfl rfl (aG (aE (aD (aB (aA rfl rfl (aA rfl rfl (aA rfl rfl (aR rfl rfl cf174 rfl rfl (subG g o c N n fz hf hN hn9 gy oy cy hne hgy a y ha hy hyl) ?_)))))))))));rintro v9 w1 ⟨k, b, f, rfl, h9⟩;exact aF rfl rfl (aG (aE (aZ rfl rfl ⟨k, b, f, rfl, h9⟩)))
end Go.Proofs.YtccicbpeajdjgaaGreatDoor.Vm
