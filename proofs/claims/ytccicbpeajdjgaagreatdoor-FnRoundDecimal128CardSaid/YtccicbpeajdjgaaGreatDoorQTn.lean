/- Two words divided by one. -/
import Derived.Test.YtccicbpeajdjgaaGreatDoorQVm
import Derived.Test.YtccicbpeajdjgaaGreatDoorQTl
set_option linter.unusedVariables false
set_option linter.unusedSimpArgs false
namespace Go.Proofs.YtccicbpeajdjgaaGreatDoor.Vm
open Go Mix Go.RowKit Wd
set_option maxRecDepth 20000
theorem cf238 (us : Array Value) (w : World) : (callFunc 238 us).run Tryz.prog w = .ok (.enter 238 us) w := by kernel_rfl
theorem cf249 (us : Array Value) (w : World) : (callFunc 249 us).run Tryz.prog w = .ok (.enter 249 us) w := by kernel_rfl
set_option maxHeartbeats 4000000 in
theorem tR {w : World} (hi lo y : Nat) (h1 : hi < y) (hlo : lo < 18446744073709551616) (hy : y < 18446744073709551616) :
 Ret Tryz.prog 238 #[.int .u64 (hi : Nat), .int .u64 (lo : Nat), .int .u64 (y : Nat)] w fun v w' => v = .tuple #[.int .u64 (((hi * 18446744073709551616 + lo) / y : Nat) : Int), .int .u64 (((hi * 18446744073709551616 + lo) % y : Nat) : Int)] ∧ Same [] w w' := by
 obtain ⟨s, hs⟩ : ∃ s, s = 64 - blen y := ⟨_, rfl⟩;obtain ⟨hn1, hn2, hn3⟩ := kV (show 0 < y by omega) hy;rw [← hs] at hn1 hn2 hn3;have hU1 := rU hlo (Nat.le_of_lt hn1) h1;obtain ⟨Y, hY⟩ : ∃ Y, Y = y * 2 ^ s := ⟨_, rfl⟩;rw [← hY] at hn2 hn3 hU1;have hT := oI (x1 := hi) (x0 := lo) (Nat.le_of_lt hn1);obtain ⟨e0, he0⟩ : ∃ z, z = lo / 2 ^ (64 - s) := ⟨_, rfl⟩;rw [← he0] at hU1 hT;have hS := Same.refl [] w;refine aS Tryz.func238 Tryz.ntmps238 rfl rfl (aD (aB (aF rfl rfl (aF rfl rfl (aG (aE (aD (aD (aB (aA rfl rfl (aI rfl rfl rfl rfl (aG (aE ?_)))))))))))));refine aK rfl (fun h7 => ?_) (fun h7 => ?_)
 ·simp only [beq_iff_eq] at h7;omega
 ·simp only [beq_eq_false_iff_ne, ne_eq] at h7;refine aX (aE (aD (aD (aB (aA rfl rfl (aA rfl rfl (aI rfl rfl rfl rfl (aG (aE ?_)))))))));refine aK rfl (fun h10 => ?_) (fun h10 => ?_)
  ·simp only [decide_eq_true_eq] at h10;omega
  ·simp only [decide_eq_false_iff_not, Int.not_le] at h10;refine aX (aE (aD (aD (aB (aA rfl rfl (aI rfl rfl rfl rfl (aG (aE ?_))))))));refine aK rfl (fun h15 => ?_) (fun h15 => ?_)
   ·simp only [beq_iff_eq] at h15;obtain rfl : hi = 0 := by omega
    refine aD (cP [] cL zy ?_);replace hS := hS.trans (aC _);exact aA rfl rfl (aA rfl rfl (aI rfl rfl (gM zw (quoU hlo)) rfl (aA rfl rfl (aA rfl rfl (aI rfl rfl (iJ zw remU) rfl (aF rfl rfl (aF rfl rfl (aG (aE (aZ rfl rfl ⟨by rw [Nat.zero_mul, Nat.zero_add]; rfl, hS⟩))))))))))
   ·simp only [beq_eq_false_iff_ne, ne_eq] at h15;refine aX (aE (aD (aB (aA rfl rfl (aR rfl rfl cf249 rfl rfl (lead64 y hy) ?_)))));rintro _ w99 ⟨rfl, hw99⟩;replace hw99 := hw99.symm;subst hw99;rw [← hs]
    (refine cW rfl Tryz.underlying3 Tryz.underlying79 (dD ?_ ?_) rfl ?_; (omega); (omega))
    refine aF rfl rfl (aG (aE (aD (aB (aA rfl rfl (aA rfl rfl (eQ rfl rfl zw (fI (z := Y) zw (by rw [← hY, Nat.mod_eq_of_lt hn3])) rfl (aF rfl rfl (aG (aE (aD (aB (aA rfl rfl (dF rfl rfl zo (dK (r := 32) zo) rfl ?_))))))))))))));obtain ⟨y1, hy1⟩ : ∃ z, z = Y / 2 ^ 32 := ⟨_, rfl⟩;rw [← hy1];refine aF rfl rfl (aG (aE (aD (aB (aA rfl rfl (aI rfl rfl (qK hn3) rfl ?_))))));obtain ⟨y0, hy0⟩ : ∃ z, z = Y % 4294967296 := ⟨_, rfl⟩;rw [← hy0]
    have hYy : y1 * 4294967296 + y0 = Y := by rw [hy1, hy0, Nat.mul_comm]; exact Nat.div_add_mod Y 4294967296
    refine aF rfl rfl (aG (aE (aD (aB (aA rfl rfl (aA rfl rfl (eQ rfl rfl zw (fI (z := hi * 2 ^ s) zw (by rw [Nat.mod_eq_of_lt zw])) rfl (aA rfl rfl (aA rfl rfl ?_)))))))))
    (refine aI rfl rfl (cT (z := ((64 - s : Nat) : Int)) ?_) rfl ?_; (rw [dD zw zw]; omega))
    refine dF rfl rfl zw (dK (r := 64 - s) (by show 64 - s ≤ 64; omega)) rfl ?_;rw [← he0];refine aI rfl rfl (or64 (by rw [he0]; exact iS hlo (Nat.le_of_lt hn1)) zw) rfl ?_;obtain ⟨U, hU⟩ : ∃ z, z = hi * 2 ^ s + e0 := ⟨_, rfl⟩;rw [← hU];rw [← hU] at hU1 hT;refine aF rfl rfl (aG (aE (aD (aB (aA rfl rfl (aA rfl rfl (eQ rfl rfl zw (fI (z := lo * 2 ^ s % 18446744073709551616) zw rfl) rfl ?_)))))));obtain ⟨N, hN⟩ : ∃ z, z = lo * 2 ^ s % 18446744073709551616 := ⟨_, rfl⟩;rw [← hN];rw [← hN] at hT;have hNl : N < 18446744073709551616 := by omega
    refine aF rfl rfl (aG (aE (aD (aB (aA rfl rfl (dF rfl rfl zo (dK (r := 32) zo) rfl ?_))))));obtain ⟨n1, hn1⟩ : ∃ z, z = N / 2 ^ 32 := ⟨_, rfl⟩;rw [← hn1];refine aF rfl rfl (aG (aE (aD (aB (aA rfl rfl (aI rfl rfl (qK hNl) rfl ?_))))));obtain ⟨n0, hn0⟩ : ∃ z, z = N % 4294967296 := ⟨_, rfl⟩;rw [← hn0];refine aF rfl rfl (aG (aE (aD (aB (aA rfl rfl (aA rfl rfl (aI rfl rfl (gM zw (quoU zw)) rfl (aF rfl rfl (aG (aE (aD (aB (aA rfl rfl (aA rfl rfl (aA rfl rfl (aI rfl rfl (dE (kW (by have := Nat.div_mul_le_self U y1; omega))) rfl (aI rfl rfl (cT (subU (Nat.div_mul_le_self _ _) zw)) rfl (aF rfl rfl (aG (aE (aD ?_)))))))))))))))))))));refine eS (fun q : Nat => [(2, .int .u64 (Y : Nat)), (8, .int .u64 (s : Nat)), (9, .int .u64 (y1 : Nat)), (10, .int .u64 (y0 : Nat)), (11, .int .u64 (U : Nat)), (13, .int .u64 (n1 : Nat)), (14, .int .u64 (n0 : Nat)), (15, .int .u64 (q : Nat))]) (fun q w' => w' = w ∧ q = (U * 4294967296 + n1) / (y1 * 4294967296 + y0)) ?_ ?_
    ·refine bN ?_;have hg := D2.Dg.start (b := 4294967296) (y1 := y1) (y0 := y0) (u1 := U) (un := n1) zo zw zw;have hgl := D2.guess_le (b := 4294967296) (y1 := y1) (y0 := y0) (u1 := U) zw zw zw zw
     have hgr : U - U / y1 * y1 < 4294967296 := by
      have g1 := Nat.mod_lt U (show 0 < y1 by omega);have g2 := Nat.div_add_mod U y1;rw [Nat.mul_comm] at g2;omega
     refine dR (fun x : Nat × Nat => [(2, .int .u64 (Y : Nat)), (8, .int .u64 (s : Nat)), (9, .int .u64 (y1 : Nat)), (10, .int .u64 (y0 : Nat)), (11, .int .u64 (U : Nat)), (13, .int .u64 (n1 : Nat)), (14, .int .u64 (n0 : Nat)), (15, .int .u64 (x.1 : Nat)), (16, .int .u64 (x.2 : Nat))]) (fun m x w' => w' = w ∧ m = x.1 ∧ x.1 ≤ 4294967297 ∧ x.2 < 4294967296 ∧ D2.Dg 4294967296 y1 y0 U n1 x.1 x.2) (U / y1) (U / y1, U - U / y1 * y1) ⟨rfl, rfl, rfl, rfl, rfl, rfl, rfl, rfl, rfl, trivial⟩ ⟨rfl, rfl, hgl, hgr, hg⟩ ?_;clear hg hgl hgr;rintro m ⟨q, r⟩ w9 ⟨hw9, hm, hq1, hr1, hg⟩;dsimp only at hm hq1 hr1 hg ⊢;replace hw9 := hw9.symm;subst hw9;rcases (show 4294967296 ≤ q ∨ q < 4294967296 ∧ (4294967296 * r + n1 < q * y0 ∨ q * y0 ≤ 4294967296 * r + n1) by omega) with hc | ⟨hc0, hc | hc⟩
     ·obtain ⟨hq0, hg2⟩ := D2.Dg.next hg zw (.inl hc);refine aD (aD (aB (aA rfl rfl (aI rfl rfl rfl rfl (aA rfl rfl (aW rfl rfl rfl zz (aW rfl rfl rfl zz (aW rfl rfl rfl zz (aW rfl rfl rfl zz (aW rfl rfl rfl zz (aW rfl rfl rfl zz (aW rfl rfl rfl zz (aW rfl rfl rfl zz (cH rfl zz rfl rfl (aG (aE ?_))))))))))))))));refine aK rfl (fun h35 => ?_) (fun h35 => ?_)
      ·simp only at h35;refine aX (aE (bN (aD (aB (aA rfl rfl ?_)))))
       (refine aI rfl rfl (cT (z := ((q - 1 : Nat) : Int)) ?_) rfl ?_; (rw [gF]; omega))
       refine aF rfl rfl (aG (aE (aD (aB (aA rfl rfl (aA rfl rfl ?_))))))
       (refine aI rfl rfl (cJ (z := ((r + y1 : Nat) : Int)) ?_) rfl ?_; (rw [gF]; omega))
       refine aF rfl rfl (aG (aE (aD (aB (aA rfl rfl (aI rfl rfl rfl rfl (aG (aE ?_))))))));refine aK rfl (fun h38 => ?_) (fun h38 => ?_)
       ·simp only [ge_iff_le, decide_eq_true_eq] at h38;exact dG rfl (bZ 0 (q - 1) zo ⟨rfl, rfl, rfl, rfl, rfl, rfl, rfl, rfl, trivial⟩ ⟨rfl, D2.Dg.over hg2 zw zw zw⟩)
       ·simp only [ge_iff_le, decide_eq_false_iff_not, Int.not_le] at h38;exact aX (cQ (bZ (q - 1) (q - 1, r + y1) zw ⟨rfl, rfl, rfl, rfl, rfl, rfl, rfl, rfl, rfl, trivial⟩ ⟨rfl, rfl, by omega, by omega, hg2⟩))
      ·(cases h35)
     ·obtain ⟨hq0, hg2⟩ := D2.Dg.next hg zw (.inr hc)
      have hqy : q * y0 < 18446744073709551616 := by
       have := Nat.mul_le_mul (show q ≤ 4294967295 by omega) (show y0 ≤ 4294967295 by omega);omega
      refine aD (aD (aB (aA rfl rfl (aI rfl rfl rfl rfl (aA rfl rfl (aJ rfl rfl zz (aA rfl rfl (aJ rfl rfl zz (aA rfl rfl (aJ rfl rfl zz (aI rfl rfl (dE (kW hqy)) rfl (aJ rfl rfl zz (aA rfl rfl (aJ rfl rfl zz (aI rfl rfl (dE (kW (a := 4294967296) zw)) rfl (aJ rfl rfl zz (aA rfl rfl (aJ rfl rfl zz (aI rfl rfl (cJ (pE zw)) rfl (aJ rfl rfl zz (aI rfl rfl rfl rfl (cE rfl zz rfl rfl (aG (aE ?_))))))))))))))))))))))));refine aK rfl (fun h35 => ?_) (fun h35 => ?_)
      ·simp only [gt_iff_lt, decide_eq_true_eq] at h35;refine aX (aE (bN (aD (aB (aA rfl rfl ?_)))))
       (refine aI rfl rfl (cT (z := ((q - 1 : Nat) : Int)) ?_) rfl ?_; (rw [gF]; omega))
       refine aF rfl rfl (aG (aE (aD (aB (aA rfl rfl (aA rfl rfl ?_))))))
       (refine aI rfl rfl (cJ (z := ((r + y1 : Nat) : Int)) ?_) rfl ?_; (rw [gF]; omega))
       refine aF rfl rfl (aG (aE (aD (aB (aA rfl rfl (aI rfl rfl rfl rfl (aG (aE ?_))))))));refine aK rfl (fun h38 => ?_) (fun h38 => ?_)
       ·simp only [ge_iff_le, decide_eq_true_eq] at h38;exact dG rfl (bZ 0 (q - 1) zo ⟨rfl, rfl, rfl, rfl, rfl, rfl, rfl, rfl, trivial⟩ ⟨rfl, D2.Dg.over hg2 zw zw zw⟩)
       ·simp only [ge_iff_le, decide_eq_false_iff_not, Int.not_le] at h38;exact aX (cQ (bZ (q - 1) (q - 1, r + y1) zw ⟨rfl, rfl, rfl, rfl, rfl, rfl, rfl, rfl, rfl, trivial⟩ ⟨rfl, rfl, by omega, by omega, hg2⟩))
      ·first | (simp at h35; done) | (simp at h35; omega)
     ·have hqy : q * y0 < 18446744073709551616 := by
       have := Nat.mul_le_mul (show q ≤ 4294967295 by omega) (show y0 ≤ 4294967295 by omega);omega
      refine aD (aD (aB (aA rfl rfl (aI rfl rfl rfl rfl (aA rfl rfl (aJ rfl rfl zz (aA rfl rfl (aJ rfl rfl zz (aA rfl rfl (aJ rfl rfl zz (aI rfl rfl (dE (kW hqy)) rfl (aJ rfl rfl zz (aA rfl rfl (aJ rfl rfl zz (aI rfl rfl (dE (kW (a := 4294967296) zw)) rfl (aJ rfl rfl zz (aA rfl rfl (aJ rfl rfl zz (aI rfl rfl (cJ (pE zw)) rfl (aJ rfl rfl zz (aI rfl rfl rfl rfl (cE rfl zz rfl rfl (aG (aE ?_))))))))))))))))))))))));refine aK rfl (fun h35 => ?_) (fun h35 => ?_)
      ·first | (simp at h35; done) | (simp at h35; omega)
      ·simp only [gt_iff_lt, decide_eq_false_iff_not, Int.not_lt] at h35;exact dG rfl (bZ 0 q zo ⟨rfl, rfl, rfl, rfl, rfl, rfl, rfl, rfl, trivial⟩ ⟨rfl, D2.Dg.done hg zw⟩)
    ·rintro q1 w9 ⟨hw9, hq1⟩;replace hw9 := hw9.symm;subst hw9;rw [hYy] at hq1;obtain ⟨hp1, hV1, hV2⟩ := D2.rest_of zw hq1;obtain ⟨V, hV⟩ : ∃ z, z = U * 4294967296 + n1 - q1 * Y := ⟨_, rfl⟩;rw [← hV] at hV1 hV2;clear hq1;refine aE (aD (aB (aA rfl rfl (aI rfl rfl (dE (tI (b := 4294967296))) rfl (aA rfl rfl (aI rfl rfl (cJ addM) rfl (aA rfl rfl (aA rfl rfl (aI rfl rfl (dE tI) rfl ?_)))))))));obtain ⟨p1, hp9⟩ : ∃ z, z = q1 * Y := ⟨_, rfl⟩;rw [← hp9] at hp1 hV hV2 ⊢
     (refine aI rfl rfl (cT (z := ((V : Nat) : Int)) ?_) rfl ?_; (rw [gF]; omega))
     rw [hp9] at hV2;refine aF rfl rfl (aG (aE (aD (aB (aA rfl rfl (aA rfl rfl (aI rfl rfl (gM zw (quoU zw)) rfl (aF rfl rfl (aG (aE (aD (aB (aA rfl rfl (aA rfl rfl (aA rfl rfl (aI rfl rfl (dE (kW (by have := Nat.div_mul_le_self V y1; omega))) rfl (aI rfl rfl (cT (subU (Nat.div_mul_le_self _ _) zw)) rfl (aF rfl rfl (aG (aE (aD ?_)))))))))))))))))))));refine eS (fun q : Nat => [(2, .int .u64 (Y : Nat)), (8, .int .u64 (s : Nat)), (9, .int .u64 (y1 : Nat)), (10, .int .u64 (y0 : Nat)), (14, .int .u64 (n0 : Nat)), (15, .int .u64 (q1 : Nat)), (17, .int .u64 (V : Nat)), (18, .int .u64 (q : Nat))]) (fun q w' => w' = w ∧ q = (V * 4294967296 + n0) / (y1 * 4294967296 + y0)) ?_ ?_
     ·refine bN ?_;have hg := D2.Dg.start (b := 4294967296) (y1 := y1) (y0 := y0) (u1 := V) (un := n0) zo zw zw;have hgl := D2.guess_le (b := 4294967296) (y1 := y1) (y0 := y0) (u1 := V) zw zw zw zw
      have hgr : V - V / y1 * y1 < 4294967296 := by
       have g1 := Nat.mod_lt V (show 0 < y1 by omega);have g2 := Nat.div_add_mod V y1;rw [Nat.mul_comm] at g2;omega
      refine dR (fun x : Nat × Nat => [(2, .int .u64 (Y : Nat)), (8, .int .u64 (s : Nat)), (9, .int .u64 (y1 : Nat)), (10, .int .u64 (y0 : Nat)), (14, .int .u64 (n0 : Nat)), (15, .int .u64 (q1 : Nat)), (17, .int .u64 (V : Nat)), (18, .int .u64 (x.1 : Nat)), (16, .int .u64 (x.2 : Nat))]) (fun m x w' => w' = w ∧ m = x.1 ∧ x.1 ≤ 4294967297 ∧ x.2 < 4294967296 ∧ D2.Dg 4294967296 y1 y0 V n0 x.1 x.2) (V / y1) (V / y1, V - V / y1 * y1) ⟨rfl, rfl, rfl, rfl, rfl, rfl, rfl, rfl, rfl, trivial⟩ ⟨rfl, rfl, hgl, hgr, hg⟩ ?_;clear hg hgl hgr;rintro m ⟨q, r⟩ w9 ⟨hw9, hm, hq1, hr1, hg⟩;dsimp only at hm hq1 hr1 hg ⊢;replace hw9 := hw9.symm;subst hw9;rcases (show 4294967296 ≤ q ∨ q < 4294967296 ∧ (4294967296 * r + n0 < q * y0 ∨ q * y0 ≤ 4294967296 * r + n0) by omega) with hc | ⟨hc0, hc | hc⟩
      ·obtain ⟨hq0, hg2⟩ := D2.Dg.next hg zw (.inl hc);refine aD (aD (aB (aA rfl rfl (aI rfl rfl rfl rfl (aA rfl rfl (aW rfl rfl rfl zz (aW rfl rfl rfl zz (aW rfl rfl rfl zz (aW rfl rfl rfl zz (aW rfl rfl rfl zz (aW rfl rfl rfl zz (aW rfl rfl rfl zz (aW rfl rfl rfl zz (cH rfl zz rfl rfl (aG (aE ?_))))))))))))))));refine aK rfl (fun h47 => ?_) (fun h47 => ?_)
       ·simp only at h47;refine aX (aE (bN (aD (aB (aA rfl rfl ?_)))))
        (refine aI rfl rfl (cT (z := ((q - 1 : Nat) : Int)) ?_) rfl ?_; (rw [gF]; omega))
        refine aF rfl rfl (aG (aE (aD (aB (aA rfl rfl (aA rfl rfl ?_))))))
        (refine aI rfl rfl (cJ (z := ((r + y1 : Nat) : Int)) ?_) rfl ?_; (rw [gF]; omega))
        refine aF rfl rfl (aG (aE (aD (aB (aA rfl rfl (aI rfl rfl rfl rfl (aG (aE ?_))))))));refine aK rfl (fun h50 => ?_) (fun h50 => ?_)
        ·simp only [ge_iff_le, decide_eq_true_eq] at h50;exact dG rfl (bZ 0 (q - 1) zo ⟨rfl, rfl, rfl, rfl, rfl, rfl, rfl, rfl, trivial⟩ ⟨rfl, D2.Dg.over hg2 zw zw zw⟩)
        ·simp only [ge_iff_le, decide_eq_false_iff_not, Int.not_le] at h50;exact aX (cQ (bZ (q - 1) (q - 1, r + y1) zw ⟨rfl, rfl, rfl, rfl, rfl, rfl, rfl, rfl, rfl, trivial⟩ ⟨rfl, rfl, by omega, by omega, hg2⟩))
       ·(cases h47)
      ·obtain ⟨hq0, hg2⟩ := D2.Dg.next hg zw (.inr hc)
       have hqy : q * y0 < 18446744073709551616 := by
        have := Nat.mul_le_mul (show q ≤ 4294967295 by omega) (show y0 ≤ 4294967295 by omega);omega
       refine aD (aD (aB (aA rfl rfl (aI rfl rfl rfl rfl (aA rfl rfl (aJ rfl rfl zz (aA rfl rfl (aJ rfl rfl zz (aA rfl rfl (aJ rfl rfl zz (aI rfl rfl (dE (kW hqy)) rfl (aJ rfl rfl zz (aA rfl rfl (aJ rfl rfl zz (aI rfl rfl (dE (kW (a := 4294967296) zw)) rfl (aJ rfl rfl zz (aA rfl rfl (aJ rfl rfl zz (aI rfl rfl (cJ (pE zw)) rfl (aJ rfl rfl zz (aI rfl rfl rfl rfl (cE rfl zz rfl rfl (aG (aE ?_))))))))))))))))))))))));refine aK rfl (fun h47 => ?_) (fun h47 => ?_)
       ·simp only [gt_iff_lt, decide_eq_true_eq] at h47;refine aX (aE (bN (aD (aB (aA rfl rfl ?_)))))
        (refine aI rfl rfl (cT (z := ((q - 1 : Nat) : Int)) ?_) rfl ?_; (rw [gF]; omega))
        refine aF rfl rfl (aG (aE (aD (aB (aA rfl rfl (aA rfl rfl ?_))))))
        (refine aI rfl rfl (cJ (z := ((r + y1 : Nat) : Int)) ?_) rfl ?_; (rw [gF]; omega))
        refine aF rfl rfl (aG (aE (aD (aB (aA rfl rfl (aI rfl rfl rfl rfl (aG (aE ?_))))))));refine aK rfl (fun h50 => ?_) (fun h50 => ?_)
        ·simp only [ge_iff_le, decide_eq_true_eq] at h50;exact dG rfl (bZ 0 (q - 1) zo ⟨rfl, rfl, rfl, rfl, rfl, rfl, rfl, rfl, trivial⟩ ⟨rfl, D2.Dg.over hg2 zw zw zw⟩)
        ·simp only [ge_iff_le, decide_eq_false_iff_not, Int.not_le] at h50;exact aX (cQ (bZ (q - 1) (q - 1, r + y1) zw ⟨rfl, rfl, rfl, rfl, rfl, rfl, rfl, rfl, rfl, trivial⟩ ⟨rfl, rfl, by omega, by omega, hg2⟩))
       ·first | (simp at h47; done) | (simp at h47; omega)
      ·have hqy : q * y0 < 18446744073709551616 := by
        have := Nat.mul_le_mul (show q ≤ 4294967295 by omega) (show y0 ≤ 4294967295 by omega);omega
       refine aD (aD (aB (aA rfl rfl (aI rfl rfl rfl rfl (aA rfl rfl (aJ rfl rfl zz (aA rfl rfl (aJ rfl rfl zz (aA rfl rfl (aJ rfl rfl zz (aI rfl rfl (dE (kW hqy)) rfl (aJ rfl rfl zz (aA rfl rfl (aJ rfl rfl zz (aI rfl rfl (dE (kW (a := 4294967296) zw)) rfl (aJ rfl rfl zz (aA rfl rfl (aJ rfl rfl zz (aI rfl rfl (cJ (pE zw)) rfl (aJ rfl rfl zz (aI rfl rfl rfl rfl (cE rfl zz rfl rfl (aG (aE ?_))))))))))))))))))))))));refine aK rfl (fun h47 => ?_) (fun h47 => ?_)
       ·first | (simp at h47; done) | (simp at h47; omega)
       ·simp only [gt_iff_lt, decide_eq_false_iff_not, Int.not_lt] at h47;exact dG rfl (bZ 0 q zo ⟨rfl, rfl, rfl, rfl, rfl, rfl, rfl, rfl, trivial⟩ ⟨rfl, D2.Dg.done hg zw⟩)
     ·rintro q0 w9 ⟨hw9, hq0⟩;replace hw9 := hw9.symm;subst hw9;rw [hYy] at hq0;obtain ⟨hp2, hR1, hR2⟩ := D2.rest_of zw hq0;obtain ⟨R, hR⟩ : ∃ z, z = V * 4294967296 + n0 - q0 * Y := ⟨_, rfl⟩;rw [← hR] at hR1 hR2;clear hq0;have hN1 : N / 4294967296 = n1 := by omega
      have hN0 : N % 4294967296 = n0 := by omega
      obtain ⟨e1, e2⟩ := D2.halves (y := Y) (u := U) (n := N) (by rw [hN1]; exact hV2) (by rw [hN0]; exact hR2) hR1;obtain ⟨e3, e4⟩ := qR (X := hi * 18446744073709551616 + lo) (y := y) (p := 2 ^ s) (Nat.pow_pos zo);rw [← hT, ← hY] at e3 e4;rw [e3] at e1;rw [← e2] at e4
      have hQ : q1 * 4294967296 + q0 < 18446744073709551616 := by
       rw [e1];exact (Nat.div_lt_iff_lt_mul zw).2 zw
      refine aE (aD (aB (aA rfl rfl (aI rfl rfl (dE (tI (b := 4294967296))) rfl (aA rfl rfl ?_)))))
      (refine aI rfl rfl (cJ (z := ((q1 * 4294967296 + q0 : Nat) : Int)) ?_) rfl ?_; (rw [gF]; omega))
      refine aA rfl rfl (aI rfl rfl (dE (tI (b := 4294967296))) rfl (aA rfl rfl (aI rfl rfl (cJ addM) rfl (aA rfl rfl (aA rfl rfl (aI rfl rfl (dE tI) rfl ?_))))));obtain ⟨p2, hp8⟩ : ∃ z, z = q0 * Y := ⟨_, rfl⟩;rw [← hp8] at hp2 hR hR2 ⊢
      (refine aI rfl rfl (cT (z := ((R : Nat) : Int)) ?_) rfl ?_; (rw [gF]; omega))
      refine aA rfl rfl (dF rfl rfl zw (dK (r := s) (by show s ≤ 64; omega)) rfl (aF rfl rfl (aF rfl rfl (aG (aE (aZ rfl rfl ?_))))));rw [e4, e1];exact ⟨rfl, hS⟩
set_option maxHeartbeats 200000 in
theorem sP {w : World} (hi lo y : Nat) (h1 : hi < y) (hlo : lo < 18446744073709551616) (hy : y < 18446744073709551616) :
 Ret Tryz.prog 207 #[.int .u64 (hi : Nat), .int .u64 (lo : Nat), .int .u64 (y : Nat)] w fun v w' => v = .tuple #[.int .u64 (((hi * 18446744073709551616 + lo) / y : Nat) : Int), .int .u64 (((hi * 18446744073709551616 + lo) % y : Nat) : Int)] ∧ Same [] w w' := by
 have hq9 : (hi * 18446744073709551616 + lo) / y < 18446744073709551616 := (Nat.div_lt_iff_lt_mul zw).2 (by rw [Nat.mul_comm]; omega);have hr9 := Nat.mod_lt (hi * 18446744073709551616 + lo) (show 0 < y by omega);obtain ⟨a9, ha9⟩ : ∃ z, z = (hi * 18446744073709551616 + lo) / y := ⟨_, rfl⟩;obtain ⟨b9, hb9⟩ : ∃ z, z = (hi * 18446744073709551616 + lo) % y := ⟨_, rfl⟩;rw [← ha9] at hq9 ⊢;rw [← hb9] at hr9 ⊢;have hS := Same.refl [] w;refine aS Tryz.func207 Tryz.ntmps207 rfl rfl (aD (aB (aF rfl rfl (aF rfl rfl (aG (aE (aD (aB (aA rfl rfl (aA rfl rfl (aA rfl rfl (aR rfl rfl cf238 rfl rfl (tR hi lo y h1 hlo hy) ?_))))))))))));rintro _ w1 ⟨rfl, hs⟩;rw [← ha9, ← hb9];replace hS := hS.trans hs;exact aA rfl rfl (aY rfl rfl rfl (aY rfl rfl rfl (aF rfl rfl (aF rfl rfl (aG (aE (aD (aB (aA rfl rfl (aA rfl rfl (aF rfl rfl (aF rfl rfl (aG (aE (aZ rfl rfl ⟨rfl, hS⟩)))))))))))))))
end Go.Proofs.YtccicbpeajdjgaaGreatDoor.Vm
namespace Go.Proofs.YtccicbpeajdjgaaGreatDoor.Vm
open Go Mix Go.RowKit Wd
set_option maxRecDepth 20000
theorem sK (us : Array Value) (w : World) : (callFunc 119 us).run Tryz.prog w = .ok (.enter 119 us) w := by kernel_rfl
theorem wL (us : Array Value) (w : World) : (callFunc 164 us).run Tryz.prog w = .ok (.enter 164 us) w := by kernel_rfl
theorem wK (us : Array Value) (w : World) : (callFunc 173 us).run Tryz.prog w = .ok (.enter 173 us) w := by kernel_rfl
theorem wJ (us : Array Value) (w : World) : (callFunc 175 us).run Tryz.prog w = .ok (.enter 175 us) w := by kernel_rfl
theorem cf207 (us : Array Value) (w : World) : (callFunc 207 us).run Tryz.prog w = .ok (.enter 207 us) w := by kernel_rfl
set_option maxHeartbeats 400000 in
theorem iU {w : World} (y : Nat) (h0 : 0 < y) (hy : y < 18446744073709551616) :
 Ret Tryz.prog 208 #[.int .u64 (y : Nat)] w fun v w' => v = .int .u64 ((D2.rec y : Nat) : Int) ∧ Same [] w w' := by
 obtain ⟨s, hs⟩ : ∃ s, s = 64 - blen y := ⟨_, rfl⟩;obtain ⟨hn1, hn2, hn3⟩ := kV h0 hy;rw [← hs] at hn1 hn2 hn3;obtain ⟨d, hd⟩ : ∃ d, d = y * 2 ^ s := ⟨_, rfl⟩;rw [← hd] at hn2 hn3
 have hm : D2.rec y = 340282366920938463463374607431768211455 / d - 18446744073709551616 := by rw [hd, hs]; rfl
 have hml : D2.rec y < 18446744073709551616 := by rw [hm]; exact D2.rec_lt hn2
 have hS := Same.refl [] w;refine aS Tryz.func208 Tryz.ntmps208 rfl rfl (aD (aB (aF rfl rfl (aG (aE (aD (aB (aA rfl rfl (aA rfl rfl (aR rfl rfl wL rfl rfl (nlz y hy) ?_))))))))));rintro _ w99 ⟨rfl, hw99⟩;replace hw99 := hw99.symm;subst hw99;rw [← hs];refine eQ rfl rfl zw (fI (z := d) zw (by rw [← hd, Nat.mod_eq_of_lt hn3])) rfl (aF rfl rfl (aG (aE (aD (aB (aA rfl rfl (sS rfl zw zw rfl (aF rfl rfl (aG (aE (aD (aB (aF rfl rfl (aG (aE (aD (aB (aA rfl rfl (aA rfl rfl (aA rfl rfl ?_))))))))))))))))))));rw [show (18446744073709551615 - (d : Int)) = ((18446744073709551615 - d : Nat) : Int) by omega];refine aR rfl rfl cf207 rfl rfl (sP (18446744073709551615 - d) 18446744073709551615 d zw zw hn3) ?_;rintro _ w1 ⟨rfl, hs⟩;rw [D2.rec_of hn2 hn3, ← hm];replace hS := hS.trans hs;exact aA rfl rfl (aY rfl rfl rfl (aY rfl rfl rfl (aF rfl rfl (aF rfl rfl (aG (aE (aD (aB (aA rfl rfl (aF rfl rfl (aG (aE (aZ rfl rfl ⟨rfl, hS⟩)))))))))))))
set_option maxHeartbeats 4000000 in
theorem sJ {w : World} (x1 x0 y : Nat) (h0 : 0 < y) (hy : y < 18446744073709551616) (h1 : x1 < y) (hx0 : x0 < 18446744073709551616) :
 Ret Tryz.prog 209 #[.int .u64 (x1 : Nat), .int .u64 (x0 : Nat), .int .u64 (y : Nat), .int .u64 (D2.rec y : Nat)] w fun v w' => v = .tuple #[.int .u64 (((x1 * 18446744073709551616 + x0) / y : Nat) : Int), .int .u64 (((x1 * 18446744073709551616 + x0) % y : Nat) : Int)] ∧ w' = w := by
 obtain ⟨s, hs⟩ : ∃ s, s = 64 - blen y := ⟨_, rfl⟩;obtain ⟨hn1, hn2, hn3⟩ := kV h0 hy;rw [← hs] at hn1 hn2 hn3;obtain ⟨d, hd⟩ : ∃ d, d = y * 2 ^ s := ⟨_, rfl⟩;rw [← hd] at hn2 hn3
 have hm : D2.rec y = 340282366920938463463374607431768211455 / d - 18446744073709551616 := by rw [hd, hs]; rfl
 have hml : D2.rec y < 18446744073709551616 := by rw [hm]; exact D2.rec_lt hn2
 have hA := rU hx0 (Nat.le_of_lt hn1) h1;have hT := oI (x1 := x1) (x0 := x0) (Nat.le_of_lt hn1);obtain ⟨a1, ha1⟩ : ∃ z, z = x1 * 2 ^ s + x0 / 2 ^ (64 - s) := ⟨_, rfl⟩;obtain ⟨a0, ha0⟩ : ∃ z, z = x0 * 2 ^ s % 18446744073709551616 := ⟨_, rfl⟩;rw [← hd] at hA;rw [← ha1] at hA hT;rw [← ha0] at hT;obtain ⟨e0, he0⟩ : ∃ z, z = x0 / 2 ^ (64 - s) := ⟨_, rfl⟩;rw [← he0] at ha1
 have ha0l : a0 < 18446744073709551616 := by rw [ha0]; exact Nat.mod_lt _ zo
 obtain ⟨m, hmd⟩ : ∃ z, z = D2.rec y := ⟨_, rfl⟩;rw [← hmd] at hm hml ⊢;refine aS Tryz.func209 Tryz.ntmps209 rfl rfl (aD (aB (aF rfl rfl (aF rfl rfl (aG (aE (aD (aB (aA rfl rfl (aR rfl rfl wL rfl rfl (nlz y hy) ?_))))))))));rintro _ w99 ⟨rfl, hw99⟩;replace hw99 := hw99.symm;subst hw99;rw [← hs];refine aF rfl rfl (aG (aE (aD ?_)));refine eS (fun _ : Unit => [(0, .int .u64 (a1 : Nat)), (1, .int .u64 (a0 : Nat)), (2, .int .u64 (d : Nat)), (3, .int .u64 (m : Nat)), (10, .int .u64 (s : Nat))]) (fun _ w' => w' = w) ?_ ?_
 ·refine aD (aB (aA rfl rfl (aI rfl rfl rfl rfl (aG (aE ?_)))));refine aK rfl (fun h250 => ?_) (fun h250 => ?_)
  ·simp only [bne_iff_ne, ne_eq] at h250;refine aD (aB (aA rfl rfl (aA rfl rfl (eQ rfl rfl zw (fI (z := x1 * 2 ^ s) zw (by rw [Nat.mod_eq_of_lt zw])) rfl (aA rfl rfl (aA rfl rfl ?_))))))
   (refine aI rfl rfl (cT (z := ((64 - s : Nat) : Int)) ?_) rfl ?_; (rw [dD zw zw]; omega))
   refine dF rfl rfl zw (dK (r := 64 - s) (by show 64 - s ≤ 64; omega)) rfl ?_;rw [← he0];refine aI rfl rfl (or64 (by rw [he0]; exact iS hx0 (Nat.le_of_lt hn1)) zw) rfl ?_;rw [← ha1];exact aF rfl rfl (aG (aE (aD (aB (aA rfl rfl (aA rfl rfl (eQ rfl rfl zw (fI (z := a0) zw ha0) rfl (aF rfl rfl (aG (aE (aB (aA rfl rfl (aA rfl rfl (eQ rfl rfl zw (fI (z := d) zw (by rw [← hd, Nat.mod_eq_of_lt hn3])) rfl (aF rfl rfl (aG (bZ 0 () zo ⟨rfl, rfl, rfl, rfl, rfl, trivial⟩ rfl)))))))))))))))))
  ·simp only [bne_eq_false_iff_eq] at h250;refine aX ?_;have z0 : s = 0 := by omega
   subst z0
   have f1 : a1 = x1 := by rw [ha1, he0, Nat.pow_zero, Nat.mul_one]; show x1 + x0 / 18446744073709551616 = x1; omega
   have f2 : a0 = x0 := by rw [ha0, Nat.pow_zero, Nat.mul_one]; omega
   have f3 : d = y := by rw [hd, Nat.pow_zero, Nat.mul_one]
   exact bZ 0 () zo ⟨eF rfl zw, eF rfl zw, eF rfl zw, rfl, rfl, trivial⟩ rfl
 ·rintro u w9 hw9;replace hw9 := hw9.symm;subst hw9;clear u;refine aE (aD (aB (aA rfl rfl (aF rfl rfl (aG (aE (aD (aB (aA rfl rfl (aA rfl rfl (aR rfl rfl sK rfl rfl (mulB m a1 hml zw) ?_)))))))))));rintro _ w99 ⟨rfl, hw99⟩;replace hw99 := hw99.symm;subst hw99;refine aA rfl rfl (aY rfl rfl rfl (aY rfl rfl rfl (aF rfl rfl (aF rfl rfl (aG (aE (aD (aB (aA rfl rfl (aA rfl rfl (aR rfl rfl wK rfl rfl (addB (m * a1 % 18446744073709551616) a0 zw ha0l 0 zo) ?_)))))))))));rintro _ w99 ⟨rfl, hw99⟩;replace hw99 := hw99.symm;subst hw99;refine aA rfl rfl (aY rfl rfl rfl (aY rfl rfl rfl (aF rfl rfl (aF rfl rfl (aG (aE (aD (aB (aA rfl rfl (aA rfl rfl (aA rfl rfl (aR rfl rfl wK rfl rfl (addB (m * a1 / 18446744073709551616) a1 ((Nat.div_lt_iff_lt_mul zo).2 (Nat.mul_lt_mul_of_lt_of_le hml zw zo)) zw ((m * a1 % 18446744073709551616 + a0 + 0) / 18446744073709551616) zw) ?_))))))))))));rintro _ w99 ⟨rfl, hw99⟩;replace hw99 := hw99.symm;subst hw99;obtain ⟨t, ht⟩ : ∃ z, z = (m * a1 / 18446744073709551616 + a1 + (m * a1 % 18446744073709551616 + a0 + 0) / 18446744073709551616) % 18446744073709551616 := ⟨_, rfl⟩;rw [← ht];obtain ⟨g1, g2⟩ := D2.guess_t hn2 hn3 hm hA ha0l ht;obtain ⟨X, hX⟩ : ∃ z, z = a1 * 18446744073709551616 + a0 := ⟨_, rfl⟩;have hXd : X < d * 18446744073709551616 := by omega
  have htl := D2.lt_word g1 zw;refine aA rfl rfl (aY rfl rfl rfl (aY rfl rfl rfl (aF rfl rfl (aG (aE (aD (aB (aA rfl rfl (aF rfl rfl (aG (aE (aD (aB (aA rfl rfl (aA rfl rfl (aR rfl rfl sK rfl rfl (mulB d t hn3 htl) ?_))))))))))))))));rintro _ w99 ⟨rfl, hw99⟩;replace hw99 := hw99.symm;subst hw99;obtain ⟨k1, k2⟩ := D2.rest_t (Q := d * t) ha0l (show a1 < 18446744073709551616 by omega) (by rw [Nat.mul_comm d t]; exact g1);rw [← hX] at g1 g2 k1 k2;obtain ⟨R, hR⟩ : ∃ z, z = X - d * t := ⟨_, rfl⟩;rw [← hR] at k1 k2
  have hXR : X = t * d + R := by rw [Nat.mul_comm d t] at hR; omega
  have hRl : R < 18446744073709551616 + d := by omega
  have hb1 : d ≤ R → t + 1 < 18446744073709551616 := fun h9 => D2.lt_word (q := t + 1) (by rw [Nat.add_mul, Nat.one_mul]; omega) hXd;have hb2 : 2 * d ≤ R → t + 2 < 18446744073709551616 := fun h9 => D2.lt_word (q := t + 2) (by rw [Nat.add_mul]; omega) hXd;refine aA rfl rfl (aY rfl rfl rfl (aY rfl rfl rfl (aF rfl rfl (aF rfl rfl (aG (aE (aD (aB (aA rfl rfl (aA rfl rfl (aR rfl rfl wJ rfl rfl (subB a0 (d * t % 18446744073709551616) ha0l zw 0 zo) ?_)))))))))));rintro _ w99 ⟨rfl, hw99⟩;replace hw99 := hw99.symm;subst hw99;rw [k1];refine aA rfl rfl (aY rfl rfl rfl (aY rfl rfl rfl (aF rfl rfl (aF rfl rfl (aG (aE (aD (aB (aA rfl rfl (aA rfl rfl (aA rfl rfl (aR rfl rfl wJ rfl rfl (subB a1 (d * t / 18446744073709551616) zw ((Nat.div_lt_iff_lt_mul zo).2 (Nat.mul_lt_mul_of_lt_of_le hn3 zw zo)) (if a0 < d * t % 18446744073709551616 + 0 then 1 else 0) (by split <;> omega)) ?_))))))))))));rintro _ w99 ⟨rfl, hw99⟩;replace hw99 := hw99.symm;subst hw99;rw [k2];clear k1 k2 hm hml hmd g1 g2 ht;refine aA rfl rfl (aY rfl rfl rfl (aY rfl rfl rfl (aF rfl rfl (aF rfl rfl (aG (aE (aD (aD (aB (aA rfl rfl (aI rfl rfl rfl rfl (aG (aE ?_)))))))))))));refine aK rfl (fun h295 => ?_) (fun h295 => ?_)
  ·simp only [bne_iff_ne, ne_eq] at h295;refine aD (aB (aA rfl rfl ?_))
   (refine aI rfl rfl (cJ (z := ((t + 1 : Nat) : Int)) ?_) rfl ?_; (rw [gF]; omega))
   obtain ⟨t1, ht1⟩ : ∃ z, z = t + 1 := ⟨_, rfl⟩;rw [← ht1];refine aF rfl rfl (aG (aE (aB (aA rfl rfl (aA rfl rfl ?_)))))
   (refine aI rfl rfl (cT (z := ((R - d : Nat) : Int)) ?_) rfl ?_; (rw [gF]; omega))
   obtain ⟨R1, hR1⟩ : ∃ z, z = R - d := ⟨_, rfl⟩;rw [← hR1]
   have hf : X = t1 * d + R1 := by rw [ht1, Nat.add_mul, Nat.one_mul]; omega
   have hf2 : R1 < 18446744073709551616 ∧ R1 < 2 * d ∧ (d ≤ R1 → t1 + 1 < 18446744073709551616) := ⟨by omega, by omega, fun h9 => by omega⟩;refine aF rfl rfl (aG (aE (aD (aD (aB (aA rfl rfl (aA rfl rfl (aI rfl rfl rfl rfl (aG (aE ?_))))))))));refine aK rfl (fun h300 => ?_) (fun h300 => ?_)
   ·simp only [ge_iff_le, decide_eq_true_eq] at h300;obtain ⟨e1, e2⟩ := D2.fin (q := t1 + 1) (r := R1 - d) (hX.trans hT) hd (by rw [Nat.add_mul, Nat.one_mul]; omega) zw;refine aD (aB (aA rfl rfl ?_))
    (refine aI rfl rfl (cJ (z := ((t1 + 1 : Nat) : Int)) ?_) rfl ?_; (rw [gF]; omega))
    refine aF rfl rfl (aG (aE (aB (aA rfl rfl (aA rfl rfl ?_)))))
    (refine aI rfl rfl (cT (z := ((R1 - d : Nat) : Int)) ?_) rfl ?_; (rw [gF]; omega))
    refine aF rfl rfl (aG (aE (aD (aB (aA rfl rfl (aA rfl rfl (aA rfl rfl (dF rfl rfl zw (dK (r := s) (by show s ≤ 64; omega)) rfl (aF rfl rfl (aF rfl rfl (aG (aE (aZ rfl rfl ?_)))))))))))));rw [e1, e2];exact ⟨rfl, rfl⟩
   ·simp only [ge_iff_le, decide_eq_false_iff_not, Int.not_le] at h300;obtain ⟨e1, e2⟩ := D2.fin (hX.trans hT) hd hf zw;refine aX (aE (aD (aB (aA rfl rfl (aA rfl rfl (aA rfl rfl (dF rfl rfl zw (dK (r := s) (by show s ≤ 64; omega)) rfl (aF rfl rfl (aF rfl rfl (aG (aE (aZ rfl rfl ?_))))))))))));rw [e1, e2];exact ⟨rfl, rfl⟩
  ·simp only [bne_eq_false_iff_eq] at h295;obtain ⟨t1, hq9⟩ : ∃ z, z = t := ⟨_, rfl⟩;subst hq9;obtain ⟨R1, hR1⟩ : ∃ z, z = R % 18446744073709551616 := ⟨_, rfl⟩;rw [← hR1];have hf : X = t1 * d + R1 := by omega
   have hf2 : R1 < 18446744073709551616 ∧ R1 < 2 * d ∧ (d ≤ R1 → t1 + 1 < 18446744073709551616) := ⟨by omega, by omega, fun h9 => hb1 zw⟩;refine aX (aE (aD (aD (aB (aA rfl rfl (aA rfl rfl (aI rfl rfl rfl rfl (aG (aE ?_)))))))));refine aK rfl (fun h300 => ?_) (fun h300 => ?_)
   ·simp only [ge_iff_le, decide_eq_true_eq] at h300;obtain ⟨e1, e2⟩ := D2.fin (q := t1 + 1) (r := R1 - d) (hX.trans hT) hd (by rw [Nat.add_mul, Nat.one_mul]; omega) zw;refine aD (aB (aA rfl rfl ?_))
    (refine aI rfl rfl (cJ (z := ((t1 + 1 : Nat) : Int)) ?_) rfl ?_; (rw [gF]; omega))
    refine aF rfl rfl (aG (aE (aB (aA rfl rfl (aA rfl rfl ?_)))))
    (refine aI rfl rfl (cT (z := ((R1 - d : Nat) : Int)) ?_) rfl ?_; (rw [gF]; omega))
    refine aF rfl rfl (aG (aE (aD (aB (aA rfl rfl (aA rfl rfl (aA rfl rfl (dF rfl rfl zw (dK (r := s) (by show s ≤ 64; omega)) rfl (aF rfl rfl (aF rfl rfl (aG (aE (aZ rfl rfl ?_)))))))))))));rw [e1, e2];exact ⟨rfl, rfl⟩
   ·simp only [ge_iff_le, decide_eq_false_iff_not, Int.not_le] at h300;obtain ⟨e1, e2⟩ := D2.fin (hX.trans hT) hd hf zw;refine aX (aE (aD (aB (aA rfl rfl (aA rfl rfl (aA rfl rfl (dF rfl rfl zw (dK (r := s) (by show s ≤ 64; omega)) rfl (aF rfl rfl (aF rfl rfl (aG (aE (aZ rfl rfl ?_))))))))))));rw [e1, e2];exact ⟨rfl, rfl⟩
end Go.Proofs.YtccicbpeajdjgaaGreatDoor.Vm
