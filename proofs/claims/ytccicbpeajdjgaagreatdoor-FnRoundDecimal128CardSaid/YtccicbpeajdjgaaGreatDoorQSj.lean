/- Words read as a wide integer. -/
import Derived.Test.YtccicbpeajdjgaaGreatDoorQVm
import Derived.Test.YtccicbpeajdjgaaGreatDoorQSi
set_option linter.unusedVariables false
set_option linter.unusedSimpArgs false
namespace Go.Proofs.YtccicbpeajdjgaaGreatDoor.Vm
open Go Mix Go.RowKit Wd
abbrev u22 := @Tryz.underlying22
set_option maxRecDepth 20000
def ug (x : Nat → Nat) : Nat → Value := fun i => .int .u64 (x i : Nat)
/-- the digits of words -/
def wd (x : Nat → Nat) : Nat → Nat := fun j => if j % 2 = 0 then x (j / 2) % 4294967296 else x (j / 2) / 4294967296
theorem vY (x : Nat → Nat) (i : Nat) : dgl (wd x) (2 * i) ++ dgl (two (x i)) 2 = dgl (wd x) (2 * (i + 1)) := by
 rw [show 2 * (i + 1) = 2 * i + 1 + 1 by omega, mW, mW, List.append_assoc]
 congr 1
 have h1 : (2 * i + 1) / 2 = i := by omega
 have h2 : 2 * i / 2 = i := by omega
 have h3 : (2 * i + 1) % 2 ≠ 0 := by omega
 have h4 : 2 * i % 2 = 0 := by omega
 simp [dgl, dg, wd, two, h1, h2, h3, h4, List.range_succ]
theorem wd_lt {x : Nat → Nat} {n : Nat} (h : ∀ i, i < n → x i < 18446744073709551616) : ∀ j, j < 2 * n → wd x j < 4294967296 := fun j hj => by
 have := h (j / 2) zw;unfold wd
 split
 ·exact Nat.mod_lt _ zo
 ·omega
theorem bn_wd (x : Nat → Nat) : bn (wd x) (2 * 2) = x 0 + x 1 * 18446744073709551616 := by
 simp only [show 2 * 2 = 4 from rfl, bn, wd, Nat.pow_zero, Nat.pow_one]
 simp
 omega
/-- two words, as a number with a sign -/
def sw (x : Nat → Nat) : Int := if x 1 < 9223372036854775808 then ((x 0 + x 1 * 18446744073709551616 : Nat) : Int) else ((x 0 + x 1 * 18446744073709551616 : Nat) : Int) - ((2 ^ 128 : Nat) : Int)
theorem sw_top (x : Nat → Nat) (h : ∀ i, i < 2 → x i < 18446744073709551616) : ((x 0 + x 1 * 18446744073709551616 : Nat) : Int).natAbs < topN := by
 have h0 := h 0 zo;have h1 := h 1 zo;refine Nat.lt_of_lt_of_le (show _ < 340282366920938463463374607431768211456 by omega) (by unfold topN; decide)
theorem nK (us : Array Value) (w : World) : (callFunc 61 us).run Tryz.prog w = .ok (.enter 61 us) w := by kernel_rfl
theorem fE : (Tryz.prog.info? 25).map (·.size) = some 1 := by kernel_rfl
set_option maxHeartbeats 1600000 in
theorem rF {w : World} (g o c : Nat) (x : Nat → Nat) (hx : Rd w g o 2 (ug x)) (hgl : g < w.heap.size) (hlt : ∀ i, i < 2 → x i < 18446744073709551616) (hh : x 1 < 9223372036854775808) :
 Ret Tryz.prog 33 #[.slice (some ⟨g, o, none⟩) 2 c] w fun v w' => Wz w' (fun g => w.heap.size ≤ g) v (sw x) ∧ Same [] w w' := by
 have hS := Same.refl [] w;obtain ⟨H, hH⟩ : ∃ H, H = w.heap.size := ⟨_, rfl⟩;have hw0 := Nat.le_of_eq hH;have hgH : g < H := by omega
 rw [← hH];have hx0 := hlt 0 zo;have hx1 := hlt 1 zo;refine aS Tryz.func33 Tryz.ntmps33 rfl rfl (aD (aB (bF dJ rfl rfl ?_)));intro w1 hn hs;obtain ⟨bR, hbR⟩ : ∃ x, x = w.heap.size := ⟨_, rfl⟩
 have hR0 : Row w1 bR 29 2 (fun i => (#[.bool false, .slice none 0 0] : Array Value).getD i undef) := by
  rw [hn, hbR];exact Row.alloc _ _ _
 rw [← hbR];have hbRH : H ≤ bR := by omega
 replace hw0 := hs.le hw0;replace hS := hS.trans hs;replace hx := hx.same hs zn hgl;replace hgl := hs.lt hgl;have hbRl := hR0.lt;clear hn hs;refine aG (aE (aD (aB (aF rfl rfl (aG (aE (aD (aD (aB (aA rfl rfl (bB rfl u22 rfl (aA rfl rfl (aG (aE (bN ?_)))))))))))))));have hO : Own w1 (bR + 1) 67 (.slice none 0 0) (dgl (wd x) (2 * 0)) := Own.nil _ _ _;refine dR (fun s : Nat × Value => [(0, .slice (some ⟨g, o, none⟩) 2 c), (2, .pointer (some ⟨bR, 0, none⟩)), (3, s.2), (7, .slice (some ⟨g, o, none⟩) 2 c), (8, .int .i64 (2 : Nat)), (9, .int .i64 (s.1 : Nat))]) (fun k s w' => s.1 + k = 2 ∧ H ≤ w'.heap.size ∧ Same [] w w' ∧ Row w' bR 29 2 (fun i => (#[.bool false, .slice none 0 0] : Array Value).getD i undef) ∧ g < w'.heap.size ∧ Rd w' g o 2 (ug x) ∧ Own w' (bR + 1) 67 s.2 (dgl (wd x) (2 * s.1))) 2 (0, .slice none 0 0) ⟨rfl, rfl, rfl, rfl, rfl, rfl, trivial⟩ ⟨rfl, hw0, hS, hR0, hgl, hx, hO⟩ ?_;clear hS hw0 hR0 hx hO hgl;rintro k ⟨i, u⟩ w2 ⟨hk, hw0, hS, hR0, hgl, hx, hO⟩;simp only at hk hO;dsimp only;rcases (show k = 0 ∨ 0 < k by omega) with hk0 | hk0
 ·obtain rfl : i = 2 := by omega
  refine aD (aB (aI rfl rfl rfl rfl (aG (aE (aD ?_)))));refine aK rfl (fun h194 => ?_) (fun h194 => ?_)
  ·simp only [decide_eq_true_eq] at h194;omega
  ·simp only [decide_eq_false_iff_not, Int.not_lt] at h194;refine dG rfl (aE (aD (aB (aA rfl rfl ?_))));have hmg := hO.mg;obtain ⟨A9, c9, rfl⟩ := hmg.shape;have hRl := hR0.lt;obtain ⟨HW, hHW⟩ : ∃ n, n = w2.heap.size := ⟨_, rfl⟩;have hHW2 := Nat.le_of_eq hHW;have hmg2 := hmg.mono (J := fun g => bR < g ∧ g < HW) (fun g g1 g2 => ⟨g1, by omega⟩);refine aR rfl rfl lW rfl rfl (jD false A9 (2 * 2) c9 _ (wd x) hmg2 (wd_lt hlt) zo (fun g hg => by have := hg.2; omega)) ?_;rintro v9 w3 ⟨hz9, hs⟩;rw [bn_wd] at hz9;have hz8 : Wz w3 (fun g => bR < g ∧ g < HW) v9 ((x 0 + x 1 * 18446744073709551616 : Nat) : Int) := hz9;clear hz9;obtain ⟨s9, rfl, hmz⟩ := hz8;replace hw0 := hs.le hw0;replace hS := hS.trans hs;replace hx := hx.same hs zn hgl;replace hHW2 := hs.le hHW2;replace hgl := hs.lt hgl;replace hR0 := hR0.same hs zn;refine bF dJ rfl rfl ?_;intro w4 hn hs;obtain ⟨bT, hbT⟩ : ∃ x, x = w3.heap.size := ⟨_, rfl⟩
   have hT : Row w4 bT 29 2 (fun i => (#[.bool false, .slice none 0 0] : Array Value).getD i undef) := by
    rw [hn, hbT];exact Row.alloc _ _ _
   rw [← hbT];have hbTH : H ≤ bT := by omega
   have hRlx := hR0.lt;have hbTR : bR < bT := by omega
   replace hmz := hmz.mono (J := fun g => H ≤ g ∧ g ≠ bT ∧ g ≠ bR) (fun g h _ => ⟨by omega, by omega, by omega⟩);replace hw0 := hs.le hw0;replace hS := hS.trans hs;replace hx := hx.same hs zn hgl;replace hHW2 := hs.le hHW2;replace hgl := hs.lt hgl;replace hR0 := hR0.same hs zn;replace hmz := hmz.same hs zn;have hTl0 := hT.lt;clear hn hs;refine aU (n := 2) rfl rfl cI rfl (bJ hmz.one) hT zo ?_;intro w5 hn hs;have hT : WB w5 bT (decide _) s9 := hn.congr fun i hi => aN (g := wF _ _) hi;replace hS := hS.trans hs;replace hw0 := hs.le hw0;clear hn;replace hR0 := hR0.same hs;replace hmz := hmz.same hs;replace hx := hx.same hs;replace hgl := hs.lt hgl;refine aG (aE (aD (aD (aB (aA rfl rfl (bB rfl u22 rfl (aI rfl rfl rfl rfl (aA rfl rfl (aJ rfl rfl rfl (aA rfl rfl (aJ rfl rfl rfl (aA rfl rfl (aJ rfl rfl rfl (bB rfl u22 rfl (aJ rfl rfl rfl ?_)))))))))))))))
   (refine aI rfl rfl (cT (aV ?_ ?_)) rfl ?_; (omega); (omega))
   refine aJ rfl rfl rfl (cC rfl rfl u22 fE zw zw rfl (aJ rfl rfl rfl (aL rfl u25 rfl (show _ = some (Value.int .u64 (x 1 : Nat)) by rw [Nat.mul_one, show Int.toNat _ = 1 by omega]; exact hx 1 zw) rfl (aJ rfl rfl rfl (dF rfl rfl zo (mV (D := 9223372036854775808) rfl zo) rfl (aJ rfl rfl rfl (aI rfl rfl rfl rfl (cH rfl rfl rfl rfl (aG (aE ?_))))))))));refine aK rfl (fun h198 => ?_) (fun h198 => ?_)
   ·simp only [beq_iff_eq] at h198;omega
   ·simp only [beq_eq_false_iff_ne, ne_eq] at h198;refine aX (aE (aD (aB (aM rfl u29 rfl cI hT.rd rfl (aU (n := 2) rfl rfl cI rfl (bJ hmz.one) hR0 zo ?_)))));intro w6 hn hs;have hR : WB w6 bR _ _ := hn.congr fun i hi => aN (g := wF _ _) hi;replace hS := hS.trans hs;replace hw0 := hs.le hw0;clear hn;replace hmz := hmz.same hs;refine aG (aE (cS rfl rfl u29 rfl cI hR.rd ?_))
    have hsw : sw x = ((x 0 + x 1 * 18446744073709551616 : Nat) : Int) := by unfold sw; rw [if_pos hh]
    rw [hsw];exact ⟨⟨_, rfl, hmz.mono fun g h _ => h.1⟩, hS⟩
 ·have hxi := hlt i zw;refine aD (aB (aI rfl rfl rfl rfl (aG (aE (aD ?_)))));refine aK rfl (fun h194 => ?_) (fun h194 => ?_)
  ·simp only [decide_eq_true_eq] at h194;refine aX (aE (aD (bN (aD (aB (cC rfl rfl u22 fE zw zw rfl (aL rfl u25 rfl (show _ = some (Value.int .u64 (x i : Nat)) by rw [Nat.mul_one, show Int.toNat _ = i by omega]; exact hx i zw) rfl (aF rfl rfl (aG (aE (aB (aA rfl rfl (aA rfl rfl (cW rfl u25 u67 (iR (x := x i) rfl) rfl (aA rfl rfl (dF rfl rfl zo (z := ((x i / 4294967296 : Nat) : Int)) (gJ (x := x i) rfl) rfl (cW rfl u25 u67 (kF (x := x i / 4294967296) rfl zw) rfl ?_)))))))))))))))));obtain ⟨nz, hnz⟩ : ∃ x, x = w2.heap.size := ⟨_, rfl⟩;refine dS (E := 67) (cs := #[.int .u32 (x i % 4294967296 : Nat), .int .u32 (x i / 4294967296 : Nat)]) rfl rfl (fun w => by kernel_rfl) rfl rfl ?_;rw [← hnz];intro w3 hM hs;replace hw0 := hs.le hw0;replace hS := hS.trans hs;replace hx := hx.same hs zn hgl;replace hgl := hs.lt hgl;replace hR0 := hR0.same hs zn;replace hO := hO.same hs;clear hs;refine eZ rfl hO rfl (hM.mg (n := 2) (a := two (x i)) (Nat.le_refl _) (fun j hj => by rcases (show j = 0 ∨ j = 1 by omega) with rfl | rfl <;> rfl)).ls (fun j hj => mD hj) u27 mR rfl zo (by rw [dZ, dZ]; omega) (by have := hR0.lt; omega) rfl rfl ?_;intro u2 w4 S9 hn hs hS9;replace hO := hn;replace hw0 := hs.le hw0;replace hS := hS.trans hs zu;replace hx := hx.same hs zn hgl;replace hgl := hs.lt hgl;replace hR0 := hR0.same hs zn;clear hn hs hS9;refine aF rfl rfl (aG (cQ (aE (aB ?_))))
   (refine aI rfl rfl (cJ (aV ?_ ?_)) rfl ?_; (omega); (omega))
   refine aA rfl rfl (aG ?_);rw [vY] at hO;exact bZ (k - 1) (i + 1, u2) zw ⟨rfl, rfl, rfl, rfl, rfl, eF rfl zw, trivial⟩ ⟨show i + 1 + (k - 1) = 2 by omega, hw0, hS, hR0, hgl, hx, hO⟩
  ·simp only [decide_eq_false_iff_not, Int.not_lt] at h194;omega
set_option maxHeartbeats 1600000 in
theorem rE {w : World} (g o c : Nat) (x : Nat → Nat) (hx : Rd w g o 2 (ug x)) (hgl : g < w.heap.size) (hlt : ∀ i, i < 2 → x i < 18446744073709551616) (hh : ¬ x 1 < 9223372036854775808) :
 Ret Tryz.prog 33 #[.slice (some ⟨g, o, none⟩) 2 c] w fun v w' => Wz w' (fun g => w.heap.size ≤ g) v (sw x) ∧ Same [] w w' := by
 have hS := Same.refl [] w;obtain ⟨H, hH⟩ : ∃ H, H = w.heap.size := ⟨_, rfl⟩;have hw0 := Nat.le_of_eq hH;have hgH : g < H := by omega
 rw [← hH];have hx0 := hlt 0 zo;have hx1 := hlt 1 zo;refine aS Tryz.func33 Tryz.ntmps33 rfl rfl (aD (aB (bF dJ rfl rfl ?_)));intro w1 hn hs;obtain ⟨bR, hbR⟩ : ∃ x, x = w.heap.size := ⟨_, rfl⟩
 have hR0 : Row w1 bR 29 2 (fun i => (#[.bool false, .slice none 0 0] : Array Value).getD i undef) := by
  rw [hn, hbR];exact Row.alloc _ _ _
 rw [← hbR];have hbRH : H ≤ bR := by omega
 replace hw0 := hs.le hw0;replace hS := hS.trans hs;replace hx := hx.same hs zn hgl;replace hgl := hs.lt hgl;have hbRl := hR0.lt;clear hn hs;refine aG (aE (aD (aB (aF rfl rfl (aG (aE (aD (aD (aB (aA rfl rfl (bB rfl u22 rfl (aA rfl rfl (aG (aE (bN ?_)))))))))))))));have hO : Own w1 (bR + 1) 67 (.slice none 0 0) (dgl (wd x) (2 * 0)) := Own.nil _ _ _;refine dR (fun s : Nat × Value => [(0, .slice (some ⟨g, o, none⟩) 2 c), (2, .pointer (some ⟨bR, 0, none⟩)), (3, s.2), (7, .slice (some ⟨g, o, none⟩) 2 c), (8, .int .i64 (2 : Nat)), (9, .int .i64 (s.1 : Nat))]) (fun k s w' => s.1 + k = 2 ∧ H ≤ w'.heap.size ∧ Same [] w w' ∧ Row w' bR 29 2 (fun i => (#[.bool false, .slice none 0 0] : Array Value).getD i undef) ∧ g < w'.heap.size ∧ Rd w' g o 2 (ug x) ∧ Own w' (bR + 1) 67 s.2 (dgl (wd x) (2 * s.1))) 2 (0, .slice none 0 0) ⟨rfl, rfl, rfl, rfl, rfl, rfl, trivial⟩ ⟨rfl, hw0, hS, hR0, hgl, hx, hO⟩ ?_;clear hS hw0 hR0 hx hO hgl;rintro k ⟨i, u⟩ w2 ⟨hk, hw0, hS, hR0, hgl, hx, hO⟩;simp only at hk hO;dsimp only;rcases (show k = 0 ∨ 0 < k by omega) with hk0 | hk0
 ·obtain rfl : i = 2 := by omega
  refine aD (aB (aI rfl rfl rfl rfl (aG (aE (aD ?_)))));refine aK rfl (fun h194 => ?_) (fun h194 => ?_)
  ·simp only [decide_eq_true_eq] at h194;omega
  ·simp only [decide_eq_false_iff_not, Int.not_lt] at h194;refine dG rfl (aE (aD (aB (aA rfl rfl ?_))));have hmg := hO.mg;obtain ⟨A9, c9, rfl⟩ := hmg.shape;have hRl := hR0.lt;obtain ⟨HW, hHW⟩ : ∃ n, n = w2.heap.size := ⟨_, rfl⟩;have hHW2 := Nat.le_of_eq hHW;have hmg2 := hmg.mono (J := fun g => bR < g ∧ g < HW) (fun g g1 g2 => ⟨g1, by omega⟩);refine aR rfl rfl lW rfl rfl (jD false A9 (2 * 2) c9 _ (wd x) hmg2 (wd_lt hlt) zo (fun g hg => by have := hg.2; omega)) ?_;rintro v9 w3 ⟨hz9, hs⟩;rw [bn_wd] at hz9;have hz8 : Wz w3 (fun g => bR < g ∧ g < HW) v9 ((x 0 + x 1 * 18446744073709551616 : Nat) : Int) := hz9;clear hz9;obtain ⟨s9, rfl, hmz⟩ := hz8;replace hw0 := hs.le hw0;replace hS := hS.trans hs;replace hx := hx.same hs zn hgl;replace hHW2 := hs.le hHW2;replace hgl := hs.lt hgl;replace hR0 := hR0.same hs zn;refine bF dJ rfl rfl ?_;intro w4 hn hs;obtain ⟨bT, hbT⟩ : ∃ x, x = w3.heap.size := ⟨_, rfl⟩
   have hT : Row w4 bT 29 2 (fun i => (#[.bool false, .slice none 0 0] : Array Value).getD i undef) := by
    rw [hn, hbT];exact Row.alloc _ _ _
   rw [← hbT];have hbTH : H ≤ bT := by omega
   have hRlx := hR0.lt;have hbTR : bR < bT := by omega
   replace hmz := hmz.mono (J := fun g => H ≤ g ∧ g ≠ bT ∧ g ≠ bR) (fun g h _ => ⟨by omega, by omega, by omega⟩);replace hw0 := hs.le hw0;replace hS := hS.trans hs;replace hx := hx.same hs zn hgl;replace hHW2 := hs.le hHW2;replace hgl := hs.lt hgl;replace hR0 := hR0.same hs zn;replace hmz := hmz.same hs zn;have hTl0 := hT.lt;clear hn hs;refine aU (n := 2) rfl rfl cI rfl (bJ hmz.one) hT zo ?_;intro w5 hn hs;have hT : WB w5 bT (decide _) s9 := hn.congr fun i hi => aN (g := wF _ _) hi;replace hS := hS.trans hs;replace hw0 := hs.le hw0;clear hn;replace hR0 := hR0.same hs;replace hmz := hmz.same hs;replace hx := hx.same hs;replace hgl := hs.lt hgl;refine aG (aE (aD (aD (aB (aA rfl rfl (bB rfl u22 rfl (aI rfl rfl rfl rfl (aA rfl rfl (aJ rfl rfl rfl (aA rfl rfl (aJ rfl rfl rfl (aA rfl rfl (aJ rfl rfl rfl (bB rfl u22 rfl (aJ rfl rfl rfl ?_)))))))))))))))
   (refine aI rfl rfl (cT (aV ?_ ?_)) rfl ?_; (omega); (omega))
   refine aJ rfl rfl rfl (cC rfl rfl u22 fE zw zw rfl (aJ rfl rfl rfl (aL rfl u25 rfl (show _ = some (Value.int .u64 (x 1 : Nat)) by rw [Nat.mul_one, show Int.toNat _ = 1 by omega]; exact hx 1 zw) rfl (aJ rfl rfl rfl (dF rfl rfl zo (mV (D := 9223372036854775808) rfl zo) rfl (aJ rfl rfl rfl (aI rfl rfl rfl rfl (cH rfl rfl rfl rfl (aG (aE ?_))))))))));refine aK rfl (fun h198 => ?_) (fun h198 => ?_)
   ·simp only [beq_iff_eq] at h198;replace hw0 := (aC _).le hw0;replace hS := hS.trans (aC _);replace hHW2 := (aC _).le hHW2;replace hgl := (aC _).lt hgl;replace hR0 := hR0.same (aC _) zn;replace hT := hT.same (aC _) zn;replace hmz := hmz.same (aC _) zn;refine cX (fun wS => WB wS bT (decide (((x 0 + x 1 * 18446744073709551616 : Nat) : Int) < 0)) s9) [6] (.cons 0 (.cons 1 (.cons 2 (.cons 3 (.cons 4 (.cons 5 (.cons 6 .nil))))))) cL zy hT (cG rfl aH rfl u29 rfl cI (fun w9 h9 => h9.rd) rfl (bH rfl aH rfl rfl (fV rfl aH rfl u22 rfl ?_)))
    (refine dW rfl aH rfl rfl (dE (aV ?_ ?_)) rfl ?_; (omega); (omega))
    refine bW rfl aH rfl rfl nK rfl rfl (nI 128 zo) ?_;rintro v9 w6 ⟨⟨s8, rfl, hone⟩, hs⟩;replace hw0 := hs.le hw0;replace hS := hS.trans hs;replace hgl := hs.lt hgl;replace hR0 := hR0.same hs zn;replace hT := hT.same hs zn;replace hmz := hmz.same hs zn;refine aQ rfl hT ?_;have hTl2 := hT.lt;have hRl3 := hR0.lt;refine bW rfl aH rfl rfl cf26 rfl rfl (oF s9 ((x 0 + x 1 * 18446744073709551616 : Nat) : Int) hmz.ins (sw_top x hlt) s8 ((2 ^ 128 : Nat) : Int) hone.ins (by rw [Int.natAbs_natCast]; exact gX zo)) ?_;rintro v9 w7 ⟨hz9, hs⟩;obtain ⟨s7, rfl, hmz9⟩ := hz9;replace hmz := hmz9.mono (J := fun g => H ≤ g ∧ g ≠ bT ∧ g ≠ bR) (fun g h _ => ⟨by omega, by omega, by omega⟩);clear hmz9;replace hw0 := hs.le hw0;replace hS := hS.trans hs;replace hgl := hs.lt hgl;replace hR0 := hR0.same hs zn;replace hT := hT.same hs zn;refine aQ rfl hT (bA rfl aH (n := 2) rfl rfl cI rfl (bJ hmz.one) hT zo ?_);intro w8 hn hs;have hT : WB w8 bT (decide _) s7 := hn.congr fun i hi => aN (g := wF _ _) hi;replace hS := hS.trans hs;replace hw0 := hs.le hw0;clear hn;replace hR0 := hR0.same hs;replace hmz := hmz.same hs;refine eM rfl (cO (aE (aD (aB (aM rfl u29 rfl cI hT.rd rfl (aU (n := 2) rfl rfl cI rfl (bJ hmz.one) hR0 zo ?_))))));intro w9 hn hs;have hR : WB w9 bR _ _ := hn.congr fun i hi => aN (g := wF _ _) hi;replace hS := hS.trans hs;replace hw0 := hs.le hw0;clear hn;replace hmz := hmz.same hs;refine aG (aE (cS rfl rfl u29 rfl cI hR.rd ?_))
    have hsw : sw x = ((x 0 + x 1 * 18446744073709551616 : Nat) : Int) - ((2 ^ 128 : Nat) : Int) := by unfold sw; rw [if_neg hh]
    rw [hsw];exact ⟨⟨_, rfl, hmz.mono fun g h _ => h.1⟩, hS⟩
   ·simp only [beq_eq_false_iff_ne, ne_eq] at h198;omega
 ·have hxi := hlt i zw;refine aD (aB (aI rfl rfl rfl rfl (aG (aE (aD ?_)))));refine aK rfl (fun h194 => ?_) (fun h194 => ?_)
  ·simp only [decide_eq_true_eq] at h194;refine aX (aE (aD (bN (aD (aB (cC rfl rfl u22 fE zw zw rfl (aL rfl u25 rfl (show _ = some (Value.int .u64 (x i : Nat)) by rw [Nat.mul_one, show Int.toNat _ = i by omega]; exact hx i zw) rfl (aF rfl rfl (aG (aE (aB (aA rfl rfl (aA rfl rfl (cW rfl u25 u67 (iR (x := x i) rfl) rfl (aA rfl rfl (dF rfl rfl zo (z := ((x i / 4294967296 : Nat) : Int)) (gJ (x := x i) rfl) rfl (cW rfl u25 u67 (kF (x := x i / 4294967296) rfl zw) rfl ?_)))))))))))))))));obtain ⟨nz, hnz⟩ : ∃ x, x = w2.heap.size := ⟨_, rfl⟩;refine dS (E := 67) (cs := #[.int .u32 (x i % 4294967296 : Nat), .int .u32 (x i / 4294967296 : Nat)]) rfl rfl (fun w => by kernel_rfl) rfl rfl ?_;rw [← hnz];intro w3 hM hs;replace hw0 := hs.le hw0;replace hS := hS.trans hs;replace hx := hx.same hs zn hgl;replace hgl := hs.lt hgl;replace hR0 := hR0.same hs zn;replace hO := hO.same hs;clear hs;refine eZ rfl hO rfl (hM.mg (n := 2) (a := two (x i)) (Nat.le_refl _) (fun j hj => by rcases (show j = 0 ∨ j = 1 by omega) with rfl | rfl <;> rfl)).ls (fun j hj => mD hj) u27 mR rfl zo (by rw [dZ, dZ]; omega) (by have := hR0.lt; omega) rfl rfl ?_;intro u2 w4 S9 hn hs hS9;replace hO := hn;replace hw0 := hs.le hw0;replace hS := hS.trans hs zu;replace hx := hx.same hs zn hgl;replace hgl := hs.lt hgl;replace hR0 := hR0.same hs zn;clear hn hs hS9;refine aF rfl rfl (aG (cQ (aE (aB ?_))))
   (refine aI rfl rfl (cJ (aV ?_ ?_)) rfl ?_; (omega); (omega))
   refine aA rfl rfl (aG ?_);rw [vY] at hO;exact bZ (k - 1) (i + 1, u2) zw ⟨rfl, rfl, rfl, rfl, rfl, eF rfl zw, trivial⟩ ⟨show i + 1 + (k - 1) = 2 by omega, hw0, hS, hR0, hgl, hx, hO⟩
  ·simp only [decide_eq_false_iff_not, Int.not_lt] at h194;omega
theorem tK {w : World} (g o c : Nat) (x : Nat → Nat) (hx : Rd w g o 2 (ug x)) (hgl : g < w.heap.size) (hlt : ∀ i, i < 2 → x i < 18446744073709551616) : Ret Tryz.prog 33 #[.slice (some ⟨g, o, none⟩) 2 c] w (fun v w' => Wz w' (fun g => w.heap.size ≤ g) v (sw x) ∧ Same [] w w') := by
 by_cases h : x 1 < 9223372036854775808
 ·exact rF g o c x hx hgl hlt h
 ·exact rE g o c x hx hgl hlt h
end Go.Proofs.YtccicbpeajdjgaaGreatDoor.Vm
