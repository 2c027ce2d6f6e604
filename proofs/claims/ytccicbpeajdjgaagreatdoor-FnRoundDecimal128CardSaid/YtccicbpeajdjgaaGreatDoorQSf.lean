/- Wide integers: sign, order, sum, difference, product, quotient. -/
import Derived.Test.YtccicbpeajdjgaaGreatDoorQVm
import Derived.Test.YtccicbpeajdjgaaGreatDoorQSe
import Derived.Test.YtccicbpeajdjgaaGreatDoorQVmMap
set_option linter.unusedVariables false
set_option linter.unusedSimpArgs false
namespace Go.Proofs.YtccicbpeajdjgaaGreatDoor.Vm
open Go Mix Go.RowKit Wd
abbrev u4 := @Tryz.underlying4
set_option maxRecDepth 20000
def topN : Nat := 4294967296 ^ 32
theorem Mz.ins {w : World} {I : Nat → Prop} {s : Value} {x : Nat} (h : Mz w I s x) : Mz w (fun g => g < w.heap.size) s x := h.mono fun g _ h => h
theorem dec_lt (z : Int) : decide (z < 0) = true ↔ z < 0 := by simp
theorem sg_not (z : Int) : sg (!decide (z < 0)) z.natAbs = -z := by
 unfold sg
 by_cases h : z < 0
 ·simp [h]; omega
 ·simp [h]; omega
theorem sg_self (z : Int) : sg (decide (z < 0)) z.natAbs = z := by
 unfold sg
 by_cases h : z < 0
 ·simp [h]; omega
 ·simp [h]; omega
theorem sg_add {x y : Int} (h : (decide (x < 0) == decide (y < 0)) = true) : sg (decide (x < 0)) (x.natAbs + y.natAbs) = x + y := by
 unfold sg
 by_cases h1 : x < 0 <;> by_cases h2 : y < 0 <;> simp [h1, h2] at h ⊢ <;> omega
theorem sg_sub {x y : Int} (h : (decide (x < 0) == decide (y < 0)) = false) (hge : y.natAbs ≤ x.natAbs) : sg (decide (x < 0)) (x.natAbs - y.natAbs) = x + y := by
 unfold sg
 by_cases h1 : x < 0 <;> by_cases h2 : y < 0 <;> simp [h1, h2] at h ⊢ <;> omega
theorem sg_sub' {x y : Int} (h : (decide (x < 0) == decide (y < 0)) = false) (hge : ¬ y.natAbs ≤ x.natAbs) : sg (decide (y < 0)) (y.natAbs - x.natAbs) = x + y := by
 unfold sg
 by_cases h1 : x < 0 <;> by_cases h2 : y < 0 <;> simp [h1, h2] at h ⊢ <;> omega
theorem abs_if (x : Int) : ((x.natAbs : Nat) : Int) = if x < 0 then -x else x := by split <;> omega
theorem sg_mul (x y : Int) : sg (!(decide (x < 0) == decide (y < 0))) (x.natAbs * y.natAbs) = x * y := by
 unfold sg;simp only [Int.natCast_mul, abs_if]
 by_cases h1 : x < 0 <;> by_cases h2 : y < 0 <;> simp [h1, h2, Int.neg_mul, Int.mul_neg]
theorem qQ (x : Int) {y : Int} (hy : 0 < y) : sg (!(decide (x < 0) == decide (y < 0))) (x.natAbs / y.natAbs) = x.tdiv y := by
 obtain ⟨q, rfl⟩ : ∃ q : Nat, y = q := ⟨y.natAbs, by omega⟩;have h0 : decide ((q : Int) < 0) = false := by simp
 rw [h0];unfold sg
 by_cases h1 : x < 0
 ·obtain ⟨p, rfl⟩ : ∃ p : Nat, x = -(p : Int) := ⟨x.natAbs, by omega⟩;simp only [h1, decide_true, Int.natAbs_neg, Int.natAbs_natCast, Int.neg_tdiv, Int.ofNat_tdiv];rfl
 ·obtain ⟨p, rfl⟩ : ∃ p : Nat, x = (p : Int) := ⟨x.natAbs, by omega⟩;simp only [h1, decide_false, Int.natAbs_natCast, Int.ofNat_tdiv];rfl
theorem uP (x : Int) {y : Int} (hy : 0 < y) : sg (decide (x < 0)) (x.natAbs % y.natAbs) = x.tmod y := by
 obtain ⟨q, rfl⟩ : ∃ q : Nat, y = q := ⟨y.natAbs, by omega⟩;unfold sg
 by_cases h1 : x < 0
 ·obtain ⟨p, rfl⟩ : ∃ p : Nat, x = -(p : Int) := ⟨x.natAbs, by omega⟩;simp only [h1, decide_true, Int.natAbs_neg, Int.natAbs_natCast, Int.neg_tmod, Int.ofNat_tmod];rfl
 ·obtain ⟨p, rfl⟩ : ∃ p : Nat, x = (p : Int) := ⟨x.natAbs, by omega⟩;simp only [h1, decide_false, Int.natAbs_natCast, Int.ofNat_tmod];rfl
theorem top_mul {x y : Nat} (hx : x < topN) (hy : y < topN) : x * y < 4294967296 ^ 64 := by
 have h : x * y < topN * topN := Nat.mul_lt_mul'' hx hy;unfold topN at h
 rwa [← Nat.pow_add] at h
theorem cmp_neg (x y : Int) (h1 : x < 0) (h2 : y < 0) : - cmpN x.natAbs y.natAbs = Rd.cmp x y := by
 unfold cmpN Rd.cmp
 repeat' split
 all_goals omega
theorem cmp_pos (x y : Int) (h1 : ¬ x < 0) (h2 : ¬ y < 0) : cmpN x.natAbs y.natAbs = Rd.cmp x y := by
 unfold cmpN Rd.cmp
 repeat' split
 all_goals omega
theorem cf25 (us : Array Value) (w : World) : (callFunc 25 us).run Tryz.prog w = .ok (.enter 25 us) w := by kernel_rfl
theorem lV (us : Array Value) (w : World) : (callFunc 27 us).run Tryz.prog w = .ok (.enter 27 us) w := by kernel_rfl
theorem cf40 (us : Array Value) (w : World) : (callFunc 40 us).run Tryz.prog w = .ok (.enter 40 us) w := by kernel_rfl
theorem dQ (b o : Nat) (w : World) : (Instr.fieldAt 29 (.pointer (some ⟨b, o, none⟩)) 0).run Tryz.prog w = .ok (.pointer (some ⟨b, o + 0, none⟩)) w := by kernel_rfl
theorem dM (b o : Nat) (w : World) : (Instr.fieldAt 29 (.pointer (some ⟨b, o, none⟩)) 1).run Tryz.prog w = .ok (.pointer (some ⟨b, o + 1, none⟩)) w := by kernel_rfl
set_option maxHeartbeats 400000 in
theorem mA {w : World} (s : Value) (x : Int) (h1 : Mz w (fun g => g < w.heap.size) s x.natAbs) (hx : x.natAbs < topN) :
 Ret Tryz.prog 40 #[.agg #[.bool (decide (x < 0)), s]] w fun v w' => Wz w' (fun g => g < w.heap.size) v (-x) ∧ Same [] w w' := by
 have hS := Same.refl [] w;obtain ⟨H, hH⟩ : ∃ H, H = w.heap.size := ⟨_, rfl⟩;have hw0 := Nat.le_of_eq hH;rw [← hH] at h1 ⊢;obtain ⟨n, a, h1, ha, hNa, hba⟩ := h1;have hla := hNa.len (k := 32) (Nat.lt_of_le_of_lt (Nat.le_of_eq hba) hx);obtain ⟨A, c, rfl⟩ := h1.shape;refine aS Tryz.func40 Tryz.ntmps40 rfl rfl (aD (aB (cA rfl rfl rfl ?_)));intro w1 hn hs;replace hw0 := hs.le hw0;replace hS := hS.trans hs;replace h1 := h1.same hs;obtain ⟨bL, hbL⟩ : ∃ x, x = w.heap.size := ⟨_, rfl⟩
 have hL : WB w1 bL (decide (x < 0)) (.slice A n c) := by rw [hn, hbL]; exact WB.box _ _ _
 rw [← hbL];have hbLH : H ≤ bL := by omega
 have hw01 := hw0;have hbLl := hL.lt;clear hn hs;refine bF dJ rfl rfl ?_;intro w2 hn hs;obtain ⟨bR, hbR⟩ : ∃ x, x = w1.heap.size := ⟨_, rfl⟩
 have hR0 : Row w2 bR 29 2 (fun i => (#[.bool false, .slice none 0 0] : Array Value).getD i undef) := by
  rw [hn, hbR];exact Row.alloc _ _ _
 rw [← hbR];have hbRH : H ≤ bR := by omega
 have hbLR : ∀ b, b < w1.heap.size → b < bR := fun b h => by omega
 replace hw0 := hs.le hw0;replace hS := hS.trans hs;replace h1 := h1.same hs;replace hL := hL.same hs;have hbRl := hR0.lt;have hbLb := hbLR bL hbLl;clear hn hs;refine aG (aE (aD (aB (aO rfl dQ rfl (aL rfl u4 rfl hL.c0 rfl (dL rfl rfl (aO rfl dM rfl (aL rfl u27 rfl hL.c1 rfl ?_))))))));have hRl := hR0.lt;refine aR rfl rfl lW rfl rfl (jD (!decide (x < 0)) A n c _ a h1 ha zw (fun g hg => Nat.lt_of_lt_of_le hg hw0)) ?_;rintro v9 w3 ⟨hz9, hs⟩;rw [hba, sg_not] at hz9;obtain ⟨s9, rfl, hmz⟩ := hz9;replace hmz := hmz.mono (J := fun g => g < H) (fun g h _ => by omega);replace hw0 := hs.le hw0;replace hS := hS.trans hs;replace hR0 := hR0.same hs;refine aU (n := 2) rfl rfl cI rfl (bJ hmz.one) hR0 zo ?_;intro w4 hn hs;have hR : WB w4 bR (decide _) s9 := hn.congr fun i hi => aN (g := wF _ _) hi;replace hS := hS.trans hs;replace hmz := hmz.same hs;exact aG (aE (cS rfl rfl u29 rfl cI hR.rd ⟨⟨s9, rfl, hmz⟩, hS⟩))
set_option maxHeartbeats 800000 in
theorem tY {w : World} (s : Value) (x : Int) (h1 : Mz w (fun g => g < w.heap.size) s x.natAbs) (hx : x.natAbs < topN) (t : Value) (y : Int) (h2 : Mz w (fun g => g < w.heap.size) t y.natAbs) (hy : y.natAbs < topN) (he : (decide (x < 0) == decide (y < 0)) = true) :
 Ret Tryz.prog 27 #[.agg #[.bool (decide (x < 0)), s], .agg #[.bool (decide (y < 0)), t]] w fun v w' => Wz w' (fun g => w.heap.size ≤ g) v (x + y) ∧ Same [] w w' := by
 have hS := Same.refl [] w;obtain ⟨H, hH⟩ : ∃ H, H = w.heap.size := ⟨_, rfl⟩;have hw0 := Nat.le_of_eq hH;rw [← hH] at h1 h2 ⊢;obtain ⟨n, a, h1, ha, hNa, hba⟩ := h1;have hla := hNa.len (k := 32) (Nat.lt_of_le_of_lt (Nat.le_of_eq hba) hx);obtain ⟨A, c, rfl⟩ := h1.shape;obtain ⟨m, b, h2, hb, hNb, hbb⟩ := h2;have hlb := hNb.len (k := 32) (Nat.lt_of_le_of_lt (Nat.le_of_eq hbb) hy);obtain ⟨B, d, rfl⟩ := h2.shape;refine aS Tryz.func27 Tryz.ntmps27 rfl rfl (aD (aB (cA rfl rfl rfl ?_)));intro w1 hn hs;replace hw0 := hs.le hw0;replace hS := hS.trans hs;replace h1 := h1.same hs;replace h2 := h2.same hs;obtain ⟨bL, hbL⟩ : ∃ x, x = w.heap.size := ⟨_, rfl⟩
 have hL : WB w1 bL (decide (x < 0)) (.slice A n c) := by rw [hn, hbL]; exact WB.box _ _ _
 rw [← hbL];have hbLH : H ≤ bL := by omega
 have hw01 := hw0;have hbLl := hL.lt;clear hn hs;refine cA rfl rfl rfl ?_;intro w2 hn hs;replace hw0 := hs.le hw0;replace hS := hS.trans hs;replace h1 := h1.same hs;replace hL := hL.same hs;replace h2 := h2.same hs;obtain ⟨bQ, hbQ⟩ : ∃ x, x = w1.heap.size := ⟨_, rfl⟩
 have hQ : WB w2 bQ (decide (y < 0)) (.slice B m d) := by rw [hn, hbQ]; exact WB.box _ _ _
 rw [← hbQ];have hbQH : H ≤ bQ := by omega
 have hbLQ : bL < bQ := by omega
 have hw02 := hw0;have hbQl := hQ.lt;clear hn hs;refine bF dJ rfl rfl ?_;intro w3 hn hs;obtain ⟨bR, hbR⟩ : ∃ x, x = w2.heap.size := ⟨_, rfl⟩
 have hR0 : Row w3 bR 29 2 (fun i => (#[.bool false, .slice none 0 0] : Array Value).getD i undef) := by
  rw [hn, hbR];exact Row.alloc _ _ _
 rw [← hbR];have hbRH : H ≤ bR := by omega
 have hbLR : ∀ b, b < w2.heap.size → b < bR := fun b h => by omega
 replace hw0 := hs.le hw0;replace hS := hS.trans hs;replace h1 := h1.same hs;replace hL := hL.same hs;replace h2 := h2.same hs;replace hQ := hQ.same hs;have hbRl := hR0.lt;have hbQb := hbLR bQ hbQl;have hbLb : bL < bR := by omega
 clear hn hs;refine aG (aE (aD (aD (aB (aO rfl dQ rfl (aL rfl u4 rfl hL.c0 rfl (aO rfl dQ rfl (aL rfl u4 rfl hQ.c0 rfl (pF rfl rfl u4 rfl (aG (aE ?_)))))))))));refine aK rfl (fun h152 => ?_) (fun h152 => ?_)
 ·simp only [beq_iff_eq] at h152;refine aD ?_;replace hw0 := (aC _).le hw0;replace hS := hS.trans (aC _);replace h1 := h1.same (aC _);replace hL := hL.same (aC _);replace hR0 := hR0.same (aC _);replace h2 := h2.same (aC _);replace hQ := hQ.same (aC _);refine cX (fun wS => WB wS bL (decide (x < 0)) (.slice A n c) ∧ WB wS bQ (decide (y < 0)) (.slice B m d)) [] (.cons 0 (.cons 1 (.cons 2 (.cons 3 (.cons 4 (.cons 5 (.cons 6 (.cons 7 (.cons 8 .nil))))))))) cL zy ⟨hL, hQ⟩ (cF rfl aH rfl dQ rfl (cN rfl aH rfl u4 rfl (fun w9 h9 => h9.1.c0) rfl (cF rfl aH rfl dM rfl (cN rfl aH rfl u27 rfl (fun w9 h9 => h9.1.c1) rfl (cF rfl aH rfl dM rfl (cN rfl aH rfl u27 rfl (fun w9 h9 => h9.2.c1) rfl ?_))))));have hRl := hR0.lt;refine bW rfl aH rfl rfl rL rfl rfl (kI A B n c m d _ _ a b h1 h2 ha hb zw zw (fun g hg => Nat.lt_of_lt_of_le hg hw0) (fun g hg => Nat.lt_of_lt_of_le hg hw0)) ?_;rintro v9 w4 ⟨k, o, hr, ho, hbo, hk, hs⟩;replace hr := hr.mono (J := fun g => bR < g ∧ g < w4.heap.size) (fun g g1 g2 => ⟨by omega, g2⟩);obtain ⟨A9, c9, rfl⟩ := hr.shape;replace hw0 := hs.le hw0;replace hS := hS.trans hs;replace hL := hL.same hs;replace hR0 := hR0.same hs;replace hQ := hQ.same hs;refine aQ rfl ⟨hL, hQ⟩ ?_;have hRl := hR0.lt;refine bW rfl aH rfl rfl lW rfl rfl (jD (decide (x < 0)) A9 k c9 _ o hr ho zw (fun g hg => hg.2)) ?_;rintro v9 w5 ⟨hz9, hs⟩;rw [hbo, hba, hbb, sg_add he] at hz9;obtain ⟨s9, rfl, hmz⟩ := hz9;replace hmz := hmz.mono (J := fun g => bR < g) (fun g h _ => by omega);replace hw0 := hs.le hw0;replace hS := hS.trans hs;replace hL := hL.same hs;replace hR0 := hR0.same hs;replace hQ := hQ.same hs;refine aQ rfl ⟨hL, hQ⟩ (bA rfl aH (n := 2) rfl rfl cI rfl (bJ hmz.one) hR0 zo ?_);intro w6 hn hs;have hR : WB w6 bR (decide _) s9 := hn.congr fun i hi => aN (g := wF _ _) hi;replace hS := hS.trans hs;replace hL := hL.same hs;replace hQ := hQ.same hs;replace hmz := hmz.same hs;exact aQ rfl ⟨hL, hQ⟩ (cO (aE (cS rfl rfl u29 rfl cI hR.rd ⟨⟨s9, rfl, hmz.mono fun g h _ => by omega⟩, hS⟩)))
 ·(simp [he] at h152)
set_option maxHeartbeats 800000 in
theorem tX {w : World} (s : Value) (x : Int) (h1 : Mz w (fun g => g < w.heap.size) s x.natAbs) (hx : x.natAbs < topN) (t : Value) (y : Int) (h2 : Mz w (fun g => g < w.heap.size) t y.natAbs) (hy : y.natAbs < topN) (he : (decide (x < 0) == decide (y < 0)) = false) (hge : y.natAbs ≤ x.natAbs) :
 Ret Tryz.prog 27 #[.agg #[.bool (decide (x < 0)), s], .agg #[.bool (decide (y < 0)), t]] w fun v w' => Wz w' (fun g => w.heap.size ≤ g) v (x + y) ∧ Same [] w w' := by
 have hS := Same.refl [] w;obtain ⟨H, hH⟩ : ∃ H, H = w.heap.size := ⟨_, rfl⟩;have hw0 := Nat.le_of_eq hH;rw [← hH] at h1 h2 ⊢;obtain ⟨n, a, h1, ha, hNa, hba⟩ := h1;have hla := hNa.len (k := 32) (Nat.lt_of_le_of_lt (Nat.le_of_eq hba) hx);obtain ⟨A, c, rfl⟩ := h1.shape;obtain ⟨m, b, h2, hb, hNb, hbb⟩ := h2;have hlb := hNb.len (k := 32) (Nat.lt_of_le_of_lt (Nat.le_of_eq hbb) hy);obtain ⟨B, d, rfl⟩ := h2.shape;refine aS Tryz.func27 Tryz.ntmps27 rfl rfl (aD (aB (cA rfl rfl rfl ?_)));intro w1 hn hs;replace hw0 := hs.le hw0;replace hS := hS.trans hs;replace h1 := h1.same hs;replace h2 := h2.same hs;obtain ⟨bL, hbL⟩ : ∃ x, x = w.heap.size := ⟨_, rfl⟩
 have hL : WB w1 bL (decide (x < 0)) (.slice A n c) := by rw [hn, hbL]; exact WB.box _ _ _
 rw [← hbL];have hbLH : H ≤ bL := by omega
 have hw01 := hw0;have hbLl := hL.lt;clear hn hs;refine cA rfl rfl rfl ?_;intro w2 hn hs;replace hw0 := hs.le hw0;replace hS := hS.trans hs;replace h1 := h1.same hs;replace hL := hL.same hs;replace h2 := h2.same hs;obtain ⟨bQ, hbQ⟩ : ∃ x, x = w1.heap.size := ⟨_, rfl⟩
 have hQ : WB w2 bQ (decide (y < 0)) (.slice B m d) := by rw [hn, hbQ]; exact WB.box _ _ _
 rw [← hbQ];have hbQH : H ≤ bQ := by omega
 have hbLQ : bL < bQ := by omega
 have hw02 := hw0;have hbQl := hQ.lt;clear hn hs;refine bF dJ rfl rfl ?_;intro w3 hn hs;obtain ⟨bR, hbR⟩ : ∃ x, x = w2.heap.size := ⟨_, rfl⟩
 have hR0 : Row w3 bR 29 2 (fun i => (#[.bool false, .slice none 0 0] : Array Value).getD i undef) := by
  rw [hn, hbR];exact Row.alloc _ _ _
 rw [← hbR];have hbRH : H ≤ bR := by omega
 have hbLR : ∀ b, b < w2.heap.size → b < bR := fun b h => by omega
 replace hw0 := hs.le hw0;replace hS := hS.trans hs;replace h1 := h1.same hs;replace hL := hL.same hs;replace h2 := h2.same hs;replace hQ := hQ.same hs;have hbRl := hR0.lt;have hbQb := hbLR bQ hbQl;have hbLb : bL < bR := by omega
 clear hn hs;refine aG (aE (aD (aD (aB (aO rfl dQ rfl (aL rfl u4 rfl hL.c0 rfl (aO rfl dQ rfl (aL rfl u4 rfl hQ.c0 rfl (pF rfl rfl u4 rfl (aG (aE ?_)))))))))));refine aK rfl (fun h152 => ?_) (fun h152 => ?_)
 ·(simp [he] at h152)
 ·simp only [beq_eq_false_iff_ne, ne_eq] at h152;refine aX (aE (aD (aD (aB (aO rfl dM rfl (aL rfl u27 rfl hL.c1 rfl (aO rfl dM rfl (aL rfl u27 rfl hQ.c1 rfl (aR rfl rfl qE rfl rfl (jJ A B n c m d _ _ a b h1 h2 ha hb zw zw hNa hNb) ?_)))))))));rintro _ w4 ⟨rfl, hs⟩;have hcm : 0 ≤ cmpN (bn a n) (bn b m) ↔ y.natAbs ≤ x.natAbs := by rw [jT, hba, hbb]
  replace hw0 := hs.le hw0;replace hS := hS.trans hs;replace h1 := h1.same hs;replace hL := hL.same hs;replace hR0 := hR0.same hs;replace h2 := h2.same hs;replace hQ := hQ.same hs;refine aI rfl rfl rfl rfl (aG (aE ?_));refine aK rfl (fun h155 => ?_) (fun h155 => ?_)
  ·simp only [ge_iff_le, decide_eq_true_eq] at h155;refine aD ?_;replace hw0 := (aC _).le hw0;replace hS := hS.trans (aC _);replace h1 := h1.same (aC _);replace hL := hL.same (aC _);replace hR0 := hR0.same (aC _);replace h2 := h2.same (aC _);replace hQ := hQ.same (aC _);refine cX (fun wS => WB wS bL (decide (x < 0)) (.slice A n c) ∧ WB wS bQ (decide (y < 0)) (.slice B m d)) [] (.cons 0 (.cons 1 (.cons 2 (.cons 3 (.cons 4 (.cons 5 (.cons 6 (.cons 7 (.cons 8 .nil))))))))) cL zy ⟨hL, hQ⟩ (cF rfl aH rfl dQ rfl (cN rfl aH rfl u4 rfl (fun w9 h9 => h9.1.c0) rfl (cF rfl aH rfl dM rfl (cN rfl aH rfl u27 rfl (fun w9 h9 => h9.1.c1) rfl (cF rfl aH rfl dM rfl (cN rfl aH rfl u27 rfl (fun w9 h9 => h9.2.c1) rfl ?_))))));have hRl := hR0.lt;refine bW rfl aH rfl rfl cf38 rfl rfl (oS A B n c m d _ _ a b h1 h2 ha hb zw zw (fun g hg => Nat.lt_of_lt_of_le hg hw0) hNb (by rw [hba, hbb]; exact hge)) ?_;rintro v9 w5 ⟨⟨k, o, hr, ho, hNo, hbo⟩, hs⟩;have hk : k ≤ 32 := hNo.len (k := 32) (by rw [hbo]; first | exact Nat.lt_of_le_of_lt (Nat.sub_le _ _) (Nat.lt_of_le_of_lt (Nat.le_of_eq hba) hx) | exact Nat.lt_of_le_of_lt (Nat.sub_le _ _) (Nat.lt_of_le_of_lt (Nat.le_of_eq hbb) hy));replace hr := hr.mono (J := fun g => bR < g ∧ g < w5.heap.size) (fun g g1 g2 => ⟨by omega, g2⟩);obtain ⟨A9, c9, rfl⟩ := hr.shape;replace hw0 := hs.le hw0;replace hS := hS.trans hs;replace hL := hL.same hs;replace hR0 := hR0.same hs;replace hQ := hQ.same hs;refine aQ rfl ⟨hL, hQ⟩ ?_;have hRl := hR0.lt;refine bW rfl aH rfl rfl lW rfl rfl (jD (decide (x < 0)) A9 k c9 _ o hr ho zw (fun g hg => hg.2)) ?_;rintro v9 w6 ⟨hz9, hs⟩;rw [hbo, hba, hbb, sg_sub he hge] at hz9;obtain ⟨s9, rfl, hmz⟩ := hz9;replace hmz := hmz.mono (J := fun g => bR < g) (fun g h _ => by omega);replace hw0 := hs.le hw0;replace hS := hS.trans hs;replace hL := hL.same hs;replace hR0 := hR0.same hs;replace hQ := hQ.same hs;refine aQ rfl ⟨hL, hQ⟩ (bA rfl aH (n := 2) rfl rfl cI rfl (bJ hmz.one) hR0 zo ?_);intro w7 hn hs;have hR : WB w7 bR (decide _) s9 := hn.congr fun i hi => aN (g := wF _ _) hi;replace hS := hS.trans hs;replace hL := hL.same hs;replace hQ := hQ.same hs;replace hmz := hmz.same hs;exact aQ rfl ⟨hL, hQ⟩ (cO (aE (cS rfl rfl u29 rfl cI hR.rd ⟨⟨s9, rfl, hmz.mono fun g h _ => by omega⟩, hS⟩)))
  ·simp only [ge_iff_le, decide_eq_false_iff_not, Int.not_le] at h155;omega
set_option maxHeartbeats 800000 in
theorem tW {w : World} (s : Value) (x : Int) (h1 : Mz w (fun g => g < w.heap.size) s x.natAbs) (hx : x.natAbs < topN) (t : Value) (y : Int) (h2 : Mz w (fun g => g < w.heap.size) t y.natAbs) (hy : y.natAbs < topN) (he : (decide (x < 0) == decide (y < 0)) = false) (hge : ¬ y.natAbs ≤ x.natAbs) :
 Ret Tryz.prog 27 #[.agg #[.bool (decide (x < 0)), s], .agg #[.bool (decide (y < 0)), t]] w fun v w' => Wz w' (fun g => w.heap.size ≤ g) v (x + y) ∧ Same [] w w' := by
 have hS := Same.refl [] w;obtain ⟨H, hH⟩ : ∃ H, H = w.heap.size := ⟨_, rfl⟩;have hw0 := Nat.le_of_eq hH;rw [← hH] at h1 h2 ⊢;obtain ⟨n, a, h1, ha, hNa, hba⟩ := h1;have hla := hNa.len (k := 32) (Nat.lt_of_le_of_lt (Nat.le_of_eq hba) hx);obtain ⟨A, c, rfl⟩ := h1.shape;obtain ⟨m, b, h2, hb, hNb, hbb⟩ := h2;have hlb := hNb.len (k := 32) (Nat.lt_of_le_of_lt (Nat.le_of_eq hbb) hy);obtain ⟨B, d, rfl⟩ := h2.shape;refine aS Tryz.func27 Tryz.ntmps27 rfl rfl (aD (aB (cA rfl rfl rfl ?_)));intro w1 hn hs;replace hw0 := hs.le hw0;replace hS := hS.trans hs;replace h1 := h1.same hs;replace h2 := h2.same hs;obtain ⟨bL, hbL⟩ : ∃ x, x = w.heap.size := ⟨_, rfl⟩
 have hL : WB w1 bL (decide (x < 0)) (.slice A n c) := by rw [hn, hbL]; exact WB.box _ _ _
 rw [← hbL];have hbLH : H ≤ bL := by omega
 have hw01 := hw0;have hbLl := hL.lt;clear hn hs;refine cA rfl rfl rfl ?_;intro w2 hn hs;replace hw0 := hs.le hw0;replace hS := hS.trans hs;replace h1 := h1.same hs;replace hL := hL.same hs;replace h2 := h2.same hs;obtain ⟨bQ, hbQ⟩ : ∃ x, x = w1.heap.size := ⟨_, rfl⟩
 have hQ : WB w2 bQ (decide (y < 0)) (.slice B m d) := by rw [hn, hbQ]; exact WB.box _ _ _
 rw [← hbQ];have hbQH : H ≤ bQ := by omega
 have hbLQ : bL < bQ := by omega
 have hw02 := hw0;have hbQl := hQ.lt;clear hn hs;refine bF dJ rfl rfl ?_;intro w3 hn hs;obtain ⟨bR, hbR⟩ : ∃ x, x = w2.heap.size := ⟨_, rfl⟩
 have hR0 : Row w3 bR 29 2 (fun i => (#[.bool false, .slice none 0 0] : Array Value).getD i undef) := by
  rw [hn, hbR];exact Row.alloc _ _ _
 rw [← hbR];have hbRH : H ≤ bR := by omega
 have hbLR : ∀ b, b < w2.heap.size → b < bR := fun b h => by omega
 replace hw0 := hs.le hw0;replace hS := hS.trans hs;replace h1 := h1.same hs;replace hL := hL.same hs;replace h2 := h2.same hs;replace hQ := hQ.same hs;have hbRl := hR0.lt;have hbQb := hbLR bQ hbQl;have hbLb : bL < bR := by omega
 clear hn hs;refine aG (aE (aD (aD (aB (aO rfl dQ rfl (aL rfl u4 rfl hL.c0 rfl (aO rfl dQ rfl (aL rfl u4 rfl hQ.c0 rfl (pF rfl rfl u4 rfl (aG (aE ?_)))))))))));refine aK rfl (fun h152 => ?_) (fun h152 => ?_)
 ·(simp [he] at h152)
 ·simp only [beq_eq_false_iff_ne, ne_eq] at h152;refine aX (aE (aD (aD (aB (aO rfl dM rfl (aL rfl u27 rfl hL.c1 rfl (aO rfl dM rfl (aL rfl u27 rfl hQ.c1 rfl (aR rfl rfl qE rfl rfl (jJ A B n c m d _ _ a b h1 h2 ha hb zw zw hNa hNb) ?_)))))))));rintro _ w4 ⟨rfl, hs⟩;have hcm : 0 ≤ cmpN (bn a n) (bn b m) ↔ y.natAbs ≤ x.natAbs := by rw [jT, hba, hbb]
  replace hw0 := hs.le hw0;replace hS := hS.trans hs;replace h1 := h1.same hs;replace hL := hL.same hs;replace hR0 := hR0.same hs;replace h2 := h2.same hs;replace hQ := hQ.same hs;refine aI rfl rfl rfl rfl (aG (aE ?_));refine aK rfl (fun h155 => ?_) (fun h155 => ?_)
  ·simp only [ge_iff_le, decide_eq_true_eq] at h155;omega
  ·simp only [ge_iff_le, decide_eq_false_iff_not, Int.not_le] at h155;refine aX (aE (aD ?_));replace hw0 := (aC _).le hw0;replace hS := hS.trans (aC _);replace h1 := h1.same (aC _);replace hL := hL.same (aC _);replace hR0 := hR0.same (aC _);replace h2 := h2.same (aC _);replace hQ := hQ.same (aC _);refine cX (fun wS => WB wS bL (decide (x < 0)) (.slice A n c) ∧ WB wS bQ (decide (y < 0)) (.slice B m d)) [] (.cons 0 (.cons 1 (.cons 2 (.cons 3 (.cons 4 (.cons 5 (.cons 6 (.cons 7 (.cons 8 .nil))))))))) cL zy ⟨hL, hQ⟩ (cF rfl aH rfl dQ rfl (cN rfl aH rfl u4 rfl (fun w9 h9 => h9.2.c0) rfl (cF rfl aH rfl dM rfl (cN rfl aH rfl u27 rfl (fun w9 h9 => h9.2.c1) rfl (cF rfl aH rfl dM rfl (cN rfl aH rfl u27 rfl (fun w9 h9 => h9.1.c1) rfl ?_))))));have hRl := hR0.lt;refine bW rfl aH rfl rfl cf38 rfl rfl (oS B A m d n c _ _ b a h2 h1 hb ha zw zw (fun g hg => Nat.lt_of_lt_of_le hg hw0) hNa (by rw [hba, hbb]; omega)) ?_;rintro v9 w5 ⟨⟨k, o, hr, ho, hNo, hbo⟩, hs⟩;have hk : k ≤ 32 := hNo.len (k := 32) (by rw [hbo]; first | exact Nat.lt_of_le_of_lt (Nat.sub_le _ _) (Nat.lt_of_le_of_lt (Nat.le_of_eq hba) hx) | exact Nat.lt_of_le_of_lt (Nat.sub_le _ _) (Nat.lt_of_le_of_lt (Nat.le_of_eq hbb) hy));replace hr := hr.mono (J := fun g => bR < g ∧ g < w5.heap.size) (fun g g1 g2 => ⟨by omega, g2⟩);obtain ⟨A9, c9, rfl⟩ := hr.shape;replace hw0 := hs.le hw0;replace hS := hS.trans hs;replace hL := hL.same hs;replace hR0 := hR0.same hs;replace hQ := hQ.same hs;refine aQ rfl ⟨hL, hQ⟩ ?_;have hRl := hR0.lt;refine bW rfl aH rfl rfl lW rfl rfl (jD (decide (y < 0)) A9 k c9 _ o hr ho zw (fun g hg => hg.2)) ?_;rintro v9 w6 ⟨hz9, hs⟩;rw [hbo, hba, hbb, sg_sub' he hge] at hz9;obtain ⟨s9, rfl, hmz⟩ := hz9;replace hmz := hmz.mono (J := fun g => bR < g) (fun g h _ => by omega);replace hw0 := hs.le hw0;replace hS := hS.trans hs;replace hL := hL.same hs;replace hR0 := hR0.same hs;replace hQ := hQ.same hs;refine aQ rfl ⟨hL, hQ⟩ (bA rfl aH (n := 2) rfl rfl cI rfl (bJ hmz.one) hR0 zo ?_);intro w7 hn hs;have hR : WB w7 bR (decide _) s9 := hn.congr fun i hi => aN (g := wF _ _) hi;replace hS := hS.trans hs;replace hL := hL.same hs;replace hQ := hQ.same hs;replace hmz := hmz.same hs;exact aQ rfl ⟨hL, hQ⟩ (cO (aE (cS rfl rfl u29 rfl cI hR.rd ⟨⟨s9, rfl, hmz.mono fun g h _ => by omega⟩, hS⟩)))
theorem fH {w : World} (s : Value) (x : Int) (h1 : Mz w (fun g => g < w.heap.size) s x.natAbs) (hx : x.natAbs < topN) (t : Value) (y : Int) (h2 : Mz w (fun g => g < w.heap.size) t y.natAbs) (hy : y.natAbs < topN) : Ret Tryz.prog 27 #[.agg #[.bool (decide (x < 0)), s], .agg #[.bool (decide (y < 0)), t]] w (fun v w' => Wz w' (fun g => w.heap.size ≤ g) v (x + y) ∧ Same [] w w') := by
 cases he : (decide (x < 0) == decide (y < 0)) with
 | true => exact tY s x h1 hx t y h2 hy he
 | false =>
  by_cases hge : y.natAbs ≤ x.natAbs
  ·exact tX s x h1 hx t y h2 hy he hge
  ·exact tW s x h1 hx t y h2 hy he hge
set_option maxHeartbeats 800000 in
theorem oF {w : World} (s : Value) (x : Int) (h1 : Mz w (fun g => g < w.heap.size) s x.natAbs) (hx : x.natAbs < topN) (t : Value) (y : Int) (h2 : Mz w (fun g => g < w.heap.size) t y.natAbs) (hy : y.natAbs < topN) :
 Ret Tryz.prog 26 #[.agg #[.bool (decide (x < 0)), s], .agg #[.bool (decide (y < 0)), t]] w fun v w' => Wz w' (fun g => w.heap.size ≤ g) v (x - y) ∧ Same [] w w' := by
 have hS := Same.refl [] w;obtain ⟨H, hH⟩ : ∃ H, H = w.heap.size := ⟨_, rfl⟩;have hw0 := Nat.le_of_eq hH;rw [← hH] at h1 h2 ⊢;refine aS Tryz.func26 Tryz.ntmps26 rfl rfl (aD (aB (cA rfl rfl rfl ?_)));intro w1 hn hs;replace hw0 := hs.le hw0;replace hS := hS.trans hs;replace h1 := h1.same hs;replace h2 := h2.same hs;obtain ⟨bL, hbL⟩ : ∃ x, x = w.heap.size := ⟨_, rfl⟩
 have hL : WB w1 bL (decide (x < 0)) s := by rw [hn, hbL]; exact WB.box _ _ _
 rw [← hbL];have hbLH : H ≤ bL := by omega
 have hw01 := hw0;have hbLl := hL.lt;clear hn hs;refine cA rfl rfl rfl ?_;intro w2 hn hs;replace hw0 := hs.le hw0;replace hS := hS.trans hs;replace h1 := h1.same hs;replace hL := hL.same hs;replace h2 := h2.same hs;obtain ⟨bQ, hbQ⟩ : ∃ x, x = w1.heap.size := ⟨_, rfl⟩
 have hQ : WB w2 bQ (decide (y < 0)) t := by rw [hn, hbQ]; exact WB.box _ _ _
 rw [← hbQ];have hbQH : H ≤ bQ := by omega
 have hbLQ : bL < bQ := by omega
 have hw02 := hw0;have hbQl := hQ.lt;clear hn hs;refine bF dJ rfl rfl ?_;intro w3 hn hs;obtain ⟨bR, hbR⟩ : ∃ x, x = w2.heap.size := ⟨_, rfl⟩
 have hR0 : Row w3 bR 29 2 (fun i => (#[.bool false, .slice none 0 0] : Array Value).getD i undef) := by
  rw [hn, hbR];exact Row.alloc _ _ _
 rw [← hbR];have hbRH : H ≤ bR := by omega
 have hbLR : ∀ b, b < w2.heap.size → b < bR := fun b h => by omega
 replace hw0 := hs.le hw0;replace hS := hS.trans hs;replace h1 := h1.same hs;replace hL := hL.same hs;replace h2 := h2.same hs;replace hQ := hQ.same hs;have hbRl := hR0.lt;have hbQb := hbLR bQ hbQl;have hbLb : bL < bR := by omega
 clear hn hs;refine aG (aE (aD ?_));replace hw0 := (aC _).le hw0;replace hS := hS.trans (aC _);replace h1 := h1.same (aC _);replace hL := hL.same (aC _);replace hR0 := hR0.same (aC _);replace h2 := h2.same (aC _);replace hQ := hQ.same (aC _);refine cX (fun wS => WB wS bL (decide (x < 0)) s ∧ WB wS bQ (decide (y < 0)) t) [] (.cons 0 (.cons 1 (.cons 2 (.cons 3 (.cons 4 .nil))))) cL zy ⟨hL, hQ⟩ (cG rfl aH rfl u29 rfl cI (fun w9 h9 => h9.1.rd) rfl (cG rfl aH rfl u29 rfl cI (fun w9 h9 => h9.2.rd) rfl (bW rfl aH rfl rfl cf40 rfl rfl (mA t y h2.ins hy) ?_)));rintro v9 w4 ⟨⟨s8, rfl, hr⟩, hs⟩;replace hw0 := hs.le hw0;replace hS := hS.trans hs;replace h1 := h1.same hs;replace hL := hL.same hs;replace hR0 := hR0.same hs;replace hQ := hQ.same hs;refine aQ rfl ⟨hL, hQ⟩ ?_;have hRl := hR0.lt;refine bW rfl aH rfl rfl lV rfl rfl (fH s x h1.ins hx s8 (-y) hr.ins (by rw [Int.natAbs_neg]; exact hy)) ?_;rintro v9 w5 ⟨hz9, hs⟩;rw [← Int.sub_eq_add_neg] at hz9;obtain ⟨s9, rfl, hmz⟩ := hz9;replace hmz := hmz.mono (J := fun g => bR < g) (fun g h _ => by omega);replace hw0 := hs.le hw0;replace hS := hS.trans hs;replace hL := hL.same hs;replace hR0 := hR0.same hs;replace hQ := hQ.same hs;refine aQ rfl ⟨hL, hQ⟩ (bA rfl aH (n := 2) rfl rfl cI rfl (bJ hmz.one) hR0 zo ?_);intro w6 hn hs;have hR : WB w6 bR (decide _) s9 := hn.congr fun i hi => aN (g := wF _ _) hi;replace hS := hS.trans hs;replace hL := hL.same hs;replace hQ := hQ.same hs;replace hmz := hmz.same hs;exact aQ rfl ⟨hL, hQ⟩ (cO (aE (cS rfl rfl u29 rfl cI hR.rd ⟨⟨s9, rfl, hmz.mono fun g h _ => by omega⟩, hS⟩)))
set_option maxHeartbeats 800000 in
theorem oG {w : World} (s : Value) (x : Int) (h1 : Mz w (fun g => g < w.heap.size) s x.natAbs) (hx : x.natAbs < topN) (t : Value) (y : Int) (h2 : Mz w (fun g => g < w.heap.size) t y.natAbs) (hy : y.natAbs < topN) :
 Ret Tryz.prog 11 #[.agg #[.bool (decide (x < 0)), s], .agg #[.bool (decide (y < 0)), t]] w fun v w' => Wz w' (fun g => w.heap.size ≤ g) v (x * y) ∧ Same [] w w' := by
 have hS := Same.refl [] w;obtain ⟨H, hH⟩ : ∃ H, H = w.heap.size := ⟨_, rfl⟩;have hw0 := Nat.le_of_eq hH;rw [← hH] at h1 h2 ⊢;obtain ⟨n, a, h1, ha, hNa, hba⟩ := h1;have hla := hNa.len (k := 32) (Nat.lt_of_le_of_lt (Nat.le_of_eq hba) hx);obtain ⟨A, c, rfl⟩ := h1.shape;obtain ⟨m, b, h2, hb, hNb, hbb⟩ := h2;have hlb := hNb.len (k := 32) (Nat.lt_of_le_of_lt (Nat.le_of_eq hbb) hy);obtain ⟨B, d, rfl⟩ := h2.shape;refine aS Tryz.func11 Tryz.ntmps11 rfl rfl (aD (aB (cA rfl rfl rfl ?_)));intro w1 hn hs;replace hw0 := hs.le hw0;replace hS := hS.trans hs;replace h1 := h1.same hs;replace h2 := h2.same hs;obtain ⟨bL, hbL⟩ : ∃ x, x = w.heap.size := ⟨_, rfl⟩
 have hL : WB w1 bL (decide (x < 0)) (.slice A n c) := by rw [hn, hbL]; exact WB.box _ _ _
 rw [← hbL];have hbLH : H ≤ bL := by omega
 have hw01 := hw0;have hbLl := hL.lt;clear hn hs;refine cA rfl rfl rfl ?_;intro w2 hn hs;replace hw0 := hs.le hw0;replace hS := hS.trans hs;replace h1 := h1.same hs;replace hL := hL.same hs;replace h2 := h2.same hs;obtain ⟨bQ, hbQ⟩ : ∃ x, x = w1.heap.size := ⟨_, rfl⟩
 have hQ : WB w2 bQ (decide (y < 0)) (.slice B m d) := by rw [hn, hbQ]; exact WB.box _ _ _
 rw [← hbQ];have hbQH : H ≤ bQ := by omega
 have hbLQ : bL < bQ := by omega
 have hw02 := hw0;have hbQl := hQ.lt;clear hn hs;refine bF dJ rfl rfl ?_;intro w3 hn hs;obtain ⟨bR, hbR⟩ : ∃ x, x = w2.heap.size := ⟨_, rfl⟩
 have hR0 : Row w3 bR 29 2 (fun i => (#[.bool false, .slice none 0 0] : Array Value).getD i undef) := by
  rw [hn, hbR];exact Row.alloc _ _ _
 rw [← hbR];have hbRH : H ≤ bR := by omega
 have hbLR : ∀ b, b < w2.heap.size → b < bR := fun b h => by omega
 replace hw0 := hs.le hw0;replace hS := hS.trans hs;replace h1 := h1.same hs;replace hL := hL.same hs;replace h2 := h2.same hs;replace hQ := hQ.same hs;have hbRl := hR0.lt;have hbQb := hbLR bQ hbQl;have hbLb : bL < bR := by omega
 clear hn hs;refine aG (aE (aD ?_));replace hw0 := (aC _).le hw0;replace hS := hS.trans (aC _);replace h1 := h1.same (aC _);replace hL := hL.same (aC _);replace hR0 := hR0.same (aC _);replace h2 := h2.same (aC _);replace hQ := hQ.same (aC _);refine cX (fun wS => WB wS bL (decide (x < 0)) (.slice A n c) ∧ WB wS bQ (decide (y < 0)) (.slice B m d)) [] (.cons 0 (.cons 1 (.cons 2 (.cons 3 (.cons 4 (.cons 5 (.cons 6 (.cons 7 (.cons 8 (.cons 9 (.cons 10 (.cons 11 .nil)))))))))))) cL zy ⟨hL, hQ⟩ (cF rfl aH rfl dQ rfl (cN rfl aH rfl u4 rfl (fun w9 h9 => h9.1.c0) rfl (cF rfl aH rfl dQ rfl (cN rfl aH rfl u4 rfl (fun w9 h9 => h9.2.c0) rfl (lE rfl aH rfl rfl u4 rfl (cF rfl aH rfl dM rfl (cN rfl aH rfl u27 rfl (fun w9 h9 => h9.1.c1) rfl (cF rfl aH rfl dM rfl (cN rfl aH rfl u27 rfl (fun w9 h9 => h9.2.c1) rfl ?_)))))))));have hRl := hR0.lt;refine bW rfl aH rfl rfl cf25 rfl rfl (magMul A B n c m d _ _ a b h1 h2 ha hb zw zw (fun g hg => Nat.lt_of_lt_of_le hg hw0) (fun g hg => Nat.lt_of_lt_of_le hg hw0)) ?_;rintro v9 w4 ⟨⟨k, o, hr, ho, hNo, hbo⟩, hs⟩;have hk : k ≤ 64 := hNo.len (k := 64) (by rw [hbo, hba, hbb]; exact top_mul hx hy);replace hr := hr.mono (J := fun g => bR < g ∧ g < w4.heap.size) (fun g g1 g2 => ⟨by omega, g2⟩);obtain ⟨A9, c9, rfl⟩ := hr.shape;replace hw0 := hs.le hw0;replace hS := hS.trans hs;replace hL := hL.same hs;replace hR0 := hR0.same hs;replace hQ := hQ.same hs;refine aQ rfl ⟨hL, hQ⟩ ?_;have hRl := hR0.lt;refine bW rfl aH rfl rfl lW rfl rfl (jD (!((decide (x < 0)) == (decide (y < 0)))) A9 k c9 _ o hr ho zw (fun g hg => hg.2)) ?_;rintro v9 w5 ⟨hz9, hs⟩;rw [hbo, hba, hbb, sg_mul] at hz9;obtain ⟨s9, rfl, hmz⟩ := hz9;replace hmz := hmz.mono (J := fun g => bR < g) (fun g h _ => by omega);replace hw0 := hs.le hw0;replace hS := hS.trans hs;replace hL := hL.same hs;replace hR0 := hR0.same hs;replace hQ := hQ.same hs;refine aQ rfl ⟨hL, hQ⟩ (bA rfl aH (n := 2) rfl rfl cI rfl (bJ hmz.one) hR0 zo ?_);intro w6 hn hs;have hR : WB w6 bR (decide _) s9 := hn.congr fun i hi => aN (g := wF _ _) hi;replace hS := hS.trans hs;replace hL := hL.same hs;replace hQ := hQ.same hs;replace hmz := hmz.same hs;exact aQ rfl ⟨hL, hQ⟩ (cO (aE (cS rfl rfl u29 rfl cI hR.rd ⟨⟨s9, rfl, hmz.mono fun g h _ => by omega⟩, hS⟩)))
end Go.Proofs.YtccicbpeajdjgaaGreatDoor.Vm
