/- Decimal digits of a wide integer. -/
import Derived.Test.YtccicbpeajdjgaaGreatDoorQVm
import Derived.Test.YtccicbpeajdjgaaGreatDoorQSk
import Derived.Test.YtccicbpeajdjgaaGreatDoorQVmMap
set_option linter.unusedVariables false
set_option linter.unusedSimpArgs false
namespace Go.Proofs.YtccicbpeajdjgaaGreatDoor.Vm
open Go Mix Go.RowKit Wd
abbrev u5 := @Tryz.underlying5
set_option maxRecDepth 20000
theorem wP : bn (fun _ => 10) 1 = 10 := rfl
theorem wQ {a : Nat → Nat} {k : Nat} (h : 0 < k) : a 0 ≤ bn a k := by
 have h1 := bn_mono a (n := 1) (m := k) h
 simpa [bn] using h1
set_option exponentiation.threshold 2000 in
theorem dlz_top {x : Nat} (h : x < topN) : Rd.dlz x ≤ 400 := by
 refine (Rd.dlz_le 400 x).2 (Nat.lt_of_lt_of_le h ?_);rw [show (400 : Nat) = 200 + 200 from rfl, Nat.pow_add];unfold topN
 decide
theorem cf34 (us : Array Value) (w : World) : (callFunc 34 us).run Tryz.prog w = .ok (.enter 34 us) w := by kernel_rfl
set_option maxHeartbeats 400000 in
theorem text0 {w : World} (s : Value) (x : Nat) (h1 : Mz w (fun g => g < w.heap.size) s x) (hx : x < topN) (h0 : x = 0) :
 Ret Tryz.prog 34 #[.agg #[.bool false, s]] w fun v w' => (∃ b : ByteArray, v = .string b ∧ b.size = Rd.digs x) ∧ Same [] w w' := by
 have hS := Same.refl [] w;obtain ⟨H, hH⟩ : ∃ H, H = w.heap.size := ⟨_, rfl⟩;have hw0 := Nat.le_of_eq hH;rw [← hH] at h1;subst h0;refine aS Tryz.func34 Tryz.ntmps34 rfl rfl (aD (aB (cA rfl rfl rfl ?_)));intro w1 hn hs;replace hw0 := hs.le hw0;replace hS := hS.trans hs;replace h1 := h1.same hs;obtain ⟨bL, hbL⟩ : ∃ x, x = w.heap.size := ⟨_, rfl⟩
 have hL : WB w1 bL false s := by rw [hn, hbL]; exact WB.box _ _ _
 rw [← hbL];clear hn hs;refine aF rfl rfl (aG (aE (aD (aD (aB (aM rfl u29 rfl cI hL.rd rfl (aR rfl rfl qC rfl rfl (fR s 0 h1.ins zo) ?_)))))));rintro _ w2 ⟨rfl, hs⟩;replace hw0 := hs.le hw0;replace hS := hS.trans hs;refine aI rfl rfl rfl rfl (aG (aE ?_));refine aK rfl (fun h225 => ?_) (fun h225 => ?_)
 ·simp only [beq_iff_eq] at h225;exact aD (aB (aF rfl rfl (aG (aE (aZ rfl rfl ⟨⟨_, rfl, by rfl⟩, hS⟩)))))
 ·exact absurd h225 zo
set_option maxHeartbeats 1600000 in
theorem text1 {w : World} (s : Value) (x : Nat) (h1 : Mz w (fun g => g < w.heap.size) s x) (hx : x < topN) (h0 : 0 < x) :
 Ret Tryz.prog 34 #[.agg #[.bool false, s]] w fun v w' => (∃ b : ByteArray, v = .string b ∧ b.size = Rd.digs x) ∧ Same [] w w' := by
 have hS := Same.refl [] w;obtain ⟨H, hH⟩ : ∃ H, H = w.heap.size := ⟨_, rfl⟩;have hw0 := Nat.le_of_eq hH;rw [← hH] at h1;have hdt := dlz_top hx;have hneg : decide (((x : Nat) : Int) < 0) = false := by simp
 have hsx : sgn ((x : Nat) : Int) = 1 := sZ zw;refine aS Tryz.func34 Tryz.ntmps34 rfl rfl (aD (aB (cA rfl rfl rfl ?_)));intro w1 hn hs;replace hw0 := hs.le hw0;replace hS := hS.trans hs;replace h1 := h1.same hs;obtain ⟨bL, hbL⟩ : ∃ x, x = w.heap.size := ⟨_, rfl⟩
 have hL : WB w1 bL false s := by rw [hn, hbL]; exact WB.box _ _ _
 rw [← hbL];clear hn hs;refine aF rfl rfl (aG (aE (aD (aD (aB (aM rfl u29 rfl cI hL.rd rfl (aR rfl rfl qC rfl rfl ((by have h9 := fR s ((x : Nat) : Int) h1.ins (by rw [Int.natAbs_natCast]; exact hx); rw [hneg] at h9; exact h9)) ?_)))))));rintro _ w2 ⟨rfl, hs⟩;rw [hsx];replace hw0 := hs.le hw0;replace hS := hS.trans hs;replace h1 := h1.same hs;replace hL := hL.same hs;refine aI rfl rfl rfl rfl (aG (aE ?_));refine aK rfl (fun h225 => ?_) (fun h225 => ?_)
 ·exact absurd h225 zo
 ·simp only [beq_eq_false_iff_ne, ne_eq] at h225;refine aX (aE (aD (aB (aF rfl rfl (aG (aE (aD (aB (aO rfl dM rfl (aL rfl u27 rfl hL.c1 rfl (aF rfl rfl (aG (aE (aD (bN ?_)))))))))))))));have hu : Mz w2 (fun _ => True) s x := h1.mono fun _ _ _ => trivial;refine dR (fun p : Nat × ByteArray × Value => [(1, .pointer (some ⟨bL, 0, none⟩)), (3, .string p.2.1), (4, p.2.2)]) (fun m p w' => H ≤ w'.heap.size ∧ Same [] w w' ∧ WB w' bL false s ∧ Mz w' (fun _ => True) p.2.2 p.1 ∧ p.2.1.size + Rd.dlz p.1 = Rd.dlz x ∧ p.1 ≤ x ∧ m = Rd.dlz p.1) (Rd.dlz x) (x, ⟨#[]⟩, s) ⟨rfl, rfl, rfl, trivial⟩ ⟨hw0, hS, hL, hu, Nat.zero_add _, Nat.le_refl _, rfl⟩ ?_;clear hw0 hS hL hu h1;rintro m ⟨n, b, u⟩ w3 ⟨hw0, hS, hL, hu, hb, hnx, hm⟩;simp only at hu hb hnx hm;dsimp only;obtain ⟨k9, a, hu, ha, hNa, hba⟩ := hu;obtain ⟨A, c, rfl⟩ := hu.shape;have hk9 : k9 ≤ 32 := hNa.len (k := 32) (by rw [hba]; exact Nat.lt_of_le_of_lt hnx hx);rcases (show n = 0 ∨ 0 < n ∧ n % 10 = 0 ∨ 0 < n ∧ 0 < n % 10 by omega) with hn0 | ⟨hn0, hr0⟩ | ⟨hn0, hr0⟩
  ·have hk0 : k9 = 0 := kU hNa (by rw [hba, hn0]);subst hn0;rw [Rd.dlz_zero, Nat.add_zero] at hb;refine aD (aD (aB (aA rfl rfl (bB rfl u27 rfl (aI rfl rfl rfl rfl (aG (aE ?_)))))));refine aK rfl (fun h230 => ?_) (fun h230 => ?_)
   ·simp only [gt_iff_lt, decide_eq_true_eq] at h230;omega
   ·simp only [gt_iff_lt, decide_eq_false_iff_not, Int.not_lt] at h230;refine dG rfl (aE (aD (aD (aB (aO rfl dQ rfl (aL rfl u4 rfl hL.c0 rfl (aG (aE ?_))))))));refine aK rfl (fun h239 => ?_) (fun h239 => ?_)
    ·cases h239
    ·simp only at h239;exact aX (aE (aD (aB (aA rfl rfl (aF rfl rfl (aG (aE (aZ rfl rfl ⟨⟨_, rfl, by rw [hb]; unfold Rd.digs; rw [if_neg zw]⟩, hS⟩))))))))
  ·have hk0 : 0 < k9 := iV (a := a) (by rw [hba]; omega);have hdz := Rd.dlz_pos (x := n) zw;refine aD (aD (aB (aA rfl rfl (bB rfl u27 rfl (aI rfl rfl rfl rfl (aG (aE ?_)))))));refine aK rfl (fun h230 => ?_) (fun h230 => ?_)
   ·simp only [gt_iff_lt, decide_eq_true_eq] at h230;refine aX (aE (bN (aD (aB (aA rfl rfl ?_)))));obtain ⟨nz, hnz⟩ : ∃ x, x = w3.heap.size := ⟨_, rfl⟩;refine dS (E := 67) (cs := #[.int .u32 10]) rfl rfl (fun w => by kernel_rfl) rfl rfl ?_;rw [← hnz];intro w4 hM hs;replace hw0 := hs.le hw0;replace hS := hS.trans hs;replace hL := hL.same hs;replace hu := hu.same hs;clear hs;have hmg := hM.mg (n := 1) (a := fun _ => 10) (Nat.le_refl _) (fun j hj => by obtain rfl : j = 0 := (by omega); rfl);have hMl := hM.lt;have hu9 := hu.mono (J := fun g => g < w4.heap.size) (fun g _ h => h);refine aR rfl rfl cf21 rfl rfl (rB A (some ⟨nz, 0, none⟩) k9 c 1 1 _ _ a (fun _ => 10) hu9 hmg ha (fun _ _ => by decide) zw zo (fun g hg => hg) (fun g hg => by subst hg; exact hMl) (.inr zo) zo zo) ?_;rintro _ w5 ⟨u1, u2, rfl, hq, hr, hs⟩;rw [hba, wP] at hq hr;obtain ⟨k2, o2, hr2, ho2, hN2, hb2⟩ := hr;obtain ⟨A2, c2, rfl⟩ := hr2.shape;have hk2 : k2 ≤ 1 := hN2.len (k := 1) (by rw [hb2]; exact Nat.lt_of_lt_of_le (Nat.mod_lt _ zo) zo);replace hw0 := hs.le hw0;replace hS := hS.trans hs;replace hL := hL.same hs;refine aA rfl rfl (aY rfl rfl rfl (aY rfl rfl rfl (aF rfl rfl (aF rfl rfl (aG (aE (aD (aB (aF rfl rfl (aG (aE (aD (aD (aB (aA rfl rfl (bB rfl u27 rfl (aI rfl rfl rfl rfl (aG (aE ?_)))))))))))))))))));refine aK rfl (fun h233 => ?_) (fun h233 => ?_)
    ·(have h9 := kU hN2 (by rw [hb2]; exact hr0); simp only [decide_eq_true_eq] at h233; omega)
    ·simp only [gt_iff_lt, decide_eq_false_iff_not, Int.not_lt] at h233;refine aX (aE (aD (aB (aA rfl rfl ?_))))
     (refine aI rfl rfl (cJ (iK ?_ ?_)) rfl ?_; (omega); (omega))
     (refine cW rfl u67 u5 (gC ?_ ?_) rfl ?_; (omega); (omega))
     obtain ⟨ny, hny⟩ : ∃ x, x = w5.heap.size := ⟨_, rfl⟩;refine dS (E := 5) (cs := #[.int .u8 48]) rfl rfl (fun w => by kernel_rfl) rfl rfl ?_;rw [← hny];intro w6 hY hs;replace hw0 := hs.le hw0;replace hS := hS.trans hs;replace hL := hL.same hs;replace hq := hq.same hs;clear hs;exact nY (z := 48) rfl Tryz.underlying116 u5 Tryz.underlying9 (hY.cell (i := 0) Nat.one_pos) rfl rfl (fun s1 hs1 => aA rfl rfl (sV rfl rfl (by rw [hs1]; omega) rfl (aF rfl rfl (aG (aE (aB (aA rfl rfl (aF rfl rfl (aG (cQ (bZ (m - 1) (n / 10, s1 ++ b, u1) zw ⟨rfl, rfl, rfl, trivial⟩ ⟨hw0, hS, hL, hq.mono fun _ _ _ => trivial, by show (s1 ++ b).size + Rd.dlz (n / 10) = Rd.dlz x; rw [ByteArray.size_append, hs1]; omega, Nat.le_trans (Nat.div_le_self _ _) hnx, by show m - 1 = Rd.dlz (n / 10); omega⟩)))))))))))
   ·simp only [gt_iff_lt, decide_eq_false_iff_not, Int.not_lt] at h230;omega
  ·have hk0 : 0 < k9 := iV (a := a) (by rw [hba]; omega);have hdz := Rd.dlz_pos (x := n) zw;refine aD (aD (aB (aA rfl rfl (bB rfl u27 rfl (aI rfl rfl rfl rfl (aG (aE ?_)))))));refine aK rfl (fun h230 => ?_) (fun h230 => ?_)
   ·simp only [gt_iff_lt, decide_eq_true_eq] at h230;refine aX (aE (bN (aD (aB (aA rfl rfl ?_)))));obtain ⟨nz, hnz⟩ : ∃ x, x = w3.heap.size := ⟨_, rfl⟩;refine dS (E := 67) (cs := #[.int .u32 10]) rfl rfl (fun w => by kernel_rfl) rfl rfl ?_;rw [← hnz];intro w4 hM hs;replace hw0 := hs.le hw0;replace hS := hS.trans hs;replace hL := hL.same hs;replace hu := hu.same hs;clear hs;have hmg := hM.mg (n := 1) (a := fun _ => 10) (Nat.le_refl _) (fun j hj => by obtain rfl : j = 0 := (by omega); rfl);have hMl := hM.lt;have hu9 := hu.mono (J := fun g => g < w4.heap.size) (fun g _ h => h);refine aR rfl rfl cf21 rfl rfl (rB A (some ⟨nz, 0, none⟩) k9 c 1 1 _ _ a (fun _ => 10) hu9 hmg ha (fun _ _ => by decide) zw zo (fun g hg => hg) (fun g hg => by subst hg; exact hMl) (.inr zo) zo zo) ?_;rintro _ w5 ⟨u1, u2, rfl, hq, hr, hs⟩;rw [hba, wP] at hq hr;obtain ⟨k2, o2, hr2, ho2, hN2, hb2⟩ := hr;obtain ⟨A2, c2, rfl⟩ := hr2.shape;have hk2 : k2 ≤ 1 := hN2.len (k := 1) (by rw [hb2]; exact Nat.lt_of_lt_of_le (Nat.mod_lt _ zo) zo);replace hw0 := hs.le hw0;replace hS := hS.trans hs;replace hL := hL.same hs;refine aA rfl rfl (aY rfl rfl rfl (aY rfl rfl rfl (aF rfl rfl (aF rfl rfl (aG (aE (aD (aB (aF rfl rfl (aG (aE (aD (aD (aB (aA rfl rfl (bB rfl u27 rfl (aI rfl rfl rfl rfl (aG (aE ?_)))))))))))))))))));refine aK rfl (fun h233 => ?_) (fun h233 => ?_)
    ·simp only [gt_iff_lt, decide_eq_true_eq] at h233;obtain ⟨g2, p2, rfl, _, _, _, hrd⟩ := hr2.lit zw
     have ho0 : o2 0 ≤ 9 := by have := wQ (a := o2) (k := k2) zw; omega
     refine aB (aA rfl rfl (cC rfl rfl u27 eC zw zw rfl (aL rfl u67 rfl (show _ = some (Value.int .u32 (o2 0 : Nat)) from hrd 0 zw) rfl (aF rfl rfl (aG (aE (aD (aB (aA rfl rfl ?_)))))))))
     (refine aI rfl rfl (cJ (iK ?_ ?_)) rfl ?_; (omega); (omega))
     (refine cW rfl u67 u5 (gC ?_ ?_) rfl ?_; (omega); (omega))
     obtain ⟨ny, hny⟩ : ∃ x, x = w5.heap.size := ⟨_, rfl⟩;refine dS (E := 5) (cs := #[.int .u8 (48 + (o2 0 : Nat))]) rfl rfl (fun w => by kernel_rfl) rfl rfl ?_;rw [← hny];intro w6 hY hs;replace hw0 := hs.le hw0;replace hS := hS.trans hs;replace hL := hL.same hs;replace hq := hq.same hs;clear hs;exact nY (z := (48 + (o2 0 : Nat))) rfl Tryz.underlying116 u5 Tryz.underlying9 (hY.cell (i := 0) Nat.one_pos) rfl rfl (fun s1 hs1 => aA rfl rfl (sV rfl rfl (by rw [hs1]; omega) rfl (aF rfl rfl (aG (aE (aB (aA rfl rfl (aF rfl rfl (aG (cQ (bZ (m - 1) (n / 10, s1 ++ b, u1) zw ⟨rfl, rfl, rfl, trivial⟩ ⟨hw0, hS, hL, hq.mono fun _ _ _ => trivial, by show (s1 ++ b).size + Rd.dlz (n / 10) = Rd.dlz x; rw [ByteArray.size_append, hs1]; omega, Nat.le_trans (Nat.div_le_self _ _) hnx, by show m - 1 = Rd.dlz (n / 10); omega⟩)))))))))))
    ·(have h9 := iV (a := o2) (n := k2) (by rw [hb2]; omega); simp only [decide_eq_false_iff_not] at h233; omega)
   ·simp only [gt_iff_lt, decide_eq_false_iff_not, Int.not_lt] at h230;omega
theorem text {w : World} (s : Value) (x : Nat) (h1 : Mz w (fun g => g < w.heap.size) s x) (hx : x < topN) : Ret Tryz.prog 34 #[.agg #[.bool false, s]] w fun v w' => (∃ b : ByteArray, v = .string b ∧ b.size = Rd.digs x) ∧ Same [] w w' := by
 rcases Nat.eq_zero_or_pos x with h | h
 ·exact text0 s x h1 hx h
 ·exact text1 s x h1 hx h
set_option maxHeartbeats 400000 in
theorem eP {w : World} (s : Value) (x : Int) (h1 : Mz w (fun g => g < w.heap.size) s x.natAbs) (hx : x.natAbs < topN) :
 Ret Tryz.prog 20 #[.agg #[.bool (decide (x < 0)), s]] w fun v w' => v = .int .i64 (Rd.digs x.natAbs : Nat) ∧ Same [] w w' := by
 have hS := Same.refl [] w;obtain ⟨H, hH⟩ : ∃ H, H = w.heap.size := ⟨_, rfl⟩;have hw0 := Nat.le_of_eq hH;rw [← hH] at h1;obtain ⟨n, a, h1, ha, hNa, hba⟩ := h1;have hla := hNa.len (k := 32) (Nat.lt_of_le_of_lt (Nat.le_of_eq hba) hx);obtain ⟨A, c, rfl⟩ := h1.shape;refine aS Tryz.func20 Tryz.ntmps20 rfl rfl (aD (aB (cA rfl rfl rfl ?_)));intro w1 hn hs;replace hw0 := hs.le hw0;replace hS := hS.trans hs;replace h1 := h1.same hs;obtain ⟨bL, hbL⟩ : ∃ x, x = w.heap.size := ⟨_, rfl⟩
 have hL : WB w1 bL (decide (x < 0)) (.slice A n c) := by rw [hn, hbL]; exact WB.box _ _ _
 rw [← hbL];have hbLH : H ≤ bL := by omega
 have hw01 := hw0;have hbLl := hL.lt;clear hn hs;refine aF rfl rfl (aG (aE (aD (aB (aO rfl dM rfl (aL rfl u27 rfl hL.c1 rfl (aR rfl rfl lW rfl rfl (jD false A n c _ a h1 ha zw (fun g hg => Nat.lt_of_lt_of_le hg hw0)) ?_)))))));rintro v9 w2 ⟨hz9, hs⟩;rw [hba] at hz9;obtain ⟨s9, rfl, hmz⟩ := hz9;rw [show sg false x.natAbs = ((x.natAbs : Nat) : Int) from rfl, Int.natAbs_natCast] at hmz;rw [show decide (sg false x.natAbs < 0) = false by simp [sg]];replace hw0 := hs.le hw0;replace hS := hS.trans hs;refine aR rfl rfl cf34 rfl rfl (text s9 x.natAbs hmz.ins hx) ?_;rintro _ w3 ⟨⟨b, rfl, hb⟩, hs⟩;replace hw0 := hs.le hw0;replace hS := hS.trans hs;exact tU rfl Tryz.underlying9 rfl (aF rfl rfl (aG (aE (aZ rfl rfl ⟨by rw [hb]; rfl, hS⟩))))
end Go.Proofs.YtccicbpeajdjgaaGreatDoor.Vm
namespace Go.Proofs.YtccicbpeajdjgaaGreatDoor.Vm
open Go Mix Go.RowKit Wd
abbrev u75 := @Tryz.underlying75
set_option maxRecDepth 20000
set_option maxHeartbeats 200000 in
theorem kE {w : World} :
 Ret Tryz.prog 32 #[.int .i64 128] w fun v w' => v = .tuple #[.int .i64 2, .bool true] ∧ w' = w := by
 refine aS Tryz.func32 Tryz.ntmps32 rfl rfl (aD (aB (aF rfl rfl (aF rfl rfl (aG (aE (aD (aD (aB (aA rfl rfl (aG (aE (bN (aD (aD (aB (aI rfl rfl rfl rfl (aF rfl rfl (aG (aE ?_))))))))))))))))))));refine aK rfl (fun h36 => ?_) (fun h36 => ?_)
 ·(simp at h36)
 ·simp only [beq_eq_false_iff_ne, ne_eq] at h36;refine aB (aI rfl rfl rfl rfl (aF rfl rfl (aG (aE ?_))));refine aK rfl (fun h36 => ?_) (fun h36 => ?_)
  ·(simp at h36)
  ·simp only [beq_eq_false_iff_ne, ne_eq] at h36;refine aD (aD (aB (aI rfl rfl rfl rfl (aF rfl rfl (aG (aE ?_))))));refine aK rfl (fun h38 => ?_) (fun h38 => ?_)
   ·simp only [beq_iff_eq] at h38;refine aX (aE ?_);refine aK rfl (fun h38 => ?_) (fun h38 => ?_)
    ·simp only [beq_iff_eq] at h38;refine aD (aB (aA rfl rfl ?_))
     (refine aI rfl rfl (gM ?_ ((congrArg _ (mK ?_)).trans (aV ?_ ?_))) rfl ?_; (omega); (omega); (omega); (omega))
     exact aF rfl rfl (aF rfl rfl (aG (aE (aZ rfl rfl ⟨rfl, rfl⟩))))
    ·(simp at h38)
   ·(simp at h38)
set_option maxHeartbeats 800000 in
theorem lH {w : World} (g o c g' o' c' : Nat) (x y : Nat → Nat) (h1 : Rd w g o 2 (ug x)) (h2 : Rd w g' o' 2 (ug y)) (hg : g < w.heap.size) (hg' : g' < w.heap.size) :
 Ret Tryz.prog 5 #[.slice (some ⟨g, o, none⟩) 2 c, .slice (some ⟨g', o', none⟩) 2 c'] w fun v w' => v = .bool (decide (x 0 = y 0 ∧ x 1 = y 1)) ∧ Same [] w w' := by
 have hS := Same.refl [] w;refine aS Tryz.func5 Tryz.ntmps5 rfl rfl (aD (aB (aF rfl rfl (aG (aE (aD (aD (aB (aA rfl rfl (bB rfl u22 rfl (aA rfl rfl (bB rfl u22 rfl (aI rfl rfl rfl rfl (aG (aE ?_)))))))))))))));refine aK rfl (fun h71 => ?_) (fun h71 => ?_)
 ·(simp at h71)
 ·simp only [bne_eq_false_iff_eq] at h71;refine aX (aE (aD (aD (aB (aA rfl rfl (bB rfl u22 rfl (aA rfl rfl (aG (aE (bN (dR (fun i : Nat => [(0, .slice (some ⟨g, o, none⟩) 2 c), (1, .slice (some ⟨g', o', none⟩) 2 c'), (12, .int .i64 (2 : Nat)), (13, .int .i64 (i : Nat))]) (fun m i w' => i + m = 2 ∧ Same [] w w' ∧ Rd w' g o 2 (ug x) ∧ Rd w' g' o' 2 (ug y) ∧ g < w'.heap.size ∧ g' < w'.heap.size ∧ ∀ j, j < i → x j = y j) 2 0 ⟨rfl, rfl, rfl, rfl, trivial⟩ ⟨rfl, hS, h1, h2, hg, hg', fun j hj => absurd hj (Nat.not_lt_zero j)⟩ ?_)))))))))));clear hS h1 h2 hg hg';rintro m i w1 ⟨hm, hS, h1, h2, hg, hg', hall⟩;dsimp only;rcases (show m = 0 ∨ 0 < m ∧ x i = y i ∨ 0 < m ∧ x i ≠ y i by omega) with hm0 | ⟨hm0, he⟩ | ⟨hm0, he⟩
  ·obtain rfl : i = 2 := by omega
   refine aD (aB (aI rfl rfl rfl rfl (aG (aE (aD ?_)))));refine aK rfl (fun h74 => ?_) (fun h74 => ?_)
   ·simp only [decide_eq_true_eq] at h74;omega
   ·simp only [decide_eq_false_iff_not, Int.not_lt] at h74;exact dG rfl (aE (aD (aB (aF rfl rfl (aG (aE (aZ rfl rfl ⟨by rw [decide_eq_true (And.intro (hall 0 zo) (hall 1 zo))]; rfl, hS⟩)))))))
  ·refine aD (aB (aI rfl rfl rfl rfl (aG (aE (aD ?_)))));refine aK rfl (fun h74 => ?_) (fun h74 => ?_)
   ·simp only [decide_eq_true_eq] at h74;refine aX (aE (aD (bN (aD (aB (aA rfl rfl (aF rfl rfl (aG (aE (aD (cP [] cL zy ?_)))))))))));replace hS := hS.trans (aC _) zp;replace h1 := h1.same (aC _) zp hg;replace h2 := h2.same (aC _) zp hg';replace hg := Nat.lt_of_lt_of_le hg (aC _).size;replace hg' := Nat.lt_of_lt_of_le hg' (aC _).size;refine aA rfl rfl (aA rfl rfl (cC rfl rfl u22 fE zw zw rfl (aL rfl u25 rfl (show _ = some (Value.int .u64 (x i : Nat)) by rw [Nat.mul_one, show Int.toNat _ = i by omega]; exact h1 i zw) rfl (aA rfl rfl (aA rfl rfl (cC rfl rfl u22 fE zw zw rfl (aL rfl u25 rfl (show _ = some (Value.int .u64 (y i : Nat)) by rw [Nat.mul_one, show Int.toNat _ = i by omega]; exact h2 i zw) rfl (aI rfl rfl rfl rfl (aG (aE ?_))))))))));refine aK rfl (fun h75 => ?_) (fun h75 => ?_)
    ·simp only [bne_iff_ne, ne_eq] at h75;omega
    ·simp only [bne_eq_false_iff_eq] at h75;refine aX (cQ (aE (aB ?_)))
     (refine aI rfl rfl (cJ (aV ?_ ?_)) rfl ?_; (omega); (omega))
     exact aA rfl rfl (aG (bZ (m - 1) (i + 1) zw ⟨rfl, rfl, rfl, eF rfl zw, trivial⟩ ⟨by omega, hS, h1, h2, hg, hg', fun j hj => by rcases Nat.lt_or_ge j i with h | h; exact hall j h; rw [show j = i by omega]; exact he⟩))
   ·simp only [decide_eq_false_iff_not, Int.not_lt] at h74;omega
  ·refine aD (aB (aI rfl rfl rfl rfl (aG (aE (aD ?_)))));refine aK rfl (fun h74 => ?_) (fun h74 => ?_)
   ·simp only [decide_eq_true_eq] at h74;refine aX (aE (aD (bN (aD (aB (aA rfl rfl (aF rfl rfl (aG (aE (aD (cP [] cL zy ?_)))))))))));replace hS := hS.trans (aC _) zp;replace h1 := h1.same (aC _) zp hg;replace h2 := h2.same (aC _) zp hg';replace hg := Nat.lt_of_lt_of_le hg (aC _).size;replace hg' := Nat.lt_of_lt_of_le hg' (aC _).size;refine aA rfl rfl (aA rfl rfl (cC rfl rfl u22 fE zw zw rfl (aL rfl u25 rfl (show _ = some (Value.int .u64 (x i : Nat)) by rw [Nat.mul_one, show Int.toNat _ = i by omega]; exact h1 i zw) rfl (aA rfl rfl (aA rfl rfl (cC rfl rfl u22 fE zw zw rfl (aL rfl u25 rfl (show _ = some (Value.int .u64 (y i : Nat)) by rw [Nat.mul_one, show Int.toNat _ = i by omega]; exact h2 i zw) rfl (aI rfl rfl rfl rfl (aG (aE ?_))))))))));refine aK rfl (fun h75 => ?_) (fun h75 => ?_)
    ·simp only [bne_iff_ne, ne_eq] at h75;exact aD (aB (aF rfl rfl (aG (aE (aZ rfl rfl ⟨by rw [decide_eq_false (fun h => he (by rcases (show i = 0 ∨ i = 1 by omega) with rfl | rfl; exact h.1; exact h.2))]; rfl, hS⟩)))))
    ·simp only [bne_eq_false_iff_eq] at h75;omega
   ·simp only [decide_eq_false_iff_not, Int.not_lt] at h74;omega
set_option maxHeartbeats 400000 in
theorem fS {w : World} :
 Ret Tryz.prog 19 #[.int .i64 128] w fun v w' => v = .int .i64 38 ∧ Same [] w w' := by
 refine aS Tryz.func19 Tryz.ntmps19 rfl rfl (aD (aB (aF rfl rfl (aG (aE (aD (aB ?_)))))));obtain ⟨H, hH⟩ : ∃ x, x = w.heap.size := ⟨_, rfl⟩;refine rN u75 rfl rfl ?_;rw [← hH];intro wa ha sa;refine jW rfl rfl rfl u75 Tryz.underlying3 rfl ha rfl rfl (fun wb hb sb => jW rfl rfl rfl u75 Tryz.underlying3 rfl hb rfl rfl (fun wc hc sc => jW rfl rfl rfl u75 Tryz.underlying3 rfl hc rfl rfl (fun wd hd sd => jW rfl rfl rfl u75 Tryz.underlying3 rfl hd rfl rfl (fun we he se => aA rfl rfl (aA rfl rfl (tT (i := 2) (vv := .int .i64 38) rfl rfl u75 Tryz.underlying3 rfl he rfl rfl rfl (aF rfl rfl (aG (aE (aZ rfl rfl ?_))))))))));have hn : ∀ g, g ∈ [H] → g ∈ ([] : List Nat) ∨ w.heap.size ≤ g := fun g hg => .inr (by simp at hg; omega);exact ⟨rfl, (((sa.trans sb hn).trans sc hn).trans sd hn).trans se hn⟩
end Go.Proofs.YtccicbpeajdjgaaGreatDoor.Vm
namespace Go.Proofs.YtccicbpeajdjgaaGreatDoor.Vm
open Go Mix Go.RowKit Wd
set_option maxRecDepth 20000
theorem cf32 (us : Array Value) (w : World) : (callFunc 32 us).run Tryz.prog w = .ok (.enter 32 us) w := by kernel_rfl
theorem cf33 (us : Array Value) (w : World) : (callFunc 33 us).run Tryz.prog w = .ok (.enter 33 us) w := by kernel_rfl
theorem cf39 (us : Array Value) (w : World) : (callFunc 39 us).run Tryz.prog w = .ok (.enter 39 us) w := by kernel_rfl
set_option maxHeartbeats 800000 in
theorem gU {w : World} (g o c : Nat) (x : Nat → Nat) (hx : Rd w g o 2 (ug x)) (hgl : g < w.heap.size) (hlt : ∀ i, i < 2 → x i < 18446744073709551616) :
 Ret Tryz.prog 18 #[.int .i64 128, .slice (some ⟨g, o, none⟩) 2 c] w fun v w' => ∃ u, v = .tuple #[u, .bool true] ∧ Wz w' (fun g => w.heap.size ≤ g) u (sw x) ∧ Same [] w w' := by
 have hS := Same.refl [] w;obtain ⟨H, hH⟩ : ∃ H, H = w.heap.size := ⟨_, rfl⟩;have hw0 := Nat.le_of_eq hH;rw [← hH];refine aS Tryz.func18 Tryz.ntmps18 rfl rfl (aD (aB (bF dJ rfl rfl ?_)));intro w1 hn hs;obtain ⟨bR, hbR⟩ : ∃ x, x = w.heap.size := ⟨_, rfl⟩
 have hR0 : Row w1 bR 29 2 (fun i => (#[.bool false, .slice none 0 0] : Array Value).getD i undef) := by
  rw [hn, hbR];exact Row.alloc _ _ _
 rw [← hbR];have hbRH : H ≤ bR := by omega
 replace hw0 := hs.le hw0;replace hS := hS.trans hs;replace hx := hx.same hs;replace hgl := hs.lt hgl;have hbRl := hR0.lt;clear hn hs;refine aF rfl rfl (aG (aE (aD (aB (aA rfl rfl (aR rfl rfl cf32 rfl rfl (kE) ?_))))));rintro _ w99 ⟨rfl, hw99⟩;replace hw99 := hw99.symm;subst hw99;refine aA rfl rfl (aY rfl rfl rfl (aY rfl rfl rfl (aF rfl rfl (aF rfl rfl (aG (aE (aD (aD (cP [] cL zy ?_)))))))));replace hw0 := (aC _).le hw0;replace hS := hS.trans (aC _);replace hx := hx.same (aC _);replace hgl := (aC _).lt hgl;replace hR0 := hR0.same (aC _);refine aA rfl rfl (dL rfl rfl (aA rfl rfl (aJ rfl rfl rfl (aA rfl rfl (aJ rfl rfl rfl (bB rfl u22 rfl (aJ rfl rfl rfl (aA rfl rfl (aJ rfl rfl rfl (aI rfl rfl rfl rfl (cE rfl rfl rfl rfl (aA rfl rfl (aJ rfl rfl rfl (aA rfl rfl (aJ rfl rfl rfl (aI rfl rfl rfl rfl (aJ rfl rfl rfl (aA rfl rfl (aW rfl rfl rfl rfl (aW rfl rfl rfl rfl (aW rfl rfl rfl rfl (aW rfl rfl rfl rfl (aW rfl rfl rfl rfl (aW rfl rfl rfl rfl (aW rfl rfl rfl rfl (aW rfl rfl rfl rfl (aW rfl rfl rfl rfl (aW rfl rfl rfl rfl (aJ rfl rfl rfl (cE rfl rfl rfl rfl (cE rfl rfl rfl rfl (aG (aE ?_)))))))))))))))))))))))))))))))));refine aK rfl (fun h47 => ?_) (fun h47 => ?_)
 ·(simp at h47)
 ·simp only at h47;refine aX (aE (aD (aB (aA rfl rfl ?_))));have hRl := hR0.lt;refine aR rfl rfl cf33 rfl rfl (tK g o c x hx hgl hlt) ?_;rintro v9 w2 ⟨⟨s9, rfl, hmz⟩, hs⟩;replace hmz := hmz.mono (J := fun g => bR < g) (fun g h _ => by omega);replace hw0 := hs.le hw0;replace hS := hS.trans hs;replace hgl := hs.lt hgl;replace hR0 := hR0.same hs;refine aU (n := 2) rfl rfl cI rfl (bJ hmz.one) hR0 zo ?_;intro w3 hn hs;have hR : WB w3 bR (decide _) s9 := hn.congr fun i hi => aN (g := wF _ _) hi;replace hS := hS.trans hs;replace hw0 := hs.le hw0;clear hn;replace hmz := hmz.same hs;exact aF rfl rfl (aG (aE (eO rfl rfl rfl u29 rfl cI hR.rd ⟨_, rfl, ⟨s9, rfl, hmz.mono fun g h _ => by omega⟩, hS⟩)))
set_option maxHeartbeats 800000 in
theorem tN {w : World} (A : Option Addr) (n c : Nat) (hn : n ≠ 2) (hn2 : n ≤ 2147483647) :
 Ret Tryz.prog 18 #[.int .i64 128, .slice A n c] w fun v w' => v = .tuple #[.agg #[.bool false, .slice none 0 0], .bool false] ∧ Same [] w w' := by
 have hS := Same.refl [] w;obtain ⟨H, hH⟩ : ∃ H, H = w.heap.size := ⟨_, rfl⟩;have hw0 := Nat.le_of_eq hH;refine aS Tryz.func18 Tryz.ntmps18 rfl rfl (aD (aB (bF dJ rfl rfl ?_)));intro w1 hn hs;obtain ⟨bR, hbR⟩ : ∃ x, x = w.heap.size := ⟨_, rfl⟩
 have hR0 : Row w1 bR 29 2 (fun i => (#[.bool false, .slice none 0 0] : Array Value).getD i undef) := by
  rw [hn, hbR];exact Row.alloc _ _ _
 rw [← hbR];have hbRH : H ≤ bR := by omega
 replace hw0 := hs.le hw0;replace hS := hS.trans hs;have hbRl := hR0.lt;clear hn hs;refine aF rfl rfl (aG (aE (aD (aB (aA rfl rfl (aR rfl rfl cf32 rfl rfl (kE) ?_))))));rintro _ w99 ⟨rfl, hw99⟩;replace hw99 := hw99.symm;subst hw99;refine aA rfl rfl (aY rfl rfl rfl (aY rfl rfl rfl (aF rfl rfl (aF rfl rfl (aG (aE (aD (aD (cP [] cL zy ?_)))))))));replace hw0 := (aC _).le hw0;replace hS := hS.trans (aC _);replace hR0 := hR0.same (aC _);refine aA rfl rfl (dL rfl rfl (aA rfl rfl (aJ rfl rfl rfl (aA rfl rfl (aJ rfl rfl rfl (bB rfl u22 rfl (aJ rfl rfl rfl (aA rfl rfl (aJ rfl rfl rfl (aI rfl rfl rfl rfl (cE rfl rfl rfl rfl (aA rfl rfl (aW rfl rfl rfl zz (aW rfl rfl rfl zz (aW rfl rfl rfl zz (dU rfl rfl rfl (dU rfl rfl rfl (dU rfl rfl rfl (dU rfl rfl rfl (dU rfl rfl rfl (dU rfl rfl rfl (dU rfl rfl rfl (dU rfl rfl rfl (dU rfl rfl rfl (dU rfl rfl rfl (aW rfl rfl rfl zz (cH rfl zz rfl rfl (aG (aE ?_)))))))))))))))))))))))))))));refine aK rfl (fun h47 => ?_) (fun h47 => ?_)
 ·simp only at h47;refine aD (aB (eH rfl rfl (v := .agg #[.bool false, .slice none 0 0]) (fun w => by kernel_rfl) rfl rfl (aU (n := 2) rfl rfl cI rfl (bJ rfl) hR0 zo ?_)));intro w2 hn hs;have hR : WB w2 bR _ _ := hn.congr fun i hi => aN (g := wF _ _) hi;replace hS := hS.trans hs;replace hw0 := hs.le hw0;clear hn;exact aF rfl rfl (aG (aE (eO rfl rfl rfl u29 rfl cI hR.rd ⟨rfl, hS⟩)))
 ·(simp at h47)
set_option maxHeartbeats 800000 in
theorem oD {w : World} (s : Value) (x : Int) (h1 : Mz w (fun g => g < w.heap.size) s x.natAbs) (hx : x.natAbs < midN) :
 Ret Tryz.prog 24 #[.int .i64 128, .agg #[.bool (decide (x < 0)), s]] w fun v w' => ∃ g b, v = .tuple #[.slice (some ⟨g, 0, none⟩) 2 2, .bool b] ∧ w.heap.size ≤ g ∧ g < w'.heap.size ∧ Rd w' g 0 2 (ug (tw x)) ∧ (b = true ↔ -((2 ^ 127 : Nat) : Int) ≤ x ∧ x < ((2 ^ 127 : Nat) : Int)) ∧ Same [] w w' := by
 have hS := Same.refl [] w;obtain ⟨H, hH⟩ : ∃ H, H = w.heap.size := ⟨_, rfl⟩;have hw0 := Nat.le_of_eq hH;rw [← hH] at h1 ⊢;refine aS Tryz.func24 Tryz.ntmps24 rfl rfl (aD (aB (cA rfl rfl rfl ?_)));intro w1 hn hs;replace hw0 := hs.le hw0;replace hS := hS.trans hs;replace h1 := h1.same hs;obtain ⟨bL, hbL⟩ : ∃ x, x = w.heap.size := ⟨_, rfl⟩
 have hL : WB w1 bL (decide (x < 0)) s := by rw [hn, hbL]; exact WB.box _ _ _
 rw [← hbL];have hbLH : H ≤ bL := by omega
 have hw01 := hw0;have hbLl := hL.lt;clear hn hs;refine aF rfl rfl (aF rfl rfl (aG (aE (aD (aB (aA rfl rfl (aR rfl rfl cf32 rfl rfl (kE) ?_)))))));rintro _ w99 ⟨rfl, hw99⟩;replace hw99 := hw99.symm;subst hw99;refine aA rfl rfl (aY rfl rfl rfl (aY rfl rfl rfl (aF rfl rfl (aF rfl rfl (aG (aE (aD (aB (aM rfl u29 rfl cI hL.rd rfl (aA rfl rfl (aR rfl rfl cf39 rfl rfl (toWords s x h1.ins hx) ?_)))))))))));rintro _ w2 ⟨g, b, rfl, hgb, hgl2, hrd, hb, hs⟩;have hgH : H ≤ g := by omega
 replace hw0 := hs.le hw0;replace hS := hS.trans hs;refine aA rfl rfl (aY rfl rfl rfl (aY rfl rfl rfl (aF rfl rfl (aF rfl rfl (aG (aE (aD (aD (aB (aA rfl rfl (aI rfl rfl rfl rfl (aG (aE ?_)))))))))))));refine aK rfl (fun h57 => ?_) (fun h57 => ?_)
 ·(simp at h57)
 ·simp only [beq_eq_false_iff_ne, ne_eq] at h57;exact aX (aE (aD (aB (aA rfl rfl (aA rfl rfl (aF rfl rfl (aF rfl rfl (aG (aE (aZ rfl rfl ⟨g, b, rfl, hgH, hgl2, hrd, hb, hS⟩))))))))))
end Go.Proofs.YtccicbpeajdjgaaGreatDoor.Vm
