/- Digits trimmed, wide integers made, digits compared. -/
import Derived.Test.YtccicbpeajdjgaaGreatDoorQVm
import Derived.Test.YtccicbpeajdjgaaGreatDoorQVmMap
set_option linter.unusedVariables false
set_option linter.unusedSimpArgs false
namespace Go.Proofs.YtccicbpeajdjgaaGreatDoor.Vm
open Go Mix Go.RowKit Wd
abbrev u27 := @Tryz.underlying27
abbrev u29 := @Tryz.underlying29
abbrev u67 := @Tryz.underlying67
set_option maxRecDepth 20000
theorem dJ (w : World) : (zeroValue 29).run Tryz.prog w = .ok (.agg #[.bool false, .slice none 0 0]) w := by kernel_rfl
def sg (neg : Bool) (x : Nat) : Int := if neg then -(x : Int) else x
theorem oK (neg : Bool) (x : Nat) : (sg neg x).natAbs = x := by cases neg <;> simp [sg]
theorem sg_neg (neg : Bool) (x : Nat) : decide (sg neg x < 0) = (neg && decide (0 < x)) := by
 cases neg
 ·simp [sg]
 ·simp only [sg, if_true, Bool.true_and]
  congr 1
  exact propext ⟨fun h => by omega, fun h => by omega⟩
theorem nm_pos {a : Nat → Nat} {k : Nat} (h : Nm a k) : decide (0 < bn a k) = decide (0 < k) := by
 rcases Nat.eq_zero_or_pos k with rfl | h0
 ·rfl
 ·have h1 := h.ge h0;have h2 := bpos (k - 1);have h3 : 0 < bn a k := by omega
  simp [h0, h3]
theorem wz_mk {w : World} {I : Nat → Prop} {s : Value} {k n : Nat} {a : Nat → Nat} {neg e : Bool} (he : e = (neg && decide (0 < k))) (hm : Mg w I s k a) (ha : ∀ i, i < n → a i < 4294967296) (hk : k ≤ n) (hN : Nm a k) (hb : bn a k = bn a n) : Wz w I (.agg #[.bool e, s]) (sg neg (bn a n)) := by
 subst he;refine ⟨s, ?_, k, a, hm, fun i hi => ha i zw, hN, ?_⟩
 ·rw [sg_neg, ← hb, nm_pos hN]
 ·rw [oK, hb]
theorem w32_nat (x : Nat) : IntKind.u32.wrap ((x : Nat) : Int) = ((x % 4294967296 : Nat) : Int) := by
 simp [IntKind.wrap, IntKind.bits, IntKind.signed]
/-- two digits of a number -/
def two (x : Nat) : Nat → Nat := fun i => if i = 0 then x % 4294967296 else x / 4294967296
theorem wO (x : Nat) : bn (two x) 2 = x := by
 simp only [bn, two, Nat.pow_zero, Nat.pow_one]
 simp
 omega
def cmpN (x y : Nat) : Int := if x < y then -1 else if y < x then 1 else 0
theorem nL (us : Array Value) (w : World) : (callFunc 36 us).run Tryz.prog w = .ok (.enter 36 us) w := by kernel_rfl
theorem cI : (Tryz.prog.info? 29).map (·.size) = some 2 := by kernel_rfl
theorem eC : (Tryz.prog.info? 67).map (·.size) = some 1 := by kernel_rfl
set_option maxHeartbeats 400000 in
theorem nJ {w : World} (A : Option Addr) (n c : Nat) (I : Nat → Prop) (a : Nat → Nat) (h : Mg w I (.slice A n c) n a) (hn : n ≤ 2147483647) :
 Ret Tryz.prog 36 #[.slice A n c] w fun v w' => w' = w ∧ ∃ k, k ≤ n ∧ Mg w I v k a ∧ Nm a k ∧ bn a k = bn a n := by
 refine aS Tryz.func36 Tryz.ntmps36 rfl rfl (aD (aB (aF rfl rfl (aG (aE (aD (bN (dR (fun s : Option Addr × Nat × Nat => [(0, .slice s.1 s.2.1 s.2.2)]) (fun m s w' => w' = w ∧ m = s.2.1 ∧ s.2.1 ≤ n ∧ Mg w I (.slice s.1 s.2.1 s.2.2) s.2.1 a ∧ ∀ i, s.2.1 ≤ i → i < n → a i = 0) n (A, n, c) ⟨rfl, trivial⟩ ⟨rfl, rfl, Nat.le_refl _, h, fun i h1 h2 => by simp only at h1; omega⟩ ?_))))))));clear h;rintro m ⟨A2, k, c2⟩ w9 ⟨hw9, hm, hk, hg, hz⟩;simp only at hm hk hg hz;dsimp only;replace hw9 := hw9.symm;subst hw9;rcases (show k = 0 ∨ 0 < k ∧ (a (k - 1) = 0 ∨ a (k - 1) ≠ 0) by omega) with hk0 | ⟨hk0, hc | hc⟩
 ·refine aD (aD (aB (aA rfl rfl (bB rfl u27 rfl (aI rfl rfl rfl rfl (aA rfl rfl (aW rfl rfl rfl zz (aW rfl rfl rfl zz (aW rfl rfl rfl zz (aW rfl rfl rfl zz (aW rfl rfl rfl zz (aW rfl rfl rfl zz (aW rfl rfl rfl zz (cE rfl zz rfl rfl (aG (aE ?_))))))))))))))));refine aK rfl (fun h11 => ?_) (fun h11 => ?_)
  ·first | (simp at h11; done) | (simp at h11; omega) | (cases h11; done)
  ·simp only at h11;exact dG rfl (aE (aD (aB (aA rfl rfl (aF rfl rfl (aG (aE (aZ rfl rfl ⟨rfl, k, hk, hg, .inl hk0, (nB hk hz).symm⟩))))))))
 ·obtain ⟨g, o, rfl, hgm, hgl, hkc, hra⟩ := hg.lit hk0;refine aD (aD (aB (aA rfl rfl (bB rfl u27 rfl (aI rfl rfl rfl rfl (aA rfl rfl (aJ rfl rfl zz (aA rfl rfl (aJ rfl rfl zz (aA rfl rfl (aJ rfl rfl zz (bB rfl u27 rfl (aJ rfl rfl zz ?_)))))))))))))
  (refine aI rfl rfl (cT (aV ?_ ?_)) rfl ?_; (omega); (omega))
  refine aJ rfl rfl zz (cC rfl rfl u27 eC zw zw rfl (aJ rfl rfl zz (aL rfl u67 rfl (show _ = some (Value.int .u32 (a (k - 1) : Nat)) by rw [Nat.mul_one, show Int.toNat _ = (k - 1) by omega]; exact hra (k - 1) zw) rfl (aJ rfl rfl zz (aI rfl rfl rfl rfl (cH rfl zz rfl rfl (aG (aE ?_))))))));refine aK rfl (fun h11 => ?_) (fun h11 => ?_)
  ·simp only [beq_iff_eq] at h11;refine aX (aE (bN (aB (aA rfl rfl (aA rfl rfl (bB rfl u27 rfl ?_))))))
   (refine aI rfl rfl (cT (aV ?_ ?_)) rfl ?_; (omega); (omega))
   refine gZ rfl u27 eC ⟨_, _, rfl, by omega, by omega, show k - 1 = Int.toNat _ by omega⟩ rfl rfl (aF rfl rfl (aG (cQ ?_)));simp only [sl0, Nat.sub_zero]
   exact bZ (k - 1) (some ⟨g, o, none⟩, k - 1, c2) zw ⟨rfl, trivial⟩ ⟨rfl, rfl, show k - 1 ≤ n by omega, (show Mg w I (.slice (some ⟨g, o, none⟩) (k - 1) c2) (k - 1) a from .inr ⟨g, o, c2, rfl, hgm, hgl, by omega, fun i hi => hra i zw⟩), fun i (h1 : k - 1 ≤ i) h2 => by
    rcases Nat.lt_or_ge i k with h3 | h3
    ·rw [show i = k - 1 by omega]; exact hc
    ·exact hz i h3 h2⟩
  ·first | (simp [hc] at h11; done) | (simp at h11; omega)
 ·obtain ⟨g, o, rfl, hgm, hgl, hkc, hra⟩ := hg.lit hk0;refine aD (aD (aB (aA rfl rfl (bB rfl u27 rfl (aI rfl rfl rfl rfl (aA rfl rfl (aJ rfl rfl zz (aA rfl rfl (aJ rfl rfl zz (aA rfl rfl (aJ rfl rfl zz (bB rfl u27 rfl (aJ rfl rfl zz ?_)))))))))))))
  (refine aI rfl rfl (cT (aV ?_ ?_)) rfl ?_; (omega); (omega))
  refine aJ rfl rfl zz (cC rfl rfl u27 eC zw zw rfl (aJ rfl rfl zz (aL rfl u67 rfl (show _ = some (Value.int .u32 (a (k - 1) : Nat)) by rw [Nat.mul_one, show Int.toNat _ = (k - 1) by omega]; exact hra (k - 1) zw) rfl (aJ rfl rfl zz (aI rfl rfl rfl rfl (cH rfl zz rfl rfl (aG (aE ?_))))))));refine aK rfl (fun h11 => ?_) (fun h11 => ?_)
  ·first | (simp [hc] at h11; done) | (simp at h11; omega)
  ·simp only [beq_eq_false_iff_ne, ne_eq] at h11;exact dG rfl (aE (aD (aB (aA rfl rfl (aF rfl rfl (aG (aE (aZ rfl rfl ⟨rfl, k, hk, hg, .inr hc, (nB hk hz).symm⟩))))))))
set_option maxHeartbeats 400000 in
theorem wideT {w : World} (A : Option Addr) (n c : Nat) (I : Nat → Prop) (a : Nat → Nat) (h : Mg w I (.slice A n c) n a) (ha : ∀ i, i < n → a i < 4294967296) (hn : n ≤ 2147483647) (hI : ∀ g, I g → g < w.heap.size) :
 Ret Tryz.prog 22 #[.bool true, .slice A n c] w fun v w' => Wz w' I v (sg true (bn a n)) ∧ Same [] w w' := by
 have hS := Same.refl [] w;refine aS Tryz.func22 Tryz.ntmps22 rfl rfl (aD (aB (bF dJ rfl rfl ?_)));intro w1 hn hs;obtain ⟨bR, hbR⟩ : ∃ x, x = w.heap.size := ⟨_, rfl⟩
 have hR0 : Row w1 bR 29 2 (fun i => (#[.bool false, .slice none 0 0] : Array Value).getD i undef) := by
  rw [hn, hbR];exact Row.alloc _ _ _
 rw [← hbR];replace hS := hS.trans hs;replace h := h.same hs;have hbRl := hR0.lt;clear hn hs;refine aG (aE (aD (aB (aA rfl rfl (aR rfl rfl nL rfl rfl (nJ A n c I a h hn) ?_)))));rintro s w9 ⟨hw9, k, hk, hm, hN, hb⟩;replace hw9 := hw9.symm;subst hw9;obtain ⟨As, cs, rfl⟩ := hm.shape;refine aF rfl rfl (aG (aE (aD (aB (aA rfl rfl (aA rfl rfl (aJ rfl rfl rfl (aA rfl rfl (aJ rfl rfl rfl (bB rfl u27 rfl (aJ rfl rfl rfl (aI rfl rfl rfl rfl (cH rfl rfl rfl rfl (aA rfl rfl (eH rfl rfl (v := .agg #[.bool (decide ((k : Int) > 0)), .slice As k cs]) (fun w => by kernel_rfl) rfl rfl (aU (n := 2) rfl rfl cI rfl (bJ rfl) hR0 zo ?_))))))))))))))));intro w2 hn hs;have hR : WB w2 bR (decide ((k : Int) > 0)) (.slice As k cs) := hn.congr fun i hi => aN (g := wF _ _) hi;replace hS := hS.trans hs;replace hm := hm.same hs (by simp only [List.mem_singleton]; rintro g rfl hg; have := hI _ hg; omega);exact aG (aE (cS rfl rfl u29 rfl cI hR.rd ⟨wz_mk zp hm ha hk hN hb, hS⟩))
set_option maxHeartbeats 400000 in
theorem wideF {w : World} (A : Option Addr) (n c : Nat) (I : Nat → Prop) (a : Nat → Nat) (h : Mg w I (.slice A n c) n a) (ha : ∀ i, i < n → a i < 4294967296) (hn : n ≤ 2147483647) (hI : ∀ g, I g → g < w.heap.size) :
 Ret Tryz.prog 22 #[.bool false, .slice A n c] w fun v w' => Wz w' I v (sg false (bn a n)) ∧ Same [] w w' := by
 have hS := Same.refl [] w;refine aS Tryz.func22 Tryz.ntmps22 rfl rfl (aD (aB (bF dJ rfl rfl ?_)));intro w1 hn hs;obtain ⟨bR, hbR⟩ : ∃ x, x = w.heap.size := ⟨_, rfl⟩
 have hR0 : Row w1 bR 29 2 (fun i => (#[.bool false, .slice none 0 0] : Array Value).getD i undef) := by
  rw [hn, hbR];exact Row.alloc _ _ _
 rw [← hbR];replace hS := hS.trans hs;replace h := h.same hs;have hbRl := hR0.lt;clear hn hs;refine aG (aE (aD (aB (aA rfl rfl (aR rfl rfl nL rfl rfl (nJ A n c I a h hn) ?_)))));rintro s w9 ⟨hw9, k, hk, hm, hN, hb⟩;replace hw9 := hw9.symm;subst hw9;obtain ⟨As, cs, rfl⟩ := hm.shape;refine aF rfl rfl (aG (aE (aD (aB (aA rfl rfl (aA rfl rfl (aW rfl rfl rfl rfl (aW rfl rfl rfl rfl (aW rfl rfl rfl rfl (cE rfl rfl rfl rfl (aA rfl rfl (eH rfl rfl (v := .agg #[.bool false, .slice As k cs]) (fun w => by kernel_rfl) rfl rfl (aU (n := 2) rfl rfl cI rfl (bJ rfl) hR0 zo ?_)))))))))))));intro w2 hn hs;have hR : WB w2 bR false (.slice As k cs) := hn.congr fun i hi => aN (g := wF _ _) hi;replace hS := hS.trans hs;replace hm := hm.same hs (by simp only [List.mem_singleton]; rintro g rfl hg; have := hI _ hg; omega);exact aG (aE (cS rfl rfl u29 rfl cI hR.rd ⟨wz_mk zp hm ha hk hN hb, hS⟩))
theorem jD {w : World} (neg : Bool) (A : Option Addr) (n c : Nat) (I : Nat → Prop) (a : Nat → Nat) (h : Mg w I (.slice A n c) n a) (ha : ∀ i, i < n → a i < 4294967296) (hn : n ≤ 2147483647) (hI : ∀ g, I g → g < w.heap.size) : Ret Tryz.prog 22 #[.bool neg, .slice A n c] w fun v w' => Wz w' I v (sg neg (bn a n)) ∧ Same [] w w' := by
 cases neg
 ·exact wideF A n c I a h ha hn hI
 ·exact wideT A n c I a h ha hn hI
end Go.Proofs.YtccicbpeajdjgaaGreatDoor.Vm
namespace Go.Proofs.YtccicbpeajdjgaaGreatDoor.Vm
open Go Mix Go.RowKit Wd
abbrev u25 := @Tryz.underlying25
set_option maxRecDepth 20000
theorem lW (us : Array Value) (w : World) : (callFunc 22 us).run Tryz.prog w = .ok (.enter 22 us) w := by kernel_rfl
theorem mR : (Tryz.prog.info? 67).map (fun i => (i.size, i.bytes, i.zero)) = some (1, 4, some (.int .u32 0)) := by kernel_rfl
set_option maxHeartbeats 400000 in
theorem iA {w : World} (x : Nat) (hx : x < 9223372036854775808) :
 Ret Tryz.prog 23 #[.int .i64 (x : Nat)] w fun v w' => Wz w' (fun g => w.heap.size ≤ g) v x ∧ Same [] w w' := by
 have hS := Same.refl [] w;have hneg : decide (((x : Nat) : Int) < 0) = false := by simp
 refine aS Tryz.func23 Tryz.ntmps23 rfl rfl (aD (aB (bF dJ rfl rfl ?_)));intro w1 hn hs;obtain ⟨bR, hbR⟩ : ∃ x, x = w.heap.size := ⟨_, rfl⟩
 have hR0 : Row w1 bR 29 2 (fun i => (#[.bool false, .slice none 0 0] : Array Value).getD i undef) := by
  rw [hn, hbR];exact Row.alloc _ _ _
 rw [← hbR];replace hS := hS.trans hs;have hbRl := hR0.lt;clear hn hs;refine aG (aE (aD (aB (aA rfl rfl ?_))))
 (refine cW rfl Tryz.underlying2 u25 (dD ?_ ?_) rfl ?_; (omega); (omega))
 refine aF rfl rfl (aG (aE (aD (aD (aB (aA rfl rfl (aI rfl rfl rfl rfl (aG (aE ?_)))))))));refine aK rfl (fun h26 => ?_) (fun h26 => ?_)
 ·first | (cases h26; done) | (simp at h26; done) | (simp at h26; omega) | omega
 ·simp only [decide_eq_false_iff_not, Int.not_lt] at h26;refine aX (aE (aD (aB (aA rfl rfl (aI rfl rfl rfl rfl (aA rfl rfl (cW rfl u25 u67 (iR (x := x) rfl) rfl (aA rfl rfl (dF rfl rfl zo (z := ((x / 4294967296 : Nat) : Int)) (gJ (x := x) rfl) rfl ?_)))))))))
  (refine cW rfl u25 u67 (iK ?_ ?_) rfl ?_; (omega); (omega))
  obtain ⟨nz, hnz⟩ : ∃ x, x = w1.heap.size := ⟨_, rfl⟩;refine dS (E := 67) (cs := #[.int .u32 (x % 4294967296 : Nat), .int .u32 (x / 4294967296 : Nat)]) rfl rfl (fun w => by kernel_rfl) rfl rfl ?_;rw [← hnz];intro w2 hM hs;replace hS := hS.trans hs;replace hR0 := hR0.same hs;clear hs;have hMl := hM.lt;have hnzb := hR0.lt;have hmg : Mg w2 (· = nz) (.slice (some ⟨nz, 0, none⟩) 2 2) 2 (two x) := hM.mg (Nat.le_refl _) (fun i hi => by rcases (show i = 0 ∨ i = 1 by omega) with rfl | rfl <;> rfl);have hnzR : bR < nz := by omega
  refine aR rfl rfl lW rfl rfl (jD _ (some ⟨nz, 0, none⟩) 2 2 _ (two x) hmg (fun i hi => by unfold two; split <;> omega) zo (fun g hg => by subst hg; exact hMl)) ?_;rintro v9 w3 ⟨⟨s, rfl, hmz⟩, hs⟩;replace hS := hS.trans hs;replace hR0 := hR0.same hs;refine aU (n := 2) rfl rfl cI rfl (bJ hmz.one) hR0 zo ?_;intro w4 hn hs;have hR : WB w4 bR (decide _) s := hn.congr fun i hi => aN (g := wF _ _) hi;replace hS := hS.trans hs;replace hmz := hmz.same hs;refine aG (aE (cS rfl rfl u29 rfl cI hR.rd ?_));rw [hneg, wO] at hmz;simp only [hneg, wO];exact ⟨⟨s, rfl, hmz.mono fun g h _ => by subst h; omega⟩, hS⟩
set_option maxHeartbeats 200000 in
theorem cmpNe {w : World} (A B : Option Addr) (n c m d : Nat) (I J : Nat → Prop) (a b : Nat → Nat) (h1 : Mg w I (.slice A n c) n a) (h2 : Mg w J (.slice B m d) m b) (ha : ∀ i, i < n → a i < 4294967296) (hb : ∀ i, i < m → b i < 4294967296) (hn : n ≤ 1048576) (hm : m ≤ 1048576) (hNa : Nm a n) (hNb : Nm b m) (hne : n ≠ m) :
 Ret Tryz.prog 37 #[.slice A n c, .slice B m d] w fun v w' => v = .int .i64 (cmpN (bn a n) (bn b m)) ∧ Same [] w w' := by
 have hS := Same.refl [] w;refine aS Tryz.func37 Tryz.ntmps37 rfl rfl (aD (aB (aF rfl rfl (aG (aE (aD (aD (aB (aA rfl rfl (bB rfl u27 rfl (aA rfl rfl (bB rfl u27 rfl (aI rfl rfl rfl rfl (aG (aE ?_)))))))))))))));refine aK rfl (fun h39 => ?_) (fun h39 => ?_)
 ·simp only [bne_iff_ne, ne_eq] at h39;refine aD (aD (aB (aA rfl rfl (bB rfl u27 rfl (aA rfl rfl (bB rfl u27 rfl (aI rfl rfl rfl rfl (aG (aE ?_)))))))));refine aK rfl (fun h40 => ?_) (fun h40 => ?_)
  ·simp only [decide_eq_true_eq] at h40;refine aD (aB (aF rfl rfl (aG (aE (aZ rfl rfl ?_)))));have h9 := hNb.lens ha (show n < m by omega);exact ⟨(by unfold cmpN; rw [if_pos h9]; rfl), hS⟩
  ·simp only [decide_eq_false_iff_not, Int.not_lt] at h40;refine aX (aE (aD (aB (aF rfl rfl (aG (aE (aZ rfl rfl ?_)))))));have h9 := hNa.lens hb (show m < n by omega);exact ⟨(by unfold cmpN; rw [if_neg zw, if_pos h9]; rfl), hS⟩
 ·simp only [bne_eq_false_iff_eq] at h39;omega
set_option maxHeartbeats 400000 in
theorem cmpEq {w : World} (A B : Option Addr) (n c d : Nat) (I J : Nat → Prop) (a b : Nat → Nat) (h1 : Mg w I (.slice A n c) n a) (h2 : Mg w J (.slice B n d) n b) (ha : ∀ i, i < n → a i < 4294967296) (hb : ∀ i, i < n → b i < 4294967296) (hn : n ≤ 1048576) :
 Ret Tryz.prog 37 #[.slice A n c, .slice B n d] w fun v w' => v = .int .i64 (cmpN (bn a n) (bn b n)) ∧ Same [] w w' := by
 have hS := Same.refl [] w;refine aS Tryz.func37 Tryz.ntmps37 rfl rfl (aD (aB (aF rfl rfl (aG (aE (aD (aD (aB (aA rfl rfl (bB rfl u27 rfl (aA rfl rfl (bB rfl u27 rfl (aI rfl rfl rfl rfl (aG (aE ?_)))))))))))))));refine aK rfl (fun h39 => ?_) (fun h39 => ?_)
 ·first | (cases h39; done) | (simp at h39; done) | (simp at h39; omega) | omega
 ·simp only [bne_eq_false_iff_eq] at h39;refine aX (aE (aD (aD (aB (aA rfl rfl (bB rfl u27 rfl ?_))))))
  (refine aI rfl rfl (cT (aV ?_ ?_)) rfl ?_; (omega); (omega))
  refine aF rfl rfl (aG (aE (bN (dR (fun j : Nat => [(0, .slice A n c), (1, .slice B n d), (5, .int .i64 ((j : Int) - 1))]) (fun k j w' => k = j ∧ j ≤ n ∧ Same [] w w' ∧ Mg w' I (.slice A n c) n a ∧ Mg w' J (.slice B n d) n b ∧ ∀ i, j ≤ i → i < n → a i = b i) n n ⟨rfl, rfl, rfl, trivial⟩ ⟨rfl, Nat.le_refl _, hS, h1, h2, fun i g1 g2 => by omega⟩ ?_))));clear hS h1 h2;rintro k j w1 ⟨rfl, hj, hS, h1, h2, hall⟩;rcases (show k = 0 ∨ 0 < k ∧ (a (k - 1) < b (k - 1) ∨ b (k - 1) < a (k - 1) ∨ a (k - 1) = b (k - 1)) by omega) with hk0 | ⟨hk0, hc | hc | hc⟩
  ·refine aD (aD (aB (aA rfl rfl (aI rfl rfl rfl rfl (aG (aE ?_))))));refine aK rfl (fun h45 => ?_) (fun h45 => ?_)
   ·simp only [ge_iff_le, decide_eq_true_eq] at h45;omega
   ·simp only [ge_iff_le, decide_eq_false_iff_not, Int.not_le] at h45;refine dG rfl (aE (aD (aB (aF rfl rfl (aG (aE (aZ rfl rfl ?_)))))));have h9 : bn a n = bn b n := iP fun i hi => hall i zw hi;exact ⟨(by rw [h9]; unfold cmpN; simp; rfl), hS⟩
  ·obtain ⟨gA, oA, rfl, hgA, hgAl, hgAc, hra⟩ := h1.lit zw;obtain ⟨gB, oB, rfl, hgB, hgBl, hgBc, hrb⟩ := h2.lit zw;refine aD (aD (aB (aA rfl rfl (aI rfl rfl rfl rfl (aG (aE ?_))))));refine aK rfl (fun h45 => ?_) (fun h45 => ?_)
   ·simp only [ge_iff_le, decide_eq_true_eq] at h45;refine aX (aE (aD (bN (aD (aD (cP [] cL zy ?_))))));replace hS := hS.trans (aC _);refine aA rfl rfl (aA rfl rfl (cC rfl rfl u27 eC zw zw rfl (aL rfl u67 rfl (show _ = some (Value.int .u32 (a (k - 1) : Nat)) by rw [Nat.mul_one, show Int.toNat _ = (k - 1) by omega]; exact hra (k - 1) zw) rfl (aA rfl rfl (aA rfl rfl (cC rfl rfl u27 eC zw zw rfl (aL rfl u67 rfl (show _ = some (Value.int .u32 (b (k - 1) : Nat)) by rw [Nat.mul_one, show Int.toNat _ = (k - 1) by omega]; exact hrb (k - 1) zw) rfl (aI rfl rfl rfl rfl (aG (aE ?_))))))))));refine aK rfl (fun h46 => ?_) (fun h46 => ?_)
    ·simp only [decide_eq_true_eq] at h46;refine aD (aB (aF rfl rfl (aG (aE (aZ rfl rfl ?_)))));have h9 := sN ha (i := k - 1) zw (fun i g1 g2 => hall i zw g2) hc;exact ⟨(by unfold cmpN; rw [if_pos h9]; rfl), hS⟩
    ·simp only [decide_eq_false_iff_not, Int.not_lt] at h46;omega
   ·simp only [ge_iff_le, decide_eq_false_iff_not, Int.not_le] at h45;omega
  ·obtain ⟨gA, oA, rfl, hgA, hgAl, hgAc, hra⟩ := h1.lit zw;obtain ⟨gB, oB, rfl, hgB, hgBl, hgBc, hrb⟩ := h2.lit zw;refine aD (aD (aB (aA rfl rfl (aI rfl rfl rfl rfl (aG (aE ?_))))));refine aK rfl (fun h45 => ?_) (fun h45 => ?_)
   ·simp only [ge_iff_le, decide_eq_true_eq] at h45;refine aX (aE (aD (bN (aD (aD (cP [] cL zy ?_))))));replace hS := hS.trans (aC _);refine aA rfl rfl (aA rfl rfl (cC rfl rfl u27 eC zw zw rfl (aL rfl u67 rfl (show _ = some (Value.int .u32 (a (k - 1) : Nat)) by rw [Nat.mul_one, show Int.toNat _ = (k - 1) by omega]; exact hra (k - 1) zw) rfl (aA rfl rfl (aA rfl rfl (cC rfl rfl u27 eC zw zw rfl (aL rfl u67 rfl (show _ = some (Value.int .u32 (b (k - 1) : Nat)) by rw [Nat.mul_one, show Int.toNat _ = (k - 1) by omega]; exact hrb (k - 1) zw) rfl (aI rfl rfl rfl rfl (aG (aE ?_))))))))));refine aK rfl (fun h46 => ?_) (fun h46 => ?_)
    ·simp only [decide_eq_true_eq] at h46;omega
    ·simp only [decide_eq_false_iff_not, Int.not_lt] at h46;refine aX (aE (aD (cP [] cL zy ?_)));replace hS := hS.trans (aC _);refine aA rfl rfl (aA rfl rfl (cC rfl rfl u27 eC zw zw rfl (aL rfl u67 rfl (show _ = some (Value.int .u32 (a (k - 1) : Nat)) by rw [Nat.mul_one, show Int.toNat _ = (k - 1) by omega]; exact hra (k - 1) zw) rfl (aA rfl rfl (aA rfl rfl (cC rfl rfl u27 eC zw zw rfl (aL rfl u67 rfl (show _ = some (Value.int .u32 (b (k - 1) : Nat)) by rw [Nat.mul_one, show Int.toNat _ = (k - 1) by omega]; exact hrb (k - 1) zw) rfl (aI rfl rfl rfl rfl (aG (aE ?_))))))))));refine aK rfl (fun h49 => ?_) (fun h49 => ?_)
     ·simp only [gt_iff_lt, decide_eq_true_eq] at h49;refine aD (aB (aF rfl rfl (aG (aE (aZ rfl rfl ?_)))));have h9 := sN hb (i := k - 1) zw (fun i g1 g2 => (hall i zw g2).symm) hc;exact ⟨(by unfold cmpN; rw [if_neg zw, if_pos h9]; rfl), hS⟩
     ·simp only [gt_iff_lt, decide_eq_false_iff_not, Int.not_lt] at h49;omega
   ·simp only [ge_iff_le, decide_eq_false_iff_not, Int.not_le] at h45;omega
  ·obtain ⟨gA, oA, rfl, hgA, hgAl, hgAc, hra⟩ := h1.lit zw;obtain ⟨gB, oB, rfl, hgB, hgBl, hgBc, hrb⟩ := h2.lit zw;refine aD (aD (aB (aA rfl rfl (aI rfl rfl rfl rfl (aG (aE ?_))))));refine aK rfl (fun h45 => ?_) (fun h45 => ?_)
   ·simp only [ge_iff_le, decide_eq_true_eq] at h45;refine aX (aE (aD (bN (aD (aD (cP [] cL zy ?_))))));replace hS := hS.trans (aC _);replace h1 := h1.same (aC _);replace h2 := h2.same (aC _);refine aA rfl rfl (aA rfl rfl (cC rfl rfl u27 eC zw zw rfl (aL rfl u67 rfl (show _ = some (Value.int .u32 (a (k - 1) : Nat)) by rw [Nat.mul_one, show Int.toNat _ = (k - 1) by omega]; exact hra (k - 1) zw) rfl (aA rfl rfl (aA rfl rfl (cC rfl rfl u27 eC zw zw rfl (aL rfl u67 rfl (show _ = some (Value.int .u32 (b (k - 1) : Nat)) by rw [Nat.mul_one, show Int.toNat _ = (k - 1) by omega]; exact hrb (k - 1) zw) rfl (aI rfl rfl rfl rfl (aG (aE ?_))))))))));refine aK rfl (fun h46 => ?_) (fun h46 => ?_)
    ·simp only [decide_eq_true_eq] at h46;omega
    ·simp only [decide_eq_false_iff_not, Int.not_lt] at h46;refine aX (aE (aD (cP [] cL zy ?_)));replace hS := hS.trans (aC _);replace h1 := h1.same (aC _);replace h2 := h2.same (aC _);refine aA rfl rfl (aA rfl rfl (cC rfl rfl u27 eC zw zw rfl (aL rfl u67 rfl (show _ = some (Value.int .u32 (a (k - 1) : Nat)) by rw [Nat.mul_one, show Int.toNat _ = (k - 1) by omega]; exact hra (k - 1) zw) rfl (aA rfl rfl (aA rfl rfl (cC rfl rfl u27 eC zw zw rfl (aL rfl u67 rfl (show _ = some (Value.int .u32 (b (k - 1) : Nat)) by rw [Nat.mul_one, show Int.toNat _ = (k - 1) by omega]; exact hrb (k - 1) zw) rfl (aI rfl rfl rfl rfl (aG (aE ?_))))))))));refine aK rfl (fun h49 => ?_) (fun h49 => ?_)
     ·simp only [gt_iff_lt, decide_eq_true_eq] at h49;omega
     ·simp only [gt_iff_lt, decide_eq_false_iff_not, Int.not_lt] at h49;refine aX (cQ (aE (aB (aA rfl rfl ?_))))
      (refine aI rfl rfl (cT (aV ?_ ?_)) rfl ?_; (omega); (omega))
      exact aF rfl rfl (aG (bZ (k - 1) (k - 1) zw ⟨rfl, rfl, eF rfl zw, trivial⟩ ⟨rfl, by omega, hS, h1, h2, fun i g1 g2 => by rcases Nat.lt_or_ge i k with g3 | g3; rw [show i = k - 1 by omega]; exact hc; exact hall i g3 g2⟩))
   ·simp only [ge_iff_le, decide_eq_false_iff_not, Int.not_le] at h45;omega
theorem jJ {w : World} (A B : Option Addr) (n c m d : Nat) (I J : Nat → Prop) (a b : Nat → Nat) (h1 : Mg w I (.slice A n c) n a) (h2 : Mg w J (.slice B m d) m b) (ha : ∀ i, i < n → a i < 4294967296) (hb : ∀ i, i < m → b i < 4294967296) (hn : n ≤ 1048576) (hm : m ≤ 1048576) (hNa : Nm a n) (hNb : Nm b m) : Ret Tryz.prog 37 #[.slice A n c, .slice B m d] w (fun v w' => v = .int .i64 (cmpN (bn a n) (bn b m)) ∧ Same [] w w') := by
 by_cases h : n = m
 ·subst h;exact cmpEq A B n c d I J a b h1 h2 ha hb hn
 ·exact cmpNe A B n c m d I J a b h1 h2 ha hb hn hm hNa hNb h
set_option maxHeartbeats 800000 in
theorem kI {w : World} (A B : Option Addr) (n c m d : Nat) (I J : Nat → Prop) (a b : Nat → Nat) (h1 : Mg w I (.slice A n c) n a) (h2 : Mg w J (.slice B m d) m b) (ha : ∀ i, i < n → a i < 4294967296) (hb : ∀ i, i < m → b i < 4294967296) (hn : n ≤ 1048576) (hm : m ≤ 1048576) (hI1 : ∀ g, I g → g < w.heap.size) (hI2 : ∀ g, J g → g < w.heap.size) :
 Ret Tryz.prog 35 #[.slice A n c, .slice B m d] w fun v w' => ∃ k o, Mg w' (fun g => w.heap.size ≤ g) v k o ∧ (∀ i, i < k → o i < 4294967296) ∧ bn o k = bn a n + bn b m ∧ k ≤ max n m + 1 ∧ Same [] w w' := by
 have hS := Same.refl [] w;obtain ⟨H, hH⟩ : ∃ x, x = w.heap.size := ⟨_, rfl⟩;have hw0 := Nat.le_of_eq hH;rw [← hH] at hI1 hI2 ⊢;refine aS Tryz.func35 Tryz.ntmps35 rfl rfl (aD (aB (aF rfl rfl (aG (aE (aD (aB (aF rfl rfl (aG (aE (aD (aB (aF rfl rfl (aG (aE (aD (aD (aB (aF rfl rfl (aG (aE (bN ?_))))))))))))))))))))));have hO : Own w H 67 (.slice none 0 0) (dgl (fun _ => 0) 0) := Own.nil _ _ _;refine dR (fun s : Nat × Nat × Value => [(0, .slice A n c), (1, .slice B m d), (5, s.2.2), (6, .int .u64 (s.2.1 : Nat)), (7, .int .i64 (s.1 : Nat))]) (fun k s w' => s.1 + k = max n m + 1 ∧ H ≤ w'.heap.size ∧ Same [] w w' ∧ Mg w' I (.slice A n c) n a ∧ Mg w' J (.slice B m d) m b ∧ (∃ o, Own w' H 67 s.2.2 (dgl o s.1) ∧ (∀ i, i < s.1 → o i < 4294967296) ∧ bn o s.1 + s.2.1 * 4294967296 ^ s.1 = bn (pad a n) s.1 + bn (pad b m) s.1) ∧ s.2.1 ≤ 1 ∧ (s.1 = max n m + 1 → s.2.1 = 0)) (max n m + 1) (0, 0, .slice none 0 0) ⟨rfl, rfl, rfl, rfl, rfl, trivial⟩ ⟨by simp, hw0, hS, h1, h2, ⟨_, hO, fun i hi => absurd hi (Nat.not_lt_zero i), rfl⟩, by decide, fun _ => rfl⟩ ?_;clear hS hw0 h1 h2 hO;rintro k ⟨i, cy, u⟩ w1 ⟨hk, hw0, hS, h1, h2, ⟨o, hO, hol, hsum⟩, hcy, hlast⟩;simp only at hk hO hol hsum hcy hlast;dsimp only;rcases (show ¬ i < n ∧ ¬ i < m ∧ cy = 0 ∨ i < n ∧ i < m ∨ i < n ∧ ¬ i < m ∨ ¬ i < n ∧ i < m ∨ ¬ i < n ∧ ¬ i < m ∧ 0 < cy by omega) with ⟨hin, him, hc0⟩ | ⟨hin, him⟩ | ⟨hin, him⟩ | ⟨hin, him⟩ | ⟨hin, him, hc0⟩
 ·subst hc0;refine aD (aD (aB (aA rfl rfl (aA rfl rfl (bB rfl u27 rfl (aI rfl rfl rfl rfl (aA rfl rfl (aJ rfl rfl zz (aA rfl rfl (aJ rfl rfl zz (aA rfl rfl (aJ rfl rfl zz (bB rfl u27 rfl (aJ rfl rfl zz (aI rfl rfl rfl rfl (cE rfl zz rfl rfl (aA rfl rfl (aJ rfl rfl zz (aA rfl rfl (aJ rfl rfl zz (aI rfl rfl rfl rfl (cE rfl zz rfl rfl (aG (aE ?_))))))))))))))))))))))));refine aK rfl (fun h60 => ?_) (fun h60 => ?_)
  ·first | (cases h60; done) | (simp at h60; done) | (simp at h60; omega) | omega
  ·simp only [gt_iff_lt, decide_eq_false_iff_not, Int.not_lt] at h60;refine dG rfl (aE (aD (aB (aA rfl rfl (aF rfl rfl (aG (aE (aZ rfl rfl ?_))))))));rw [Nat.zero_mul, Nat.add_zero, pD zw, pD zw] at hsum;exact ⟨i, o, hO.mg, hol, hsum, by omega, hS⟩
 ·obtain ⟨gA, oA, rfl, hgA, hgAl, hgAc, hra⟩ := h1.lit zw;obtain ⟨gB, oB, rfl, hgB, hgBl, hgBc, hrb⟩ := h2.lit zw;have hai := ha i hin;have hbi := hb i him;obtain ⟨T, hT⟩ : ∃ T, T = cy + a i + b i := ⟨_, rfl⟩;refine aD (aD (aB (aA rfl rfl (aA rfl rfl (bB rfl u27 rfl (aI rfl rfl rfl rfl (aA rfl rfl (aW rfl rfl rfl zz (aW rfl rfl rfl zz (aW rfl rfl rfl zz (aW rfl rfl rfl zz (cH rfl zz rfl rfl (aA rfl rfl (aW rfl rfl rfl rfl (aW rfl rfl rfl rfl (cH rfl rfl rfl rfl (aG (aE ?_))))))))))))))))));refine aK rfl (fun h60 => ?_) (fun h60 => ?_)
  ·simp only at h60;refine aX (aE (aD (bN (aD (aD (aB (aA rfl rfl (aA rfl rfl (bB rfl u27 rfl (aI rfl rfl rfl rfl (aG (aE ?_))))))))))));refine aK rfl (fun h61 => ?_) (fun h61 => ?_)
   ·simp only [decide_eq_true_eq] at h61;refine aB (aA rfl rfl (aA rfl rfl (aA rfl rfl (cC rfl rfl u27 eC zw zw rfl (aL rfl u67 rfl (show _ = some (Value.int .u32 (a i : Nat)) by rw [Nat.mul_one, show Int.toNat _ = i by omega]; exact hra i zw) rfl ?_)))))
    (refine cW rfl u67 u25 (dD ?_ ?_) rfl ?_; (omega); (omega))
    (refine aI rfl rfl (cJ (dD ?_ ?_)) rfl ?_; (omega); (omega))
    refine aF rfl rfl (aG (aE (aD (aD (aB (aA rfl rfl (aA rfl rfl (bB rfl u27 rfl (aI rfl rfl rfl rfl (aG (aE ?_)))))))))));refine aK rfl (fun h64 => ?_) (fun h64 => ?_)
    ·simp only [decide_eq_true_eq] at h64;refine aB (aA rfl rfl (aA rfl rfl (aA rfl rfl (cC rfl rfl u27 eC zw zw rfl (aL rfl u67 rfl (show _ = some (Value.int .u32 (b i : Nat)) by rw [Nat.mul_one, show Int.toNat _ = i by omega]; exact hrb i zw) rfl ?_)))))
     (refine cW rfl u67 u25 (dD ?_ ?_) rfl ?_; (omega); (omega))
     (refine aI rfl rfl (cJ (dD ?_ ?_)) rfl ?_; (omega); (omega))
     refine aF rfl rfl (aG (aE (aD (aB (aA rfl rfl (aA rfl rfl (cW rfl u25 u67 (iR (x := T) zw) rfl ?_)))))));obtain ⟨nz, hnz⟩ : ∃ x, x = w1.heap.size := ⟨_, rfl⟩;refine dS (E := 67) (cs := #[.int .u32 (T % 4294967296 : Nat)]) rfl rfl (fun w => by kernel_rfl) rfl rfl ?_;rw [← hnz];intro w2 hM hs;replace hw0 := hs.le hw0;replace hS := hS.trans hs;replace h1 := h1.same hs;replace h2 := h2.same hs;replace hO := hO.same hs;clear hs;refine eZ rfl hO rfl hM.lsOne (fun j hj => by obtain rfl : j = 0 := (by simpa using hj); rfl) u27 mR rfl zo (by rw [dZ]; simp; omega) hw0 rfl rfl ?_;intro u2 w3 S9 hn hs hS9;replace hO := hn;replace hw0 := hs.le hw0;replace hS := hS.trans hs zu;replace h1 := h1.same hs (by intro g hm hi; have := hS9 g hm; have := hI1 g hi; omega);replace h2 := h2.same hs zh;clear hn hs hS9;refine aF rfl rfl (aG (aE (aB (aA rfl rfl (dF rfl rfl zo (z := ((T / 4294967296 : Nat) : Int)) (gJ (x := T) zw) rfl (aF rfl rfl (aG (cQ (aE (aB (aA rfl rfl ?_)))))))))))
     (refine aI rfl rfl (cJ (aV ?_ ?_)) rfl ?_; (omega); (omega))
     refine aF rfl rfl (aG ?_);rw [← oV] at hO;have hst := lA (t := T) hsum (by rw [hT]; simp [pad, hin, him]);exact bZ (k - 1) (i + 1, T / 4294967296, u2) zw ⟨rfl, rfl, rfl, rfl, eF rfl zw, trivial⟩ ⟨show i + 1 + (k - 1) = max n m + 1 by omega, hw0, hS, h1, h2, ⟨_, hO, fun j hj => (by unfold st; split; exact Nat.mod_lt _ zo; exact hol j (by have : j < i + 1 := hj; omega)), hst⟩, show T / 4294967296 ≤ 1 by omega, fun (h9 : i + 1 = max n m + 1) => show T / 4294967296 = 0 by omega⟩
    ·first | (cases h64; done) | (simp at h64; done) | (simp at h64; omega) | omega
   ·first | (cases h61; done) | (simp at h61; done) | (simp at h61; omega) | omega
  ·first | (cases h60; done) | (simp at h60; done) | (simp at h60; omega) | omega
 ·obtain ⟨gA, oA, rfl, hgA, hgAl, hgAc, hra⟩ := h1.lit zw;have hai := ha i hin;obtain ⟨T, hT⟩ : ∃ T, T = cy + a i := ⟨_, rfl⟩;refine aD (aD (aB (aA rfl rfl (aA rfl rfl (bB rfl u27 rfl (aI rfl rfl rfl rfl (aA rfl rfl (aW rfl rfl rfl zz (aW rfl rfl rfl zz (aW rfl rfl rfl zz (aW rfl rfl rfl zz (cH rfl zz rfl rfl (aA rfl rfl (aW rfl rfl rfl rfl (aW rfl rfl rfl rfl (cH rfl rfl rfl rfl (aG (aE ?_))))))))))))))))));refine aK rfl (fun h60 => ?_) (fun h60 => ?_)
  ·simp only at h60;refine aX (aE (aD (bN (aD (aD (aB (aA rfl rfl (aA rfl rfl (bB rfl u27 rfl (aI rfl rfl rfl rfl (aG (aE ?_))))))))))));refine aK rfl (fun h61 => ?_) (fun h61 => ?_)
   ·simp only [decide_eq_true_eq] at h61;refine aB (aA rfl rfl (aA rfl rfl (aA rfl rfl (cC rfl rfl u27 eC zw zw rfl (aL rfl u67 rfl (show _ = some (Value.int .u32 (a i : Nat)) by rw [Nat.mul_one, show Int.toNat _ = i by omega]; exact hra i zw) rfl ?_)))))
    (refine cW rfl u67 u25 (dD ?_ ?_) rfl ?_; (omega); (omega))
    (refine aI rfl rfl (cJ (dD ?_ ?_)) rfl ?_; (omega); (omega))
    refine aF rfl rfl (aG (aE (aD (aD (aB (aA rfl rfl (aA rfl rfl (bB rfl u27 rfl (aI rfl rfl rfl rfl (aG (aE ?_)))))))))));refine aK rfl (fun h64 => ?_) (fun h64 => ?_)
    ·first | (cases h64; done) | (simp at h64; done) | (simp at h64; omega) | omega
    ·simp only [decide_eq_false_iff_not, Int.not_lt] at h64;refine aX (aE (aD (aB (aA rfl rfl (aA rfl rfl (cW rfl u25 u67 (iR (x := T) zw) rfl ?_))))));obtain ⟨nz, hnz⟩ : ∃ x, x = w1.heap.size := ⟨_, rfl⟩;refine dS (E := 67) (cs := #[.int .u32 (T % 4294967296 : Nat)]) rfl rfl (fun w => by kernel_rfl) rfl rfl ?_;rw [← hnz];intro w2 hM hs;replace hw0 := hs.le hw0;replace hS := hS.trans hs;replace h1 := h1.same hs;replace h2 := h2.same hs;replace hO := hO.same hs;clear hs;refine eZ rfl hO rfl hM.lsOne (fun j hj => by obtain rfl : j = 0 := (by simpa using hj); rfl) u27 mR rfl zo (by rw [dZ]; simp; omega) hw0 rfl rfl ?_;intro u2 w3 S9 hn hs hS9;replace hO := hn;replace hw0 := hs.le hw0;replace hS := hS.trans hs zu;replace h1 := h1.same hs (by intro g hm hi; have := hS9 g hm; have := hI1 g hi; omega);replace h2 := h2.same hs zh;clear hn hs hS9;refine aF rfl rfl (aG (aE (aB (aA rfl rfl (dF rfl rfl zo (z := ((T / 4294967296 : Nat) : Int)) (gJ (x := T) zw) rfl (aF rfl rfl (aG (cQ (aE (aB (aA rfl rfl ?_)))))))))))
     (refine aI rfl rfl (cJ (aV ?_ ?_)) rfl ?_; (omega); (omega))
     refine aF rfl rfl (aG ?_);rw [← oV] at hO;have hst := lA (t := T) hsum (by rw [hT]; simp [pad, hin, him]);exact bZ (k - 1) (i + 1, T / 4294967296, u2) zw ⟨rfl, rfl, rfl, rfl, eF rfl zw, trivial⟩ ⟨show i + 1 + (k - 1) = max n m + 1 by omega, hw0, hS, h1, h2, ⟨_, hO, fun j hj => (by unfold st; split; exact Nat.mod_lt _ zo; exact hol j (by have : j < i + 1 := hj; omega)), hst⟩, show T / 4294967296 ≤ 1 by omega, fun (h9 : i + 1 = max n m + 1) => show T / 4294967296 = 0 by omega⟩
   ·first | (cases h61; done) | (simp at h61; done) | (simp at h61; omega) | omega
  ·first | (cases h60; done) | (simp at h60; done) | (simp at h60; omega) | omega
 ·obtain ⟨gB, oB, rfl, hgB, hgBl, hgBc, hrb⟩ := h2.lit zw;have hbi := hb i him;obtain ⟨T, hT⟩ : ∃ T, T = cy + b i := ⟨_, rfl⟩;refine aD (aD (aB (aA rfl rfl (aA rfl rfl (bB rfl u27 rfl (aI rfl rfl rfl rfl (aA rfl rfl (aJ rfl rfl zz (aA rfl rfl (aJ rfl rfl zz (aA rfl rfl (aJ rfl rfl zz (bB rfl u27 rfl (aJ rfl rfl zz (aI rfl rfl rfl rfl (cE rfl zz rfl rfl (aA rfl rfl (aW rfl rfl rfl zz (aW rfl rfl rfl zz (cH rfl zz rfl rfl (aG (aE ?_))))))))))))))))))))));refine aK rfl (fun h60 => ?_) (fun h60 => ?_)
  ·simp only at h60;refine aX (aE (aD (bN (aD (aD (aB (aA rfl rfl (aA rfl rfl (bB rfl u27 rfl (aI rfl rfl rfl rfl (aG (aE ?_))))))))))));refine aK rfl (fun h61 => ?_) (fun h61 => ?_)
   ·first | (cases h61; done) | (simp at h61; done) | (simp at h61; omega) | omega
   ·simp only [decide_eq_false_iff_not, Int.not_lt] at h61;refine aX (aE (aD (aD (aB (aA rfl rfl (aA rfl rfl (bB rfl u27 rfl (aI rfl rfl rfl rfl (aG (aE ?_))))))))));refine aK rfl (fun h64 => ?_) (fun h64 => ?_)
    ·simp only [decide_eq_true_eq] at h64;refine aB (aA rfl rfl (aA rfl rfl (aA rfl rfl (cC rfl rfl u27 eC zw zw rfl (aL rfl u67 rfl (show _ = some (Value.int .u32 (b i : Nat)) by rw [Nat.mul_one, show Int.toNat _ = i by omega]; exact hrb i zw) rfl ?_)))))
     (refine cW rfl u67 u25 (dD ?_ ?_) rfl ?_; (omega); (omega))
     (refine aI rfl rfl (cJ (dD ?_ ?_)) rfl ?_; (omega); (omega))
     refine aF rfl rfl (aG (aE (aD (aB (aA rfl rfl (aA rfl rfl (cW rfl u25 u67 (iR (x := T) zw) rfl ?_)))))));obtain ⟨nz, hnz⟩ : ∃ x, x = w1.heap.size := ⟨_, rfl⟩;refine dS (E := 67) (cs := #[.int .u32 (T % 4294967296 : Nat)]) rfl rfl (fun w => by kernel_rfl) rfl rfl ?_;rw [← hnz];intro w2 hM hs;replace hw0 := hs.le hw0;replace hS := hS.trans hs;replace h1 := h1.same hs;replace h2 := h2.same hs;replace hO := hO.same hs;clear hs;refine eZ rfl hO rfl hM.lsOne (fun j hj => by obtain rfl : j = 0 := (by simpa using hj); rfl) u27 mR rfl zo (by rw [dZ]; simp; omega) hw0 rfl rfl ?_;intro u2 w3 S9 hn hs hS9;replace hO := hn;replace hw0 := hs.le hw0;replace hS := hS.trans hs zu;replace h1 := h1.same hs (by intro g hm hi; have := hS9 g hm; have := hI1 g hi; omega);replace h2 := h2.same hs zh;clear hn hs hS9;refine aF rfl rfl (aG (aE (aB (aA rfl rfl (dF rfl rfl zo (z := ((T / 4294967296 : Nat) : Int)) (gJ (x := T) zw) rfl (aF rfl rfl (aG (cQ (aE (aB (aA rfl rfl ?_)))))))))))
     (refine aI rfl rfl (cJ (aV ?_ ?_)) rfl ?_; (omega); (omega))
     refine aF rfl rfl (aG ?_);rw [← oV] at hO;have hst := lA (t := T) hsum (by rw [hT]; simp [pad, hin, him]);exact bZ (k - 1) (i + 1, T / 4294967296, u2) zw ⟨rfl, rfl, rfl, rfl, eF rfl zw, trivial⟩ ⟨show i + 1 + (k - 1) = max n m + 1 by omega, hw0, hS, h1, h2, ⟨_, hO, fun j hj => (by unfold st; split; exact Nat.mod_lt _ zo; exact hol j (by have : j < i + 1 := hj; omega)), hst⟩, show T / 4294967296 ≤ 1 by omega, fun (h9 : i + 1 = max n m + 1) => show T / 4294967296 = 0 by omega⟩
    ·first | (cases h64; done) | (simp at h64; done) | (simp at h64; omega) | omega
  ·first | (cases h60; done) | (simp at h60; done) | (simp at h60; omega) | omega
 ·have hmx : i < max n m + 1 := by omega
  obtain ⟨T, hT⟩ : ∃ T, T = cy := ⟨_, rfl⟩;refine aD (aD (aB (aA rfl rfl (aA rfl rfl (bB rfl u27 rfl (aI rfl rfl rfl rfl (aA rfl rfl (aJ rfl rfl zz (aA rfl rfl (aJ rfl rfl zz (aA rfl rfl (aJ rfl rfl zz (bB rfl u27 rfl (aJ rfl rfl zz (aI rfl rfl rfl rfl (cE rfl zz rfl rfl (aA rfl rfl (aJ rfl rfl zz (aA rfl rfl (aJ rfl rfl zz (aI rfl rfl rfl rfl (cE rfl zz rfl rfl (aG (aE ?_))))))))))))))))))))))));refine aK rfl (fun h60 => ?_) (fun h60 => ?_)
  ·simp only [gt_iff_lt, decide_eq_true_eq] at h60;refine aX (aE (aD (bN (aD (aD (aB (aA rfl rfl (aA rfl rfl (bB rfl u27 rfl (aI rfl rfl rfl rfl (aG (aE ?_))))))))))));refine aK rfl (fun h61 => ?_) (fun h61 => ?_)
   ·first | (cases h61; done) | (simp at h61; done) | (simp at h61; omega) | omega
   ·simp only [decide_eq_false_iff_not, Int.not_lt] at h61;refine aX (aE (aD (aD (aB (aA rfl rfl (aA rfl rfl (bB rfl u27 rfl (aI rfl rfl rfl rfl (aG (aE ?_))))))))));refine aK rfl (fun h64 => ?_) (fun h64 => ?_)
    ·first | (cases h64; done) | (simp at h64; done) | (simp at h64; omega) | omega
    ·simp only [decide_eq_false_iff_not, Int.not_lt] at h64;refine aX (aE (aD (aB (aA rfl rfl (aA rfl rfl (cW rfl u25 u67 (iR (x := T) zw) rfl ?_))))));obtain ⟨nz, hnz⟩ : ∃ x, x = w1.heap.size := ⟨_, rfl⟩;refine dS (E := 67) (cs := #[.int .u32 (T % 4294967296 : Nat)]) rfl rfl (fun w => by kernel_rfl) rfl rfl ?_;rw [← hnz];intro w2 hM hs;replace hw0 := hs.le hw0;replace hS := hS.trans hs;replace h1 := h1.same hs;replace h2 := h2.same hs;replace hO := hO.same hs;clear hs;refine eZ rfl hO rfl hM.lsOne (fun j hj => by obtain rfl : j = 0 := (by simpa using hj); rfl) u27 mR rfl zo (by rw [dZ]; simp; omega) hw0 rfl rfl ?_;intro u2 w3 S9 hn hs hS9;replace hO := hn;replace hw0 := hs.le hw0;replace hS := hS.trans hs zu;replace h1 := h1.same hs (by intro g hm hi; have := hS9 g hm; have := hI1 g hi; omega);replace h2 := h2.same hs zh;clear hn hs hS9;refine aF rfl rfl (aG (aE (aB (aA rfl rfl (dF rfl rfl zo (z := ((T / 4294967296 : Nat) : Int)) (gJ (x := T) zw) rfl (aF rfl rfl (aG (cQ (aE (aB (aA rfl rfl ?_)))))))))))
     (refine aI rfl rfl (cJ (aV ?_ ?_)) rfl ?_; (omega); (omega))
     refine aF rfl rfl (aG ?_);rw [← oV] at hO;have hst := lA (t := T) hsum (by rw [hT]; simp [pad, hin, him]);exact bZ (k - 1) (i + 1, T / 4294967296, u2) zw ⟨rfl, rfl, rfl, rfl, eF rfl zw, trivial⟩ ⟨show i + 1 + (k - 1) = max n m + 1 by omega, hw0, hS, h1, h2, ⟨_, hO, fun j hj => (by unfold st; split; exact Nat.mod_lt _ zo; exact hol j (by have : j < i + 1 := hj; omega)), hst⟩, show T / 4294967296 ≤ 1 by omega, fun (h9 : i + 1 = max n m + 1) => show T / 4294967296 = 0 by omega⟩
  ·first | (cases h60; done) | (simp at h60; done) | (simp at h60; omega) | omega
end Go.Proofs.YtccicbpeajdjgaaGreatDoor.Vm
