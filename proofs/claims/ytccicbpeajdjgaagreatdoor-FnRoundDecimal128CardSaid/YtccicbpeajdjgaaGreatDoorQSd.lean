/- Digits subtracted. -/
import Derived.Test.YtccicbpeajdjgaaGreatDoorQVm
import Derived.Test.YtccicbpeajdjgaaGreatDoorQSb
import Derived.Test.YtccicbpeajdjgaaGreatDoorQVmMap
set_option linter.unusedVariables false
set_option linter.unusedSimpArgs false
namespace Go.Proofs.YtccicbpeajdjgaaGreatDoor.Vm
open Go Mix Go.RowKit Wd
set_option maxRecDepth 20000
set_option maxHeartbeats 400000 in
theorem magSub0 {w : World} (A B : Option Addr) (c d : Nat) (I : Nat → Prop) (a : Nat → Nat) (h1 : Mg w I (.slice A 0 c) 0 a) :
 Ret Tryz.prog 38 #[.slice A 0 c, .slice B 0 d] w fun v w' => Mz w' (fun g => w.heap.size ≤ g) v 0 ∧ Same [] w w' := by
 have hS := Same.refl [] w;refine aS Tryz.func38 Tryz.ntmps38 rfl rfl (aD (aB (aF rfl rfl (aG (aE (aD (aB ?_)))))));obtain ⟨nb, hnb⟩ : ∃ x, x = w.heap.size := ⟨_, rfl⟩;refine dS (E := 67) (cs := #[]) rfl rfl (fun w => by kernel_rfl) rfl rfl ?_;rw [← hnb];intro w1 hM hs;replace hS := hS.trans hs;replace h1 := h1.same hs;clear hs;refine aA rfl rfl ?_;have hW : Own w1 nb 67 (.slice (some ⟨nb, 0, none⟩) 0 0) [] := Row.own hM rfl (fun i hi => absurd hi (Nat.not_lt_zero i)) (Nat.le_refl _) zo;have hMl := hM.lt;refine eZ rfl hW rfl h1.ls (fun j hj => mD hj) u27 mR rfl zo (by simp [dgl]) zw rfl rfl ?_;intro u3 w2 S9 hn hs hS9;replace hW := hn;replace hS := hS.trans hs zu;rw [List.nil_append] at hW;have hmg := hW.mg;obtain ⟨Au, cu, rfl⟩ := hmg.shape;clear hn hs hS9;refine aF rfl rfl (aG (aE (aD (aB (aF rfl rfl (aG (aE (aD (aD (aB (aA rfl rfl (bB rfl u27 rfl (aA rfl rfl (aG (aE (bN (dR (fun _ : Unit => [(5, .slice Au 0 cu), (13, .int .i64 (0 : Nat)), (14, .int .i64 (0 : Nat))]) (fun k _ w' => k = 0 ∧ w' = w2) 0 () ⟨rfl, rfl, rfl, trivial⟩ ⟨rfl, rfl⟩ ?_)))))))))))))))));rintro k _ w9 ⟨-, hw9⟩;replace hw9 := hw9.symm;subst hw9;refine aD (aB (aI rfl rfl rfl rfl (aG (aE (aD ?_)))));refine aK rfl (fun h76 => ?_) (fun h76 => ?_)
 ·first | (cases h76; done) | (simp at h76; done) | (simp at h76; omega) | omega
 ·simp only [decide_eq_false_iff_not, Int.not_lt] at h76;refine dG rfl (aE (aD (aB (aA rfl rfl (aR rfl rfl nL rfl rfl (nJ Au 0 cu _ a hmg zo) ?_)))));rintro s w9 ⟨hw9, k, hk, hm2, hN2, hb2⟩;replace hw9 := hw9.symm;subst hw9;exact aF rfl rfl (aG (aE (aZ rfl rfl ⟨⟨k, a, hm2.mono fun g h _ => by omega, fun i hi => by omega, hN2, hb2⟩, hS⟩)))
set_option maxHeartbeats 3200000 in
theorem magSubP {w : World} (A B : Option Addr) (n c m d : Nat) (I J : Nat → Prop) (a b : Nat → Nat) (h1 : Mg w I (.slice A n c) n a) (h2 : Mg w J (.slice B m d) m b) (ha : ∀ i, i < n → a i < 4294967296) (hb : ∀ i, i < m → b i < 4294967296) (hn : n ≤ 1048576) (hm : m ≤ 1048576) (hI2 : ∀ g, J g → g < w.heap.size) (h0 : 0 < n) (hmn : m ≤ n) (hle : bn b m ≤ bn a n) :
 Ret Tryz.prog 38 #[.slice A n c, .slice B m d] w fun v w' => Mz w' (fun g => w.heap.size ≤ g) v (bn a n - bn b m) ∧ Same [] w w' := by
 have hS := Same.refl [] w;obtain ⟨H, hH⟩ : ∃ x, x = w.heap.size := ⟨_, rfl⟩;have hw0 := Nat.le_of_eq hH;rw [← hH] at hI2 ⊢;refine aS Tryz.func38 Tryz.ntmps38 rfl rfl (aD (aB (aF rfl rfl (aG (aE (aD (aB ?_)))))));obtain ⟨nb, hnb⟩ : ∃ x, x = w.heap.size := ⟨_, rfl⟩;refine dS (E := 67) (cs := #[]) rfl rfl (fun w => by kernel_rfl) rfl rfl ?_;rw [← hnb];intro w1 hM hs;replace hw0 := hs.le hw0;replace hS := hS.trans hs;replace h1 := h1.same hs;replace h2 := h2.same hs;clear hs;refine aA rfl rfl ?_;have hW : Own w1 nb 67 (.slice (some ⟨nb, 0, none⟩) 0 0) [] := Row.own hM rfl (fun i hi => absurd hi (Nat.not_lt_zero i)) (Nat.le_refl _) zo;have hMl := hM.lt;have hnbH : H ≤ nb := by omega
 refine eZ rfl hW rfl h1.ls (fun j hj => mD hj) u27 mR rfl zo (by simp [dgl]; omega) zw rfl rfl ?_;intro u3 w2 S9 hn hs hS9;replace hW := hn;replace hw0 := hs.le hw0;replace hS := hS.trans hs zu;replace h2 := h2.same hs zh;rw [List.nil_append] at hW;obtain ⟨gR, cap, f, rfl, hgb, hcap, hR, hf⟩ := hW.row h0;clear hW h1;clear hn hs hS9;refine aF rfl rfl (aG (aE (aD (aB (aF rfl rfl (aG (aE (aD (aD (aB (aA rfl rfl (bB rfl u27 rfl (aA rfl rfl (aG (aE (bN (dR (fun s : Nat × Nat => [(1, .slice B m d), (5, .slice (some ⟨gR, 0, none⟩) n cap), (6, .int .i64 (s.2 : Nat)), (13, .int .i64 (n : Nat)), (14, .int .i64 (s.1 : Nat))]) (fun k s w' => s.1 + k = n ∧ H ≤ w'.heap.size ∧ Same [] w w' ∧ Mg w' J (.slice B m d) m b ∧ (∃ e f, Row w' gR 67 cap f ∧ (∀ j, j < s.1 → f j = dg e j ∧ e j < 4294967296) ∧ (∀ j, s.1 ≤ j → j < n → f j = dg a j) ∧ bn e s.1 + bn (pad b m) s.1 = bn a s.1 + s.2 * 4294967296 ^ s.1) ∧ s.2 ≤ 1) n (0, 0) ⟨rfl, rfl, rfl, rfl, rfl, trivial⟩ ⟨by simp, hw0, hS, h2, ⟨a, f, hR, fun j hj => absurd hj (Nat.not_lt_zero j), fun j _ hj => hf j hj, rfl⟩, by decide⟩ ?_)))))))))))))))));clear hS hw0 h2 hR hf;rintro k ⟨i, bw⟩ w3 ⟨hk, hw0, hS, h2, ⟨e, f, hR, hlo, hhi, hsum⟩, hbw⟩;simp only at hk hlo hhi hsum hbw;dsimp only;rcases (show i = n ∨ i < n ∧ (i < m ∧ (b i + bw ≤ a i ∨ a i < b i + bw) ∨ ¬ i < m ∧ (bw ≤ a i ∨ a i < bw)) by omega) with hi0 | ⟨hin, ⟨him, hc | hc⟩ | ⟨him, hc | hc⟩⟩
 ·rw [hi0] at hsum;replace hlo : ∀ j, j < n → f j = dg e j ∧ e j < 4294967296 := fun j hj => hlo j zw;refine aD (aB (aI rfl rfl rfl rfl (aG (aE (aD ?_)))));refine aK rfl (fun h76 => ?_) (fun h76 => ?_)
  ·simp only [decide_eq_true_eq] at h76;omega
  ·simp only [decide_eq_false_iff_not, Int.not_lt] at h76;refine dG rfl (aE (aD (aB (aA rfl rfl ?_))));have hmg := hR.mg hcap (fun i hi => (hlo i hi).1);refine aR rfl rfl nL rfl rfl (nJ (some ⟨gR, 0, none⟩) n cap _ e hmg zw) ?_;rintro s w9 ⟨hw9, k2, hk2, hm2, hN2, hb2⟩;replace hw9 := hw9.symm;subst hw9;refine aF rfl rfl (aG (aE (aZ rfl rfl ?_)));rw [pD hmn] at hsum;have hel := kD (a := e) (n := n) fun j hj => (hlo j hj).2
   have hbw0 : bw = 0 := by
    rcases (show bw = 0 ∨ bw = 1 by omega) with h9 | h9
    ·exact h9
    ·subst h9; omega
   subst hbw0;exact ⟨⟨k2, e, hm2.mono fun g h _ => by subst h; omega, fun j hj => (hlo j zw).2, hN2, by omega⟩, hS⟩
 ·obtain ⟨gB, oB, rfl, hgB, hgBl, hgBc, hrb⟩ := h2.lit zw;have hai := ha i hin;have hbi := hb i him;obtain ⟨D, hD⟩ : ∃ D, D = a i - bw - b i := ⟨_, rfl⟩;refine aD (aB (aI rfl rfl rfl rfl (aG (aE (aD ?_)))));refine aK rfl (fun h76 => ?_) (fun h76 => ?_)
  ·simp only [decide_eq_true_eq] at h76;refine aX (aE (aD (bN (aD (aB (aA rfl rfl (aF rfl rfl (aG (aE (aD (aB (aA rfl rfl (aA rfl rfl (cC rfl rfl u27 eC zw zw rfl (aL rfl u67 rfl (show _ = some (Value.int .u32 (a i : Nat)) from (hR.cell (i := 0 + Int.toNat ((i : Nat) : Int) * 1) zw).trans zl) rfl ?_)))))))))))))))
   (refine cW rfl u67 Tryz.underlying2 (aV ?_ ?_) rfl ?_; (omega); (omega))
   refine aA rfl rfl ?_
   (refine aI rfl rfl (cT (aV ?_ ?_)) rfl ?_; (omega); (omega))
   refine aF rfl rfl (aG (aE (aD (aD (aB (aA rfl rfl (aA rfl rfl (bB rfl u27 rfl (aI rfl rfl rfl rfl (aG (aE ?_)))))))))));refine aK rfl (fun h78 => ?_) (fun h78 => ?_)
   ·simp only [decide_eq_true_eq] at h78;refine aB (aA rfl rfl (aA rfl rfl (aA rfl rfl (cC rfl rfl u27 eC zw zw rfl (aL rfl u67 rfl (show _ = some (Value.int .u32 (b i : Nat)) by rw [Nat.mul_one, show Int.toNat _ = i by omega]; exact hrb i zw) rfl ?_)))))
    (refine cW rfl u67 Tryz.underlying2 (aV ?_ ?_) rfl ?_; (omega); (omega))
    (refine aI rfl rfl (cT (aV ?_ ?_)) rfl ?_; (omega); (omega))
    refine aF rfl rfl (aG (aE (aD (aB (aF rfl rfl (aG (aE (aD (aD (aB (aA rfl rfl (aI rfl rfl rfl rfl (aG (aE ?_))))))))))))));refine aK rfl (fun h82 => ?_) (fun h82 => ?_)
    ·first | (cases h82; done) | (simp at h82; done) | (simp at h82; omega) | omega
    ·simp only [decide_eq_false_iff_not, Int.not_lt] at h82;refine aX (aE (aB (aA rfl rfl (aA rfl rfl (aA rfl rfl (cW rfl Tryz.underlying2 u67 (kF (x := D) zw zw) rfl (cC rfl rfl u27 eC zw zw rfl (cM rfl rfl rfl eC (hR.cell zw) (hR.fz _) ?_))))))));intro w4 hn hs;replace hR := hR.set' hn;replace hw0 := hs.le hw0;replace hS := hS.trans hs (by intro g hm; simp at hm; omega);replace h2 := h2.same hs (by intro g hm hi; simp at hm; have := hI2 g hi; omega);clear hn hs;refine aG (cQ (aE (aB ?_)))
     (refine aI rfl rfl (cJ (aV ?_ ?_)) rfl ?_; (omega); (omega))
     refine aA rfl rfl (aG ?_);have hst := iM (d := D) (c' := 0) hsum (by rw [hD]; simp [pad, him]; omega)
     exact bZ (k - 1) (i + 1, 0) zw ⟨rfl, rfl, rfl, rfl, eF rfl zw, trivial⟩ ⟨show i + 1 + (k - 1) = n by omega, hw0, hS, h2, ⟨_, _, hR, fun j hj => (by
      have hj : j < i + 1 := hj;unfold upd st;have e9 : Int.toNat ((i : Nat) : Int) = i := Int.toNat_natCast i
      by_cases he : j = i
      ·subst he; simp [dg, e9]; omega
      ·have := hlo j zw; simpa [he, e9, dg] using this), fun j hj1 hj2 => (by
      have hj1 : i + 1 ≤ j := hj1;unfold upd;have e9 : Int.toNat ((i : Nat) : Int) = i := Int.toNat_natCast i
      rw [if_neg zw]; exact hhi j zw hj2), hst⟩, show 0 ≤ 1 by decide⟩
   ·first | (cases h78; done) | (simp at h78; done) | (simp at h78; omega) | omega
  ·simp only [decide_eq_false_iff_not, Int.not_lt] at h76;omega
 ·obtain ⟨gB, oB, rfl, hgB, hgBl, hgBc, hrb⟩ := h2.lit zw;have hai := ha i hin;have hbi := hb i him;obtain ⟨D, hD⟩ : ∃ D, D = a i + 4294967296 - bw - b i := ⟨_, rfl⟩;refine aD (aB (aI rfl rfl rfl rfl (aG (aE (aD ?_)))));refine aK rfl (fun h76 => ?_) (fun h76 => ?_)
  ·simp only [decide_eq_true_eq] at h76;refine aX (aE (aD (bN (aD (aB (aA rfl rfl (aF rfl rfl (aG (aE (aD (aB (aA rfl rfl (aA rfl rfl (cC rfl rfl u27 eC zw zw rfl (aL rfl u67 rfl (show _ = some (Value.int .u32 (a i : Nat)) from (hR.cell (i := 0 + Int.toNat ((i : Nat) : Int) * 1) zw).trans zl) rfl ?_)))))))))))))))
   (refine cW rfl u67 Tryz.underlying2 (aV ?_ ?_) rfl ?_; (omega); (omega))
   refine aA rfl rfl ?_
   (refine aI rfl rfl (cT (aV ?_ ?_)) rfl ?_; (omega); (omega))
   refine aF rfl rfl (aG (aE (aD (aD (aB (aA rfl rfl (aA rfl rfl (bB rfl u27 rfl (aI rfl rfl rfl rfl (aG (aE ?_)))))))))));refine aK rfl (fun h78 => ?_) (fun h78 => ?_)
   ·simp only [decide_eq_true_eq] at h78;refine aB (aA rfl rfl (aA rfl rfl (aA rfl rfl (cC rfl rfl u27 eC zw zw rfl (aL rfl u67 rfl (show _ = some (Value.int .u32 (b i : Nat)) by rw [Nat.mul_one, show Int.toNat _ = i by omega]; exact hrb i zw) rfl ?_)))))
    (refine cW rfl u67 Tryz.underlying2 (aV ?_ ?_) rfl ?_; (omega); (omega))
    (refine aI rfl rfl (cT (aV ?_ ?_)) rfl ?_; (omega); (omega))
    refine aF rfl rfl (aG (aE (aD (aB (aF rfl rfl (aG (aE (aD (aD (aB (aA rfl rfl (aI rfl rfl rfl rfl (aG (aE ?_))))))))))))));refine aK rfl (fun h82 => ?_) (fun h82 => ?_)
    ·simp only [decide_eq_true_eq] at h82;refine aB (aA rfl rfl ?_)
     (refine aI rfl rfl (cJ (aV ?_ ?_)) rfl ?_; (omega); (omega))
     refine aF rfl rfl (aF rfl rfl (aG (aE (aB (aA rfl rfl (aA rfl rfl (aA rfl rfl (cW rfl Tryz.underlying2 u67 (kF (x := D) zw zw) rfl (cC rfl rfl u27 eC zw zw rfl (cM rfl rfl rfl eC (hR.cell zw) (hR.fz _) ?_))))))))));intro w4 hn hs;replace hR := hR.set' hn;replace hw0 := hs.le hw0;replace hS := hS.trans hs (by intro g hm; simp at hm; omega);replace h2 := h2.same hs (by intro g hm hi; simp at hm; have := hI2 g hi; omega);clear hn hs;refine aG (cQ (aE (aB ?_)))
     (refine aI rfl rfl (cJ (aV ?_ ?_)) rfl ?_; (omega); (omega))
     refine aA rfl rfl (aG ?_);have hst := iM (d := D) (c' := 1) hsum (by rw [hD]; simp [pad, him]; omega)
     exact bZ (k - 1) (i + 1, 1) zw ⟨rfl, rfl, rfl, rfl, eF rfl zw, trivial⟩ ⟨show i + 1 + (k - 1) = n by omega, hw0, hS, h2, ⟨_, _, hR, fun j hj => (by
      have hj : j < i + 1 := hj;unfold upd st;have e9 : Int.toNat ((i : Nat) : Int) = i := Int.toNat_natCast i
      by_cases he : j = i
      ·subst he; simp [dg, e9]; omega
      ·have := hlo j zw; simpa [he, e9, dg] using this), fun j hj1 hj2 => (by
      have hj1 : i + 1 ≤ j := hj1;unfold upd;have e9 : Int.toNat ((i : Nat) : Int) = i := Int.toNat_natCast i
      rw [if_neg zw]; exact hhi j zw hj2), hst⟩, show 1 ≤ 1 by decide⟩
    ·first | (cases h82; done) | (simp at h82; done) | (simp at h82; omega) | omega
   ·first | (cases h78; done) | (simp at h78; done) | (simp at h78; omega) | omega
  ·simp only [decide_eq_false_iff_not, Int.not_lt] at h76;omega
 ·have hai := ha i hin;obtain ⟨D, hD⟩ : ∃ D, D = a i - bw := ⟨_, rfl⟩;refine aD (aB (aI rfl rfl rfl rfl (aG (aE (aD ?_)))));refine aK rfl (fun h76 => ?_) (fun h76 => ?_)
  ·simp only [decide_eq_true_eq] at h76;refine aX (aE (aD (bN (aD (aB (aA rfl rfl (aF rfl rfl (aG (aE (aD (aB (aA rfl rfl (aA rfl rfl (cC rfl rfl u27 eC zw zw rfl (aL rfl u67 rfl (show _ = some (Value.int .u32 (a i : Nat)) from (hR.cell (i := 0 + Int.toNat ((i : Nat) : Int) * 1) zw).trans zl) rfl ?_)))))))))))))))
   (refine cW rfl u67 Tryz.underlying2 (aV ?_ ?_) rfl ?_; (omega); (omega))
   refine aA rfl rfl ?_
   (refine aI rfl rfl (cT (aV ?_ ?_)) rfl ?_; (omega); (omega))
   refine aF rfl rfl (aG (aE (aD (aD (aB (aA rfl rfl (aA rfl rfl (bB rfl u27 rfl (aI rfl rfl rfl rfl (aG (aE ?_)))))))))));refine aK rfl (fun h78 => ?_) (fun h78 => ?_)
   ·first | (cases h78; done) | (simp at h78; done) | (simp at h78; omega) | omega
   ·simp only [decide_eq_false_iff_not, Int.not_lt] at h78;refine aX (aE (aD (aB (aF rfl rfl (aG (aE (aD (aD (aB (aA rfl rfl (aI rfl rfl rfl rfl (aG (aE ?_)))))))))))));refine aK rfl (fun h82 => ?_) (fun h82 => ?_)
    ·first | (cases h82; done) | (simp at h82; done) | (simp at h82; omega) | omega
    ·simp only [decide_eq_false_iff_not, Int.not_lt] at h82;refine aX (aE (aB (aA rfl rfl (aA rfl rfl (aA rfl rfl (cW rfl Tryz.underlying2 u67 (kF (x := D) zw zw) rfl (cC rfl rfl u27 eC zw zw rfl (cM rfl rfl rfl eC (hR.cell zw) (hR.fz _) ?_))))))));intro w4 hn hs;replace hR := hR.set' hn;replace hw0 := hs.le hw0;replace hS := hS.trans hs (by intro g hm; simp at hm; omega);replace h2 := h2.same hs (by intro g hm hi; simp at hm; have := hI2 g hi; omega);clear hn hs;refine aG (cQ (aE (aB ?_)))
     (refine aI rfl rfl (cJ (aV ?_ ?_)) rfl ?_; (omega); (omega))
     refine aA rfl rfl (aG ?_);have hst := iM (d := D) (c' := 0) hsum (by rw [hD]; simp [pad, him]; omega)
     exact bZ (k - 1) (i + 1, 0) zw ⟨rfl, rfl, rfl, rfl, eF rfl zw, trivial⟩ ⟨show i + 1 + (k - 1) = n by omega, hw0, hS, h2, ⟨_, _, hR, fun j hj => (by
      have hj : j < i + 1 := hj;unfold upd st;have e9 : Int.toNat ((i : Nat) : Int) = i := Int.toNat_natCast i
      by_cases he : j = i
      ·subst he; simp [dg, e9]; omega
      ·have := hlo j zw; simpa [he, e9, dg] using this), fun j hj1 hj2 => (by
      have hj1 : i + 1 ≤ j := hj1;unfold upd;have e9 : Int.toNat ((i : Nat) : Int) = i := Int.toNat_natCast i
      rw [if_neg zw]; exact hhi j zw hj2), hst⟩, show 0 ≤ 1 by decide⟩
  ·simp only [decide_eq_false_iff_not, Int.not_lt] at h76;omega
 ·have hai := ha i hin;obtain ⟨D, hD⟩ : ∃ D, D = a i + 4294967296 - bw := ⟨_, rfl⟩;refine aD (aB (aI rfl rfl rfl rfl (aG (aE (aD ?_)))));refine aK rfl (fun h76 => ?_) (fun h76 => ?_)
  ·simp only [decide_eq_true_eq] at h76;refine aX (aE (aD (bN (aD (aB (aA rfl rfl (aF rfl rfl (aG (aE (aD (aB (aA rfl rfl (aA rfl rfl (cC rfl rfl u27 eC zw zw rfl (aL rfl u67 rfl (show _ = some (Value.int .u32 (a i : Nat)) from (hR.cell (i := 0 + Int.toNat ((i : Nat) : Int) * 1) zw).trans zl) rfl ?_)))))))))))))))
   (refine cW rfl u67 Tryz.underlying2 (aV ?_ ?_) rfl ?_; (omega); (omega))
   refine aA rfl rfl ?_
   (refine aI rfl rfl (cT (aV ?_ ?_)) rfl ?_; (omega); (omega))
   refine aF rfl rfl (aG (aE (aD (aD (aB (aA rfl rfl (aA rfl rfl (bB rfl u27 rfl (aI rfl rfl rfl rfl (aG (aE ?_)))))))))));refine aK rfl (fun h78 => ?_) (fun h78 => ?_)
   ·first | (cases h78; done) | (simp at h78; done) | (simp at h78; omega) | omega
   ·simp only [decide_eq_false_iff_not, Int.not_lt] at h78;refine aX (aE (aD (aB (aF rfl rfl (aG (aE (aD (aD (aB (aA rfl rfl (aI rfl rfl rfl rfl (aG (aE ?_)))))))))))));refine aK rfl (fun h82 => ?_) (fun h82 => ?_)
    ·simp only [decide_eq_true_eq] at h82;refine aB (aA rfl rfl ?_)
     (refine aI rfl rfl (cJ (aV ?_ ?_)) rfl ?_; (omega); (omega))
     refine aF rfl rfl (aF rfl rfl (aG (aE (aB (aA rfl rfl (aA rfl rfl (aA rfl rfl (cW rfl Tryz.underlying2 u67 (kF (x := D) zw zw) rfl (cC rfl rfl u27 eC zw zw rfl (cM rfl rfl rfl eC (hR.cell zw) (hR.fz _) ?_))))))))));intro w4 hn hs;replace hR := hR.set' hn;replace hw0 := hs.le hw0;replace hS := hS.trans hs (by intro g hm; simp at hm; omega);replace h2 := h2.same hs (by intro g hm hi; simp at hm; have := hI2 g hi; omega);clear hn hs;refine aG (cQ (aE (aB ?_)))
     (refine aI rfl rfl (cJ (aV ?_ ?_)) rfl ?_; (omega); (omega))
     refine aA rfl rfl (aG ?_);have hst := iM (d := D) (c' := 1) hsum (by rw [hD]; simp [pad, him]; omega)
     exact bZ (k - 1) (i + 1, 1) zw ⟨rfl, rfl, rfl, rfl, eF rfl zw, trivial⟩ ⟨show i + 1 + (k - 1) = n by omega, hw0, hS, h2, ⟨_, _, hR, fun j hj => (by
      have hj : j < i + 1 := hj;unfold upd st;have e9 : Int.toNat ((i : Nat) : Int) = i := Int.toNat_natCast i
      by_cases he : j = i
      ·subst he; simp [dg, e9]; omega
      ·have := hlo j zw; simpa [he, e9, dg] using this), fun j hj1 hj2 => (by
      have hj1 : i + 1 ≤ j := hj1;unfold upd;have e9 : Int.toNat ((i : Nat) : Int) = i := Int.toNat_natCast i
      rw [if_neg zw]; exact hhi j zw hj2), hst⟩, show 1 ≤ 1 by decide⟩
    ·first | (cases h82; done) | (simp at h82; done) | (simp at h82; omega) | omega
  ·simp only [decide_eq_false_iff_not, Int.not_lt] at h76;omega
theorem oS {w : World} (A B : Option Addr) (n c m d : Nat) (I J : Nat → Prop) (a b : Nat → Nat) (h1 : Mg w I (.slice A n c) n a) (h2 : Mg w J (.slice B m d) m b) (ha : ∀ i, i < n → a i < 4294967296) (hb : ∀ i, i < m → b i < 4294967296) (hn : n ≤ 1048576) (hm : m ≤ 1048576) (hI2 : ∀ g, J g → g < w.heap.size) (hNb : Nm b m) (hle : bn b m ≤ bn a n) : Ret Tryz.prog 38 #[.slice A n c, .slice B m d] w fun v w' => Mz w' (fun g => w.heap.size ≤ g) v (bn a n - bn b m) ∧ Same [] w w' := by
 have hmn : m ≤ n := hNb.len (Nat.lt_of_le_of_lt hle (kD ha));rcases Nat.eq_zero_or_pos n with rfl | h0
 ·obtain rfl : m = 0 := by omega
  exact magSub0 A B c d I a h1
 ·exact magSubP A B n c m d I J a b h1 h2 ha hb hn hm hI2 h0 hmn hle
end Go.Proofs.YtccicbpeajdjgaaGreatDoor.Vm
namespace Go.Proofs.YtccicbpeajdjgaaGreatDoor.Vm
open Go Mix Go.RowKit Wd
set_option maxRecDepth 20000
theorem upd_dg (e : Nat → Nat) (j d : Nat) : upd (dg e) j (.int .u32 (d : Nat)) = dg (st e j d) := by
 funext i
 unfold upd dg st
 split <;> rfl
theorem Row.put {w : World} {b t n j i d : Nat} {e : Nat → Nat} (h : Row w b t n (upd (dg e) j (.int .u32 (d : Nat)))) (hj : j = i) : Row w b t n (dg (st e i d)) := by
 subst hj;rw [← upd_dg];exact h
theorem pQ {e : Nat → Nat} {i d n : Nat} (h : ∀ j, j < n → e j < 4294967296) (hd : d < 4294967296) : ∀ j, j < n → st e i d j < 4294967296 := fun j hj => by
 unfold st
 split
 ·exact hd
 ·exact h j hj
set_option maxHeartbeats 1600000 in
theorem magMul {w : World} (A B : Option Addr) (n c m d : Nat) (I J : Nat → Prop) (a b : Nat → Nat) (h1 : Mg w I (.slice A n c) n a) (h2 : Mg w J (.slice B m d) m b) (ha : ∀ i, i < n → a i < 4294967296) (hb : ∀ i, i < m → b i < 4294967296) (hn : n ≤ 1048576) (hm : m ≤ 1048576) (hI1 : ∀ g, I g → g < w.heap.size) (hI2 : ∀ g, J g → g < w.heap.size) :
 Ret Tryz.prog 25 #[.slice A n c, .slice B m d] w fun v w' => Mz w' (fun g => w.heap.size ≤ g) v (bn a n * bn b m) ∧ Same [] w w' := by
 have hS := Same.refl [] w;obtain ⟨H, hH⟩ : ∃ x, x = w.heap.size := ⟨_, rfl⟩;have hw0 := Nat.le_of_eq hH;rw [← hH] at hI1 hI2 ⊢;refine aS Tryz.func25 Tryz.ntmps25 rfl rfl (aD (aB (aF rfl rfl (aG (aE (aD (aB (aA rfl rfl (bB rfl u27 rfl (aA rfl rfl (bB rfl u27 rfl ?_)))))))))))
 (refine aI rfl rfl (cJ (z := ((n + m : Nat) : Int)) ?_) rfl ?_; (rw [aV zw zw]; omega))
 obtain ⟨bM, hbM⟩ : ∃ x, x = w.heap.size := ⟨_, rfl⟩;refine jB (n := n + m) rfl rfl u27 mR rfl zo zw rfl rfl ?_;rw [← hbM];intro w1 hR hs;replace hw0 := hs.le hw0;replace hS := hS.trans hs;replace h1 := h1.same hs;replace h2 := h2.same hs;clear hs;refine aF rfl rfl (aG (aE (aD (aD (aB (aA rfl rfl (bB rfl u27 rfl (aA rfl rfl (aG (aE (bN ?_)))))))))));have hbM : H ≤ bM := by omega
 replace hR : Row w1 bM 67 (n + m) (dg fun _ => 0) := hR;refine dR (fun i : Nat => [(0, .slice A n c), (1, .slice B m d), (5, .slice (some ⟨bM, 0, none⟩) (n + m) (n + m)), (16, .int .i64 (n : Nat)), (17, .int .i64 (i : Nat))]) (fun k i w' => i + k = n ∧ H ≤ w'.heap.size ∧ Same [] w w' ∧ Mg w' I (.slice A n c) n a ∧ Mg w' J (.slice B m d) m b ∧ ∃ e, Row w' bM 67 (n + m) (dg e) ∧ (∀ j, j < n + m → e j < 4294967296) ∧ bn e (n + m) = bn a i * bn b m ∧ ∀ j, i + m ≤ j → j < n + m → e j = 0) n 0 ⟨rfl, rfl, rfl, rfl, rfl, trivial⟩ ⟨by simp, hw0, hS, h1, h2, _, hR, fun j _ => by decide, by rw [nB (Nat.zero_le _) fun _ _ _ => rfl, pB, pB, Nat.zero_mul], fun _ _ _ => rfl⟩ ?_;clear hS hw0 h1 h2 hR;rintro k i w2 ⟨hk, hw0, hS, h1, h2, e, hR, hel, hsum, hzero⟩;rcases (show i = n ∨ i < n by omega) with hi0 | hin
 ·rw [hi0] at hsum;refine aD (aB (aI rfl rfl rfl rfl (aG (aE (aD ?_)))));refine aK rfl (fun h93 => ?_) (fun h93 => ?_)
  ·simp only [decide_eq_true_eq] at h93;omega
  ·simp only [decide_eq_false_iff_not, Int.not_lt] at h93;refine dG rfl (aE (aD (aB (aA rfl rfl ?_))));have hmg := hR.mg (Nat.le_refl _) (fun i hi => rfl);refine aR rfl rfl nL rfl rfl (nJ (some ⟨bM, 0, none⟩) (n + m) (n + m) _ e hmg zw) ?_;rintro s w9 ⟨hw9, k2, hk2, hm2, hN2, hb2⟩;replace hw9 := hw9.symm;subst hw9;exact aF rfl rfl (aG (aE (aZ rfl rfl ⟨⟨k2, e, hm2.mono fun g h _ => by subst h; exact hbM, fun j hj => hel j zw, hN2, by rw [hb2, hsum]⟩, hS⟩)))
 ·have hai := ha i hin;refine aD (aB (aI rfl rfl rfl rfl (aG (aE (aD ?_)))));refine aK rfl (fun h93 => ?_) (fun h93 => ?_)
  ·simp only [decide_eq_true_eq] at h93;refine aX (aE (aD (bN (aD (aB (aA rfl rfl (aF rfl rfl (aG (aE (aD (aB (aF rfl rfl (aG (aE (aD (aD (aB (aA rfl rfl (bB rfl u27 rfl (aA rfl rfl (aG (aE (bN (dR (fun s : Nat × Nat => [(0, .slice A n c), (1, .slice B m d), (5, .slice (some ⟨bM, 0, none⟩) (n + m) (n + m)), (16, .int .i64 (n : Nat)), (17, .int .i64 (i : Nat)), (6, .int .i64 (i : Nat)), (7, .int .u64 (s.2 : Nat)), (21, .int .i64 (m : Nat)), (22, .int .i64 (s.1 : Nat))]) (fun k s w' => s.1 + k = m ∧ H ≤ w'.heap.size ∧ Same [] w w' ∧ Mg w' I (.slice A n c) n a ∧ Mg w' J (.slice B m d) m b ∧ (∃ e, Row w' bM 67 (n + m) (dg e) ∧ (∀ j, j < n + m → e j < 4294967296) ∧ bn e (n + m) + s.2 * 4294967296 ^ (i + s.1) = bn a i * bn b m + a i * bn b s.1 * 4294967296 ^ i ∧ ∀ j, i + m ≤ j → j < n + m → e j = 0) ∧ s.2 < 4294967296) m (0, 0) ⟨rfl, rfl, rfl, rfl, rfl, rfl, rfl, rfl, rfl, trivial⟩ ⟨by simp, hw0, hS, h1, h2, ⟨e, hR, hel, by rw [hsum]; simp [bn], hzero⟩, by decide⟩ ?_))))))))))))))))))))))));clear hS hw0 h1 h2 hR hel hsum hzero e;rintro k2 ⟨q, cy⟩ w3 ⟨hk2, hw0, hS, h1, h2, ⟨e, hR, hel, hsum, hzero⟩, hcy⟩;simp only at hk2 hsum hcy;dsimp only;rcases (show q = m ∨ q < m by omega) with hq0 | hqm
   ·rw [hq0] at hsum;refine aD (aB (aI rfl rfl rfl rfl (aG (aE (aD ?_)))));refine aK rfl (fun h95 => ?_) (fun h95 => ?_)
    ·simp only [decide_eq_true_eq] at h95;omega
    ·simp only [decide_eq_false_iff_not, Int.not_lt] at h95;refine dG rfl (aE (aB (aA rfl rfl (aA rfl rfl (aA rfl rfl (bB rfl u27 rfl ?_))))))
     (refine aI rfl rfl (cJ (z := ((i + m : Nat) : Int)) ?_) rfl ?_; (rw [aV zw zw]; omega))
     refine aA rfl rfl (cW rfl u25 u67 (kF (x := cy) rfl hcy) rfl (cC rfl rfl u27 eC zw zw rfl (cM rfl rfl rfl eC (hR.cell zw) (hR.fz _) ?_)));intro w4 hn hs;replace hR := hR.set' hn;replace hw0 := hs.le hw0;replace hS := hS.trans hs zm;replace h1 := h1.same hs zk;replace h2 := h2.same hs zj;clear hn hs;refine aG (cQ (aE (aB ?_)))
     (refine aI rfl rfl (cJ (aV ?_ ?_)) rfl ?_; (omega); (omega))
     refine aA rfl rfl (aG ?_);have hst := mul_row zw hsum (hzero (i + m) zw zw);replace hR := hR.put (i := i + m) zw;exact bZ (k - 1) (i + 1) zw ⟨rfl, rfl, rfl, rfl, eF rfl zw, trivial⟩ ⟨show i + 1 + (k - 1) = n by omega, hw0, hS, h1, h2, _, hR, pQ hel hcy, hst, fun j hj1 hj2 => by unfold st; rw [if_neg zw]; exact hzero j zw hj2⟩
   ·obtain ⟨gA, oA, rfl, hgA, hgAl, hgAc, hra⟩ := h1.lit zw;obtain ⟨gB, oB, rfl, hgB, hgBl, hgBc, hrb⟩ := h2.lit zw;have hbq := hb q hqm;have heq := hel (i + q) zw;obtain ⟨P, hP⟩ : ∃ P, P = a i * b q := ⟨_, rfl⟩;have hmb := mul_lt hai hbq hcy heq;rw [← hP] at hmb;obtain ⟨T, hT⟩ : ∃ T, T = cy + (P + e (i + q)) := ⟨_, rfl⟩;refine aD (aB (aI rfl rfl rfl rfl (aG (aE (aD ?_)))));refine aK rfl (fun h95 => ?_) (fun h95 => ?_)
    ·simp only [decide_eq_true_eq] at h95;refine aX (aE (aD (bN (aD (aB (aA rfl rfl (aF rfl rfl (aG (aE (aD (cP [] cL zy ?_)))))))))));replace hw0 := (aC _).le hw0;replace hS := hS.trans (aC _);replace h1 := h1.same (aC _);replace h2 := h2.same (aC _);replace hR := hR.same (aC _);refine aA rfl rfl (aA rfl rfl (aA rfl rfl (cC rfl rfl u27 eC zw zw rfl (aL rfl u67 rfl (show _ = some (Value.int .u32 (a i : Nat)) by rw [Nat.mul_one, show Int.toNat _ = i by omega]; exact hra i zw) rfl ?_))))
     (refine cW rfl u67 u25 (dD ?_ ?_) rfl ?_; (omega); (omega))
     refine aA rfl rfl (aA rfl rfl (cC rfl rfl u27 eC zw zw rfl (aL rfl u67 rfl (show _ = some (Value.int .u32 (b q : Nat)) by rw [Nat.mul_one, show Int.toNat _ = q by omega]; exact hrb q zw) rfl ?_)))
     (refine cW rfl u67 u25 (dD ?_ ?_) rfl ?_; (omega); (omega))
     refine aI rfl rfl (dE (z := ((P : Nat) : Int)) (by rw [← Int.natCast_mul, ← hP]; exact dD zw zw)) rfl (aA rfl rfl (aA rfl rfl (aA rfl rfl ?_)))
     (refine aI rfl rfl (cJ (z := ((i + q : Nat) : Int)) ?_) rfl ?_; (rw [aV zw zw]; omega))
     refine cC rfl rfl u27 eC zw zw rfl (aL rfl u67 rfl (show _ = some (Value.int .u32 (e (i + q) : Nat)) from (hR.cell (i := 0 + Int.toNat ((i + q : Nat) : Int) * 1) zw).trans (by rw [show 0 + Int.toNat ((i + q : Nat) : Int) * 1 = i + q by omega]; rfl)) rfl ?_)
     (refine cW rfl u67 u25 (dD ?_ ?_) rfl ?_; (omega); (omega))
     (refine aI rfl rfl (cJ (z := ((P + e (i + q) : Nat) : Int)) ?_) rfl ?_; (rw [dD zw zw]; omega))
     (refine aI rfl rfl (cJ (z := ((T : Nat) : Int)) ?_) rfl ?_; (rw [dD zw zw]; omega))
     refine aF rfl rfl (aG (aE (aD (aB (aA rfl rfl (aA rfl rfl (aA rfl rfl ?_)))))))
     (refine aI rfl rfl (cJ (z := ((i + q : Nat) : Int)) ?_) rfl ?_; (rw [aV zw zw]; omega))
     refine aA rfl rfl (cW rfl u25 u67 (iR (x := T) zw) rfl (cC rfl rfl u27 eC zw zw rfl (cM rfl rfl rfl eC (hR.cell zw) (hR.fz _) ?_)));intro w4 hn hs;replace hR := hR.set' hn;replace hw0 := hs.le hw0;replace hS := hS.trans hs zm;replace h1 := h1.same hs zk;replace h2 := h2.same hs zj;clear hn hs;refine aG (aE (aB (aA rfl rfl (dF rfl rfl zo (z := ((T / 4294967296 : Nat) : Int)) (gJ (x := T) zw) rfl (aF rfl rfl (aG (cQ (aE (aB ?_)))))))))
     (refine aI rfl rfl (cJ (aV ?_ ?_)) rfl ?_; (omega); (omega))
     refine aA rfl rfl (aG ?_);have hst := mQ (t := T) (i := i) (k := q) zw hsum zw;replace hR := hR.put (i := i + q) zw;exact bZ (k2 - 1) (q + 1, T / 4294967296) zw ⟨rfl, rfl, rfl, rfl, rfl, rfl, rfl, rfl, eF rfl zw, trivial⟩ ⟨show q + 1 + (k2 - 1) = m by omega, hw0, hS, h1, h2, ⟨_, hR, pQ hel (Nat.mod_lt _ zo), hst, fun j hj1 hj2 => by unfold st; rw [if_neg zw]; exact hzero j hj1 hj2⟩, show T / 4294967296 < 4294967296 by omega⟩
    ·simp only [decide_eq_false_iff_not, Int.not_lt] at h95;omega
  ·simp only [decide_eq_false_iff_not, Int.not_lt] at h93;omega
end Go.Proofs.YtccicbpeajdjgaaGreatDoor.Vm
