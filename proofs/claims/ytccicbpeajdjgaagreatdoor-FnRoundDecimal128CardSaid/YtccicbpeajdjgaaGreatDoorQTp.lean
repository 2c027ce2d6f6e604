/- Room for words; words taken over; numbers compared. -/
import Derived.Test.YtccicbpeajdjgaaGreatDoorQVm
import Derived.Test.YtccicbpeajdjgaaGreatDoorQTn
set_option linter.unusedVariables false
set_option linter.unusedSimpArgs false
namespace Go.Proofs.YtccicbpeajdjgaaGreatDoor.Vm
open Go Mix Go.RowKit Wd
set_option maxRecDepth 20000
/-- the slice v holds the number X, no zero word on top -/
def Gn (w : World) (I : Nat → Prop) (v : Value) (X : Nat) : Prop := ∃ n a, Ug w I v n a ∧ (∀ i, i < n → a i < 18446744073709551616) ∧ Un a n ∧ un a n = X
theorem Gn.same {w w' : World} {I : Nat → Prop} {v : Value} {X : Nat} {S : List Nat} (h : Gn w I v X) (hs : Same S w w') (hS : ∀ g, g ∈ S → ¬ I g := by first | (simp; done) | (simp; omega) | (simp only [List.mem_singleton]; rintro g rfl hg; omega)) : Gn w' I v X := by
 obtain ⟨n, a, h1, h2⟩ := h;exact ⟨n, a, h1.same hs hS, h2⟩
theorem Gn.mono {w : World} {I J : Nat → Prop} {v : Value} {X : Nat} (h : Gn w I v X) (hl : ∀ g, I g → g < w.heap.size → J g) : Gn w J v X := by
 obtain ⟨n, a, h1, h2⟩ := h;exact ⟨n, a, h1.mono hl, h2⟩
theorem Gn.nil (w : World) (I : Nat → Prop) : Gn w I (.slice none 0 0) 0 := ⟨0, fun _ => 0, .inl ⟨rfl, rfl⟩, nofun, .inl rfl, rfl⟩
theorem Gn.empty {w : World} {I : Nat → Prop} {g o c : Nat} (hI : I g) (hg : g < w.heap.size) : Gn w I (.slice (some ⟨g, o, none⟩) 0 c) 0 := ⟨0, fun _ => 0, .inr ⟨g, o, c, rfl, hI, hg, Nat.zero_le _, nofun⟩, nofun, .inl rfl, rfl⟩
theorem Gn.one {w : World} {I : Nat → Prop} {g c r : Nat} (h : w.cell? ⟨g, 0, none⟩ = some (.int .u64 (r : Nat))) (hI : I g) (hg : g < w.heap.size) (hc : 1 ≤ c) (hr : r < 18446744073709551616) (h0 : r ≠ 0) : Gn w I (.slice (some ⟨g, 0, none⟩) 1 c) r :=
 ⟨1, fun _ => r, .inr ⟨g, 0, c, rfl, hI, hg, hc, fun i hi => by
  obtain rfl : i = 0 := by omega
  exact h⟩, fun _ _ => hr, .inr h0, by simp [un]⟩
theorem kC (us : Array Value) (w : World) : (callFunc 133 us).run Tryz.prog w = .ok (.enter 133 us) w := by kernel_rfl
theorem vE : (Tryz.prog.info? 150).map (fun i => (i.size, i.bytes, i.zero)) = some (1, 8, some (.int .u64 0)) := by kernel_rfl
set_option maxHeartbeats 200000 in
theorem mkR {w : World} (g o nz n c : Nat) (hn : n ≤ c) (hc : c ≤ 1048576) :
 Ret Tryz.prog 133 #[.slice (some ⟨g, o, none⟩) nz c, .int .i64 (n : Nat)] w fun v w' => v = .slice (some ⟨g, o, none⟩) n c ∧ w' = w := by
 refine aS Tryz.func133 Tryz.ntmps133 rfl rfl (aD (aB (aF rfl rfl (aG (aE (aD (aD (aB (aA rfl rfl (aA rfl rfl (fU rfl u126 rfl (aI rfl rfl rfl rfl (aG (aE ?_))))))))))))));refine aK rfl (fun h45 => ?_) (fun h45 => ?_)
 ·simp only [decide_eq_true_eq] at h45;exact aD (aB (aA rfl rfl (aA rfl rfl (gZ rfl u126 cV ⟨_, _, rfl, by omega, by omega, show n = Int.toNat _ by omega⟩ rfl rfl (aF rfl rfl (aG (aE (aZ rfl rfl ⟨by simp; rfl, rfl⟩))))))))
 ·simp only [decide_eq_false_iff_not, Int.not_le] at h45;omega
set_option maxHeartbeats 200000 in
theorem mkN0 {w : World} :
 Ret Tryz.prog 133 #[.slice none 0 0, .int .i64 0] w fun v w' => v = .slice none 0 0 ∧ w' = w := by
 refine aS Tryz.func133 Tryz.ntmps133 rfl rfl (aD (aB (aF rfl rfl (aG (aE (aD (aD (aB (aA rfl rfl (aA rfl rfl (fU rfl u126 rfl (aI rfl rfl rfl rfl (aG (aE ?_))))))))))))));refine aK rfl (fun h45 => ?_) (fun h45 => ?_)
 ·simp only [decide_eq_true_eq] at h45;exact aD (aB (aA rfl rfl (aA rfl rfl (lP rfl u126 cV ⟨_, _, rfl, by decide, by decide, show 0 = Int.toNat _ by rfl⟩ rfl rfl (aF rfl rfl (aG (aE (aZ rfl rfl ⟨rfl, rfl⟩))))))))
 ·first | (cases h45; done) | (simp at h45; done) | (simp at h45; omega)
set_option maxHeartbeats 400000 in
theorem sB {w : World} (A : Option Addr) (nz n c : Nat) (hn : c < n) (hn2 : n ≤ 1024) :
 Ret Tryz.prog 133 #[.slice A nz c, .int .i64 (n : Nat)] w fun v w' => ∃ k, v = .slice (some ⟨w.heap.size, 0, none⟩) n k ∧ n ≤ k ∧ k ≤ n + 4 ∧ Row w' w.heap.size 150 k (fun _ => .int .u64 0) ∧ Same [] w w' := by
 have hS := Same.refl [] w;refine aS Tryz.func133 Tryz.ntmps133 rfl rfl (aD (aB (aF rfl rfl (aG (aE (aD (aD (aB (aA rfl rfl (aA rfl rfl (fU rfl u126 rfl (aI rfl rfl rfl rfl (aG (aE ?_))))))))))))));refine aK rfl (fun h45 => ?_) (fun h45 => ?_)
 ·simp only [decide_eq_true_eq] at h45;omega
 ·simp only [decide_eq_false_iff_not, Int.not_le] at h45;refine aX (aE (aD (aD (aB (aA rfl rfl (aI rfl rfl rfl rfl (aG (aE ?_))))))));refine aK rfl (fun h48 => ?_) (fun h48 => ?_)
  ·simp only [beq_iff_eq] at h48;obtain rfl : n = 1 := by omega
   refine aD (aB ?_);obtain ⟨bM, hbM⟩ : ∃ x, x = w.heap.size := ⟨_, rfl⟩;refine jB (n := 1) rfl rfl u126 vE rfl zo zw rfl rfl ?_;rw [← hbM];intro w1 hM hs;replace hS := hS.trans hs;clear hs;refine aF rfl rfl (aG (aE (aZ rfl rfl ?_)));subst hbM;exact ⟨1, rfl, by omega, by omega, hM, hS⟩
  ·simp only [beq_eq_false_iff_ne, ne_eq] at h48;refine aX (aE (aD (aB (aA rfl rfl (aA rfl rfl ?_)))))
   (refine aI rfl rfl (cJ (z := ((n + 4 : Nat) : Int)) ?_) rfl ?_; (rw [aV zw zw]; omega))
   refine wY (n := n) (c := n + 4) rfl rfl zw u126 vE rfl zo zw rfl rfl ?_;intro w8 hM hs;replace hS := hS.trans hs;exact aF rfl rfl (aG (aE (aZ rfl rfl ⟨_, rfl, by omega, by omega, hM, hS⟩)))
set_option maxHeartbeats 200000 in
theorem setW0 {w : World} :
 Ret Tryz.prog 127 #[.slice none 0 0, .int .u64 ((0 : Nat) : Int)] w fun v w' => v = .slice none 0 0 ∧ w' = w := by
 refine aS Tryz.func127 Tryz.ntmps127 rfl rfl (aD (aB (aF rfl rfl (aG (aE (aD (aD (aB (aA rfl rfl (aI rfl rfl rfl rfl (aG (aE ?_))))))))))));refine aK rfl (fun h59 => ?_) (fun h59 => ?_)
 ·simp only [beq_iff_eq] at h59;exact aD (aB (aA rfl rfl (lP rfl u126 cV ⟨_, _, rfl, by decide, by decide, show 0 = Int.toNat _ by rfl⟩ rfl rfl (aF rfl rfl (aG (aE (aZ rfl rfl ⟨rfl, rfl⟩)))))))
 ·first | (cases h59; done) | (simp at h59; done) | (simp at h59; omega)
set_option maxHeartbeats 400000 in
theorem setW1 {w : World} (r : Nat) (h0 : r ≠ 0) (hr : r < 18446744073709551616) :
 Ret Tryz.prog 127 #[.slice none 0 0, .int .u64 (r : Nat)] w fun v w' => Gn w' (fun g => w.heap.size ≤ g) v r ∧ Same [] w w' := by
 have hS := Same.refl [] w;refine aS Tryz.func127 Tryz.ntmps127 rfl rfl (aD (aB (aF rfl rfl (aG (aE (aD (aD (aB (aA rfl rfl (aI rfl rfl rfl rfl (aG (aE ?_))))))))))));refine aK rfl (fun h59 => ?_) (fun h59 => ?_)
 ·first | (simp at h59; done) | (simp at h59; omega)
 ·simp only [beq_eq_false_iff_ne, ne_eq] at h59;refine aX (aE (aD (aB (aA rfl rfl (aR rfl rfl kC rfl rfl (sB none 0 1 0 zo zo) ?_)))));rintro _ w1 ⟨cm, rfl, hcm, hcm2, hM, hs⟩;replace hS := hS.trans hs;refine aF rfl rfl (aG (aE (aD (aB (aA rfl rfl (aA rfl rfl (cC rfl rfl u126 cV zw zw rfl (cM rfl rfl rfl cV (hM.cell zw) (hM.fz _) ?_))))))));intro w2 hn hs;replace hM := hM.set' hn;replace hS := hS.trans hs;clear hn hs;exact aG (aE (aD (aB (aA rfl rfl (aF rfl rfl (aG (aE (aZ rfl rfl ⟨Gn.one (hM.cell (i := 0) zw) (Nat.le_refl _) hM.lt hcm hr h0, hS⟩))))))))
theorem uQ {w : World} (r : Nat) (hr : r < 18446744073709551616) : Ret Tryz.prog 127 #[.slice none 0 0, .int .u64 (r : Nat)] w fun v w' => Gn w' (fun g => w.heap.size ≤ g) v r ∧ Same [] w w' := by
 by_cases h : r = 0
 ·subst h;refine (setW0 (w := w)).mono ?_;rintro v w' ⟨rfl, rfl⟩;exact ⟨Gn.nil _ _, Same.refl _ _⟩
 ·exact setW1 r h hr
set_option maxHeartbeats 200000 in
theorem setN0 {w : World} (A : Option Addr) (cx : Nat) :
 Ret Tryz.prog 128 #[.slice none 0 0, .slice A 0 cx] w fun v w' => v = .slice none 0 0 ∧ w' = w := by
 refine aS Tryz.func128 Tryz.ntmps128 rfl rfl (aD (aB (aF rfl rfl (aG (aE (aD (aB (aA rfl rfl (aA rfl rfl (bB rfl u126 rfl (aR rfl rfl kC rfl rfl (mkN0) ?_)))))))))));rintro _ w99 ⟨rfl, hw99⟩;replace hw99 := hw99.symm;subst hw99;exact aF rfl rfl (aG (aE (aD (aB (aA rfl rfl (aA rfl rfl (wZ rfl rfl u126 cV rfl rfl (aG (aE (aD (aB (aA rfl rfl (aF rfl rfl (aG (aE (aZ rfl rfl ⟨rfl, rfl⟩))))))))))))))))
set_option maxHeartbeats 400000 in
theorem setN1 {w : World} (gx k cx : Nat) (a : Nat → Nat) (hx : Rd w gx 0 k (ug a)) (hgx : gx < w.heap.size) (hk : 0 < k ∧ k ≤ 2) :
 Ret Tryz.prog 128 #[.slice none 0 0, .slice (some ⟨gx, 0, none⟩) k cx] w fun v w' => ∃ g c, v = .slice (some ⟨g, 0, none⟩) k c ∧ w.heap.size ≤ g ∧ g < w'.heap.size ∧ k ≤ c ∧ Rd w' g 0 k (ug a) ∧ Same [] w w' := by
 have hS := Same.refl [] w;refine aS Tryz.func128 Tryz.ntmps128 rfl rfl (aD (aB (aF rfl rfl (aG (aE (aD (aB (aA rfl rfl (aA rfl rfl (bB rfl u126 rfl (aR rfl rfl kC rfl rfl (sB none 0 k 0 zw zw) ?_)))))))))));rintro _ w1 ⟨cm, rfl, hcm, hcm2, hM, hs⟩;replace hS := hS.trans hs;replace hx := hx.same hs;replace hgx := hs.lt hgx;refine aF rfl rfl (aG (aE (aD (aB (aA rfl rfl (aA rfl rfl (lC (k := k) rfl rfl u126 cV (Nat.min_self k).symm hM zw hx (fun _ _ => rfl) rfl rfl ?_)))))));intro w2 hn hs;replace hM := hn;replace hS := hS.trans hs;replace hgx := hs.lt hgx;clear hn hs;exact aG (aE (aD (aB (aA rfl rfl (aF rfl rfl (aG (aE (aZ rfl rfl ⟨_, cm, rfl, Nat.le_refl _, hM.lt, hcm, fun i hi => (hM.cell zw).trans (congrArg some (by rw [Nat.zero_add]; exact aN (g := ug a) hi)), hS⟩))))))))
theorem setN {w : World} (gx k cx : Nat) (a : Nat → Nat) (hx : Rd w gx 0 k (ug a)) (hgx : gx < w.heap.size) (hk : k ≤ 2) (ha : ∀ i, i < k → a i < 18446744073709551616) (hU : Un a k) : Ret Tryz.prog 128 #[.slice none 0 0, .slice (some ⟨gx, 0, none⟩) k cx] w fun v w' => Gn w' (fun g => w.heap.size ≤ g) v (un a k) ∧ Same [] w w' := by
 rcases Nat.eq_zero_or_pos k with rfl | h
 ·refine (setN0 (w := w) _ cx).mono ?_;rintro v w' ⟨rfl, rfl⟩;exact ⟨Gn.nil _ _, Same.refl _ _⟩
 ·refine (setN1 gx k cx a hx hgx ⟨h, hk⟩).mono ?_;rintro v w' ⟨g, c, rfl, h1, h2, h3, h4, h5⟩;exact ⟨⟨k, a, .inr ⟨g, 0, c, rfl, h1, h2, h3, h4⟩, ha, hU, rfl⟩, h5⟩
set_option maxHeartbeats 400000 in
theorem setZ {w : World} (gz nz : Nat) (fz : Nat → Value) (hz : Row w gz 150 2 fz) (gx k : Nat) (a : Nat → Nat) (hx : Rd w gx 0 k (ug a)) (hk : k ≤ 2) :
 Ret Tryz.prog 128 #[.slice (some ⟨gz, 0, none⟩) nz 2, .slice (some ⟨gx, 0, none⟩) k 2] w fun v w' => v = .slice (some ⟨gz, 0, none⟩) k 2 ∧ Rd w' gz 0 k (ug a) ∧ Same [gz] w w' := by
 have hS := Same.refl [gz] w;refine aS Tryz.func128 Tryz.ntmps128 rfl rfl (aD (aB (aF rfl rfl (aG (aE (aD (aB (aA rfl rfl (aA rfl rfl (bB rfl u126 rfl (aR rfl rfl kC rfl rfl (mkR gz 0 nz k 2 hk zo) ?_)))))))))));rintro _ w99 ⟨rfl, hw99⟩;replace hw99 := hw99.symm;subst hw99;refine aF rfl rfl (aG (aE (aD (aB (aA rfl rfl (aA rfl rfl (lC (k := k) rfl rfl u126 cV (Nat.min_self k).symm hz zw hx (fun _ _ => rfl) rfl rfl ?_)))))));intro w1 hn hs;replace hz := hn;replace hS := hS.trans hs;clear hn hs;exact aG (aE (aD (aB (aA rfl rfl (aF rfl rfl (aG (aE (aZ rfl rfl ⟨rfl, fun i hi => (hz.cell zw).trans (congrArg some (by rw [Nat.zero_add]; exact aN (g := ug a) hi)), hS⟩))))))))
set_option maxHeartbeats 400000 in
theorem cmpW0 {w : World} (A B : Option Addr) (kx cx cy : Nat) (hk : kx < 2) :
 Ret Tryz.prog 109 #[.slice A kx cx, .slice B 2 cy] w fun v w' => v = .int .i64 (-1) ∧ w' = w := by
 refine aS Tryz.func109 Tryz.ntmps109 rfl rfl (aD (aB (aF rfl rfl (aG (aE (aD (aB (aA rfl rfl (bB rfl u126 rfl (aF rfl rfl (aG (aE (aD (aB (aA rfl rfl (bB rfl u126 rfl (aF rfl rfl (aG (aE (aD (aD (aB (aA rfl rfl (aA rfl rfl (aI rfl rfl rfl rfl (aA rfl rfl (aW rfl rfl rfl zz (aW rfl rfl rfl zz (cH rfl zz rfl rfl (aG (aE ?_)))))))))))))))))))))))))))))));refine aK rfl (fun h142 => ?_) (fun h142 => ?_)
 ·simp only at h142;refine aD (bN (aD (aB (aA rfl rfl (aA rfl rfl (aI rfl rfl rfl rfl (aF rfl rfl (aG (aE ?_)))))))));refine aK rfl (fun h144 => ?_) (fun h144 => ?_)
  ·simp only [decide_eq_true_eq] at h144;exact aB (aF rfl rfl (aG (cQ (aE (aZ rfl rfl ⟨rfl, rfl⟩)))))
  ·first | (simp at h144; done) | (simp at h144; omega)
 ·first | (cases h142; done) | (simp at h142; done) | (simp at h142; omega)
set_option maxHeartbeats 800000 in
theorem cmpW2 {w : World} (gx gy : Nat) (a b : Nat → Nat) (hx : Rd w gx 0 2 (ug a)) (hy : Rd w gy 0 2 (ug b)) (hgx : gx < w.heap.size) (hgy : gy < w.heap.size) (ha : a 0 < 18446744073709551616) (hb : b 0 < 18446744073709551616) :
 Ret Tryz.prog 109 #[.slice (some ⟨gx, 0, none⟩) 2 2, .slice (some ⟨gy, 0, none⟩) 2 2] w fun v w' => ∃ r : Int, v = .int .i64 r ∧ (r < 0 ↔ un a 2 < un b 2) ∧ Same [] w w' := by
 have hS := Same.refl [] w;have hu : (un a 2 < un b 2) ↔ (a 0 + a 1 * 18446744073709551616 < b 0 + b 1 * 18446744073709551616) := by simp [un]
 refine aS Tryz.func109 Tryz.ntmps109 rfl rfl (aD (aB (aF rfl rfl (aG (aE (aD (aB (aA rfl rfl (bB rfl u126 rfl (aF rfl rfl (aG (aE (aD (aB (aA rfl rfl (bB rfl u126 rfl (aF rfl rfl (aG (aE (aD (aD (aB (aA rfl rfl (aA rfl rfl (aI rfl rfl rfl rfl (aA rfl rfl (aJ rfl rfl rfl (aA rfl rfl (aJ rfl rfl rfl (aI rfl rfl rfl rfl (cE rfl rfl rfl rfl (aG (aE ?_)))))))))))))))))))))))))))))))));refine aK rfl (fun h142 => ?_) (fun h142 => ?_)
 ·first | (cases h142; done) | (simp at h142; done)
 ·simp only [beq_eq_false_iff_ne, ne_eq] at h142;refine aX (aE (aD (aB (aA rfl rfl ?_))))
  (refine aI rfl rfl (cT (aV ?_ ?_)) rfl ?_; (omega); (omega))
  refine aF rfl rfl (aG (aE (aD ?_)));refine eS (fun i : Nat => [(0, .slice (some ⟨gx, 0, none⟩) 2 2), (1, .slice (some ⟨gy, 0, none⟩) 2 2), (4, .int .i64 0), (7, .int .i64 (i : Nat))]) (fun i w' => Rd w' gx 0 2 (ug a) ∧ Rd w' gy 0 2 (ug b) ∧ gx < w'.heap.size ∧ gy < w'.heap.size ∧ (i = 1 ∧ a 1 ≠ b 1 ∨ i = 0 ∧ a 1 = b 1) ∧ Same [] w w') ?_ ?_
  ·refine bN (dR (fun i : Nat => [(0, .slice (some ⟨gx, 0, none⟩) 2 2), (1, .slice (some ⟨gy, 0, none⟩) 2 2), (4, .int .i64 0), (7, .int .i64 (i : Nat))]) (fun m i w' => m = i ∧ Rd w' gx 0 2 (ug a) ∧ Rd w' gy 0 2 (ug b) ∧ gx < w'.heap.size ∧ gy < w'.heap.size ∧ (i = 1 ∨ i = 0 ∧ a 1 = b 1) ∧ Same [] w w') 1 1 ⟨rfl, rfl, rfl, eF rfl zw, trivial⟩ ⟨rfl, hx, hy, hgx, hgy, by omega, hS⟩ ?_);clear hx hy hgx hgy hS;rintro m i w1 ⟨hm, hx, hy, hgx, hgy, hi, hS⟩;rcases (show i = 1 ∧ a 1 = b 1 ∨ i = 1 ∧ a 1 ≠ b 1 ∨ i = 0 ∧ a 1 = b 1 by omega) with ⟨rfl, hc⟩ | ⟨rfl, hc⟩ | ⟨rfl, hc⟩
   ·refine aD (aD (cP [] cL zy ?_));replace hS := hS.trans (aC _);replace hx := hx.same (aC _);replace hy := hy.same (aC _);replace hgx := (aC _).lt hgx;replace hgy := (aC _).lt hgy;refine aA rfl rfl (aI rfl rfl rfl rfl (aA rfl rfl (aJ rfl rfl rfl (aA rfl rfl (aJ rfl rfl rfl (aA rfl rfl (aJ rfl rfl rfl (cC rfl rfl u126 cV zw zw rfl (aJ rfl rfl rfl (aL rfl u150 rfl (show _ = some (Value.int .u64 (a 1 : Nat)) by rw [Nat.mul_one, show Int.toNat _ = 1 by omega]; exact hx 1 zw) rfl (aJ rfl rfl rfl (aA rfl rfl (aJ rfl rfl rfl (aA rfl rfl (aJ rfl rfl rfl (cC rfl rfl u126 cV zw zw rfl (aJ rfl rfl rfl (aL rfl u150 rfl (show _ = some (Value.int .u64 (b 1 : Nat)) by rw [Nat.mul_one, show Int.toNat _ = 1 by omega]; exact hy 1 zw) rfl (aJ rfl rfl rfl (aI rfl rfl rfl rfl (cH rfl rfl rfl rfl (aG (aE ?_)))))))))))))))))))))));refine aK rfl (fun h153 => ?_) (fun h153 => ?_)
    ·simp only [beq_iff_eq] at h153;refine aX (aE (bN (aB (aA rfl rfl ?_))))
     (refine aI rfl rfl (cT (aV ?_ ?_)) rfl ?_; (omega); (omega))
     exact aF rfl rfl (aG (cQ (bZ 0 0 zw ⟨rfl, rfl, rfl, eF rfl zw, trivial⟩ ⟨rfl, hx, hy, hgx, hgy, by omega, hS⟩)))
    ·first | (simp at h153; done) | (simp [hc] at h153; done) | (simp at h153; omega)
   ·refine aD (aD (cP [] cL zy ?_));replace hS := hS.trans (aC _);replace hx := hx.same (aC _);replace hy := hy.same (aC _);replace hgx := (aC _).lt hgx;replace hgy := (aC _).lt hgy;refine aA rfl rfl (aI rfl rfl rfl rfl (aA rfl rfl (aJ rfl rfl rfl (aA rfl rfl (aJ rfl rfl rfl (aA rfl rfl (aJ rfl rfl rfl (cC rfl rfl u126 cV zw zw rfl (aJ rfl rfl rfl (aL rfl u150 rfl (show _ = some (Value.int .u64 (a 1 : Nat)) by rw [Nat.mul_one, show Int.toNat _ = 1 by omega]; exact hx 1 zw) rfl (aJ rfl rfl rfl (aA rfl rfl (aJ rfl rfl rfl (aA rfl rfl (aJ rfl rfl rfl (cC rfl rfl u126 cV zw zw rfl (aJ rfl rfl rfl (aL rfl u150 rfl (show _ = some (Value.int .u64 (b 1 : Nat)) by rw [Nat.mul_one, show Int.toNat _ = 1 by omega]; exact hy 1 zw) rfl (aJ rfl rfl rfl (aI rfl rfl rfl rfl (cH rfl rfl rfl rfl (aG (aE ?_)))))))))))))))))))))));refine aK rfl (fun h153 => ?_) (fun h153 => ?_)
    ·first | (simp at h153; done) | (simp at h153; omega)
    ·simp only [beq_eq_false_iff_ne, ne_eq] at h153;exact dG rfl (bZ 0 _ zo ⟨rfl, rfl, rfl, rfl, trivial⟩ ⟨hx, hy, hgx, hgy, by omega, hS⟩)
   ·refine aD (aD (cP [] cL zy ?_));replace hS := hS.trans (aC _);replace hx := hx.same (aC _);replace hy := hy.same (aC _);replace hgx := (aC _).lt hgx;replace hgy := (aC _).lt hgy;refine aA rfl rfl (aI rfl rfl rfl rfl (aA rfl rfl (aW rfl rfl rfl rfl (aW rfl rfl rfl rfl (aW rfl rfl rfl rfl (aW rfl rfl rfl rfl (aW rfl rfl rfl rfl (aW rfl rfl rfl rfl (aW rfl rfl rfl rfl (aW rfl rfl rfl rfl (aW rfl rfl rfl rfl (cE rfl rfl rfl rfl (aG (aE ?_))))))))))))));refine aK rfl (fun h153 => ?_) (fun h153 => ?_)
    ·first | (cases h153; done) | (simp at h153; done)
    ·simp only at h153;exact dG rfl (bZ 0 _ zo ⟨rfl, rfl, rfl, rfl, trivial⟩ ⟨hx, hy, hgx, hgy, by omega, hS⟩)
  ·rintro i w2 ⟨hx, hy, hgx, hgy, hi, hS⟩;refine aE (aD (bN (aD (cP [] cL zy ?_))));replace hS := hS.trans (aC _);replace hx := hx.same (aC _);replace hy := hy.same (aC _);replace hgx := (aC _).lt hgx;replace hgy := (aC _).lt hgy;refine aA rfl rfl (aA rfl rfl (cC rfl rfl u126 cV zw zw rfl (aL rfl u150 rfl (show _ = some (Value.int .u64 (a i : Nat)) by rw [Nat.mul_one, show Int.toNat _ = i by omega]; exact hx i zw) rfl (aA rfl rfl (aA rfl rfl (cC rfl rfl u126 cV zw zw rfl (aL rfl u150 rfl (show _ = some (Value.int .u64 (b i : Nat)) by rw [Nat.mul_one, show Int.toNat _ = i by omega]; exact hy i zw) rfl (aI rfl rfl rfl rfl (aF rfl rfl (aG (aE ?_)))))))))));refine aK rfl (fun h158 => ?_) (fun h158 => ?_)
   ·simp only [decide_eq_true_eq] at h158;exact aB (aF rfl rfl (aG (cQ (aE (aZ rfl rfl ⟨_, rfl, by rw [hu]; rcases hi with ⟨rfl, hc⟩ | ⟨rfl, hc⟩ <;> (try simp only [hc] at *) <;> omega, hS⟩)))))
   ·simp only [decide_eq_false_iff_not, Int.not_lt] at h158;refine aD (cP [] cL zy ?_);replace hS := hS.trans (aC _);replace hx := hx.same (aC _);replace hy := hy.same (aC _);replace hgx := (aC _).lt hgx;replace hgy := (aC _).lt hgy;refine aA rfl rfl (aA rfl rfl (cC rfl rfl u126 cV zw zw rfl (aL rfl u150 rfl (show _ = some (Value.int .u64 (a i : Nat)) by rw [Nat.mul_one, show Int.toNat _ = i by omega]; exact hx i zw) rfl (aA rfl rfl (aA rfl rfl (cC rfl rfl u126 cV zw zw rfl (aL rfl u150 rfl (show _ = some (Value.int .u64 (b i : Nat)) by rw [Nat.mul_one, show Int.toNat _ = i by omega]; exact hy i zw) rfl (aI rfl rfl rfl rfl (aF rfl rfl (aG (aE ?_)))))))))));refine aK rfl (fun h160 => ?_) (fun h160 => ?_)
    ·simp only [gt_iff_lt, decide_eq_true_eq] at h160;exact aB (aF rfl rfl (aG (cQ (aE (aZ rfl rfl ⟨_, rfl, by rw [hu]; rcases hi with ⟨rfl, hc⟩ | ⟨rfl, hc⟩ <;> (try simp only [hc] at *) <;> omega, hS⟩)))))
    ·simp only [gt_iff_lt, decide_eq_false_iff_not, Int.not_lt] at h160;exact aX (cQ (aE (aZ rfl rfl ⟨_, rfl, by rw [hu]; rcases hi with ⟨rfl, hc⟩ | ⟨rfl, hc⟩ <;> (try simp only [hc] at *) <;> omega, hS⟩)))
end Go.Proofs.YtccicbpeajdjgaaGreatDoor.Vm
namespace Go.Proofs.YtccicbpeajdjgaaGreatDoor.Vm
open Go Mix Go.RowKit Wd
abbrev f126 := @Tryz.func126
abbrev n126 := @Tryz.ntmps126
abbrev u125 := @Tryz.underlying125
set_option maxRecDepth 20000
theorem kN {X : Nat} (hX : X < 340282366920938463463374607431768211456) : Un (two64 X) (wl X) ∧ un (two64 X) (wl X) = X ∧ ∀ i, two64 X i < 18446744073709551616 := by
 refine ⟨?_, ?_, fun i => by unfold two64; split <;> omega⟩
 ·unfold wl
  split
  ·exact .inl rfl
  ·split
   ·refine .inr ?_
    show two64 X 0 ≠ 0
    simp [two64]
    omega
   ·refine .inr ?_
    show two64 X 1 ≠ 0
    simp [two64]
    omega
 ·unfold wl
  split
  ·next h => rw [h]; rfl
  ·split
   ·next h1 h => simp [un, two64]; omega
   ·exact jF X
theorem sW {x1 x0 y : Nat} (h0 : 0 < y) (hy : y < 18446744073709551616) (hx1 : x1 < 18446744073709551616) (hx0 : x0 < 18446744073709551616) :
 (x1 * 18446744073709551616 + x0) / y = x1 / y * 18446744073709551616 + (x1 % y * 18446744073709551616 + x0) / y ∧ (x1 * 18446744073709551616 + x0) % y = (x1 % y * 18446744073709551616 + x0) % y ∧ (x1 % y * 18446744073709551616 + x0) / y < 18446744073709551616 ∧ x1 / y < 18446744073709551616 := by
 have h1 := Nat.div_add_mod x1 y;have h2 := Nat.mod_lt x1 h0;have h3 := Nat.div_add_mod (x1 % y * 18446744073709551616 + x0) y;have h4 := Nat.mod_lt (x1 % y * 18446744073709551616 + x0) h0;have h5 := Nat.div_le_self x1 y;have h6 : (x1 % y * 18446744073709551616 + x0) / y < 18446744073709551616 := (Nat.div_lt_iff_lt_mul h0).2 zw
 have h7 : x1 * 18446744073709551616 + x0 = (x1 / y * 18446744073709551616 + (x1 % y * 18446744073709551616 + x0) / y) * y + (x1 % y * 18446744073709551616 + x0) % y := by
  rw [Nat.add_mul, Nat.mul_right_comm, Nat.mul_comm (x1 / y) y, Nat.mul_comm _ y];omega
 obtain ⟨h8, h9⟩ := Dv.due h7 h4;exact ⟨h8.symm, h9.symm, h6, by omega⟩
theorem pP {a b : Nat} (hb : b < 18446744073709551616) : two64 (a * 18446744073709551616 + b) 0 = b ∧ two64 (a * 18446744073709551616 + b) 1 = a := by
 simp [two64]
 omega
theorem sX {X : Nat} : two64 X 1 * 18446744073709551616 + two64 X 0 = X := by
 simp [two64]
 omega
theorem cf128 (us : Array Value) (w : World) : (callFunc 128 us).run Tryz.prog w = .ok (.enter 128 us) w := by kernel_rfl
theorem cf160 (us : Array Value) (w : World) : (callFunc 160 us).run Tryz.prog w = .ok (.enter 160 us) w := by kernel_rfl
theorem cf208 (us : Array Value) (w : World) : (callFunc 208 us).run Tryz.prog w = .ok (.enter 208 us) w := by kernel_rfl
theorem wG (us : Array Value) (w : World) : (callFunc 209 us).run Tryz.prog w = .ok (.enter 209 us) w := by kernel_rfl
set_option maxHeartbeats 400000 in
theorem divWVW1 {w : World} (gz : Nat) (fz : Nat → Value) (hz : Row w gz 150 2 fz) (gx : Nat) (x0 y : Nat) (hX0 : w.cell? ⟨gx, 0, none⟩ = some (.int .u64 (x0 : Nat))) (h0 : 0 < y) (hy : y < 18446744073709551616) (hx0 : x0 < 18446744073709551616) :
 Ret Tryz.prog 160 #[.slice (some ⟨gz, 0, none⟩) 1 2, .int .u64 0, .slice (some ⟨gx, 0, none⟩) 1 2, .int .u64 (y : Nat)] w fun v w' => v = .int .u64 ((x0 % y : Nat) : Int) ∧ w'.cell? ⟨gz, 0, none⟩ = some (.int .u64 ((x0 / y : Nat) : Int)) ∧ Same [gz] w w' := by
 have hS := Same.refl [gz] w;have hd9 := Nat.div_le_self x0 y;have hm9 := Nat.mod_lt x0 h0;obtain ⟨q9, hq9⟩ : ∃ z, z = x0 / y := ⟨_, rfl⟩;obtain ⟨r9, hr9⟩ : ∃ z, z = x0 % y := ⟨_, rfl⟩;rw [← hq9] at hd9 ⊢;rw [← hr9] at hm9 ⊢;refine aS Tryz.func160 Tryz.ntmps160 rfl rfl (aD (aB (aF rfl rfl (aG (aE (aD (aB (aA rfl rfl (aF rfl rfl (aG (aE (aD (aD (aB (aA rfl rfl (bB rfl u125 rfl (aI rfl rfl rfl rfl (aG (aE ?_)))))))))))))))))));refine aK rfl (fun h563 => ?_) (fun h563 => ?_)
 ·simp only [beq_iff_eq] at h563;refine aD (aB (aA rfl rfl (aA rfl rfl (cC rfl rfl u125 cV zw zw rfl (aL rfl u150 rfl (show _ = some (Value.int .u64 (x0 : Nat)) from hX0) rfl (aA rfl rfl (aR rfl rfl cf207 rfl rfl (sP 0 x0 y h0 hx0 hy) ?_)))))));rintro _ w1 ⟨rfl, hs⟩;rw [Nat.zero_mul, Nat.zero_add, ← hq9, ← hr9];replace hS := hS.trans hs;replace hz := hz.same hs;refine aA rfl rfl (aY rfl rfl rfl (aY rfl rfl rfl (aF rfl rfl (aF rfl rfl (aG (aE (aD (aB (aA rfl rfl (aA rfl rfl (cC rfl rfl u125 cV zw zw rfl (cM rfl rfl rfl cV (hz.cell zw) (hz.fz _) ?_))))))))))));intro w2 hn hs;replace hz := hz.set' hn;replace hS := hS.trans hs;clear hn hs;exact aG (aE (aD (aB (aA rfl rfl (aF rfl rfl (aG (aE (aZ rfl rfl ⟨rfl, (hz.cell (i := 0) zo).trans (congrArg some (by simp [upd])), hS⟩))))))))
 ·(simp at h563)
set_option maxHeartbeats 1000000 in
theorem divWVW2 {w : World} (gz : Nat) (fz : Nat → Value) (hz : Row w gz 150 2 fz) (gx : Nat) (x1 x0 y : Nat) (hX0 : w.cell? ⟨gx, 0, none⟩ = some (.int .u64 (x0 : Nat))) (hX1 : w.cell? ⟨gx, 1, none⟩ = some (.int .u64 (x1 : Nat))) (hgx : gx < w.heap.size) (h0 : 0 < y) (hy : y < 18446744073709551616) (hx0 : x0 < 18446744073709551616) (hx1 : x1 < 18446744073709551616) :
 Ret Tryz.prog 160 #[.slice (some ⟨gz, 0, none⟩) 2 2, .int .u64 0, .slice (some ⟨gx, 0, none⟩) 2 2, .int .u64 (y : Nat)] w fun v w' => v = .int .u64 (((x1 * 18446744073709551616 + x0) % y : Nat) : Int) ∧ Rd w' gz 0 2 (ug (two64 ((x1 * 18446744073709551616 + x0) / y))) ∧ Same [gz] w w' := by
 have hS := Same.refl [gz] w;obtain ⟨t1, t2, t3, t4⟩ := sW h0 hy hx1 hx0;have hf := hz;have hr1 := Nat.mod_lt x1 h0;have hr0 := Nat.mod_lt (x1 % y * 18446744073709551616 + x0) h0;refine aS Tryz.func160 Tryz.ntmps160 rfl rfl (aD (aB (aF rfl rfl (aG (aE (aD (aB (aA rfl rfl (aF rfl rfl (aG (aE (aD (aD (aB (aA rfl rfl (bB rfl u125 rfl (aI rfl rfl rfl rfl (aG (aE ?_)))))))))))))))))));refine aK rfl (fun h563 => ?_) (fun h563 => ?_)
 ·(simp at h563)
 ·simp only [beq_eq_false_iff_ne, ne_eq] at h563;refine aX (aE (aD (aB (aA rfl rfl (aR rfl rfl cf208 rfl rfl (iU y h0 hy) ?_)))));rintro _ w1 ⟨rfl, hs⟩;replace hS := hS.trans hs;replace hf := hf.same hs;replace hX0 := dI hX0 hs;replace hX1 := dI hX1 hs;replace hgx := hs.lt hgx;refine aF rfl rfl (aG (aE (aD (aD (aB (aA rfl rfl (bB rfl u125 rfl ?_)))))))
  (refine aI rfl rfl (cT (aV ?_ ?_)) rfl ?_; (omega); (omega))
  refine aF rfl rfl (aG (aE (bN (dR (fun s : Nat × Nat => [(0, .slice (some ⟨gz, 0, none⟩) 2 2), (2, .slice (some ⟨gx, 0, none⟩) 2 2), (3, .int .u64 (y : Nat)), (11, .int .u64 (D2.rec y : Nat)), (8, .int .u64 (s.2 : Nat)), (12, .int .i64 (((s.1 : Nat) : Int) - 1))]) (fun m s w' => m = s.1 ∧ gx < w'.heap.size ∧ Same [gz] w w' ∧ (s = (2, 0) ∧ w'.cell? ⟨gx, 0, none⟩ = some (.int .u64 (x0 : Nat)) ∧ w'.cell? ⟨gx, 1, none⟩ = some (.int .u64 (x1 : Nat)) ∧ (∃ f, Row w' gz 150 2 f) ∨ s = (1, x1 % y) ∧ w'.cell? ⟨gx, 0, none⟩ = some (.int .u64 (x0 : Nat)) ∧ (∃ f, Row w' gz 150 2 f ∧ f 1 = .int .u64 ((x1 / y : Nat) : Int)) ∨ s = (0, (x1 % y * 18446744073709551616 + x0) % y) ∧ ∃ f, Row w' gz 150 2 f ∧ f 1 = .int .u64 ((x1 / y : Nat) : Int) ∧ f 0 = .int .u64 (((x1 % y * 18446744073709551616 + x0) / y : Nat) : Int))) 2 (2, 0) ⟨rfl, rfl, rfl, rfl, rfl, rfl, trivial⟩ ⟨rfl, hgx, hS, .inl ⟨rfl, hX0, hX1, _, hf⟩⟩ ?_))));clear hX0 hX1 hf hgx hS;rintro m s w2 ⟨hm, hgx, hS, ⟨rfl, hX0, hX1, f, hf⟩ | ⟨rfl, hX0, f, hf, hf1⟩ | ⟨rfl, f, hf, hf1, hf0⟩⟩
  ·refine aD (aD (aB (aA rfl rfl (aI rfl rfl rfl rfl (aG (aE ?_))))));refine aK rfl (fun h569 => ?_) (fun h569 => ?_)
   ·simp only [ge_iff_le, decide_eq_true_eq] at h569;refine aX (aE (aD (bN (aB (aA rfl rfl (aA rfl rfl (aA rfl rfl (aA rfl rfl (aA rfl rfl (cC rfl rfl u125 cV zw zw rfl (aL rfl u150 rfl (show _ = some (Value.int .u64 (x1 : Nat)) from hX1) rfl (aA rfl rfl (aA rfl rfl (aR rfl rfl wG rfl rfl (sJ 0 x1 y h0 hy h0 hx1) ?_))))))))))))));rintro _ w99 ⟨rfl, hw99⟩;replace hw99 := hw99.symm;subst hw99;rw [Nat.zero_mul, Nat.zero_add];refine aA rfl rfl (aY rfl rfl rfl (aY rfl rfl rfl (cC rfl rfl u125 cV zw zw rfl (cM rfl rfl rfl cV (hf.cell zp) (hf.fz _) ?_))));intro w3 hn hs;have hX := eY hX0 hf hn zo;replace hf := hf.set' hn;replace hS := hS.trans hs;replace hgx := hs.lt hgx;refine aF rfl rfl (aG (cQ (aE (aB (aA rfl rfl ?_)))))
    (refine aI rfl rfl (cT (aV ?_ ?_)) rfl ?_; (omega); (omega))
    exact aF rfl rfl (aG (bZ 1 (1, x1 % y) zw ⟨rfl, rfl, rfl, rfl, rfl, eF rfl zp, trivial⟩ ⟨rfl, hgx, hS, .inr (.inl ⟨rfl, hX, _, hf, by simp [upd]⟩)⟩))
   ·first | (simp at h569; done) | (simp at h569; omega)
  ·refine aD (aD (aB (aA rfl rfl (aI rfl rfl rfl rfl (aG (aE ?_))))));refine aK rfl (fun h569 => ?_) (fun h569 => ?_)
   ·simp only [ge_iff_le, decide_eq_true_eq] at h569;refine aX (aE (aD (bN (aB (aA rfl rfl (aA rfl rfl (aA rfl rfl (aA rfl rfl (aA rfl rfl (cC rfl rfl u125 cV zw zw rfl (aL rfl u150 rfl (show _ = some (Value.int .u64 (x0 : Nat)) from hX0) rfl (aA rfl rfl (aA rfl rfl (aR rfl rfl wG rfl rfl (sJ (x1 % y) x0 y h0 hy hr1 hx0) ?_))))))))))))));rintro _ w99 ⟨rfl, hw99⟩;replace hw99 := hw99.symm;subst hw99;refine aA rfl rfl (aY rfl rfl rfl (aY rfl rfl rfl (cC rfl rfl u125 cV zw zw rfl (cM rfl rfl rfl cV (hf.cell zp) (hf.fz _) ?_))));intro w3 hn hs;replace hf := hf.set' hn;replace hS := hS.trans hs;replace hgx := hs.lt hgx;refine aF rfl rfl (aG (cQ (aE (aB (aA rfl rfl ?_)))))
    (refine aI rfl rfl (cT (aV ?_ ?_)) rfl ?_; (omega); (omega))
    exact aF rfl rfl (aG (bZ 0 (0, _) zw ⟨rfl, rfl, rfl, rfl, rfl, eF rfl zp, trivial⟩ ⟨rfl, hgx, hS, .inr (.inr ⟨rfl, _, hf, by simp [upd]; exact hf1, by simp [upd]⟩)⟩))
   ·first | (simp at h569; done) | (simp at h569; omega)
  ·refine aD (aD (aB (aA rfl rfl (aI rfl rfl rfl rfl (aG (aE ?_))))));refine aK rfl (fun h569 => ?_) (fun h569 => ?_)
   ·first | (simp at h569; done) | (simp at h569; omega)
   ·simp only [ge_iff_le, decide_eq_false_iff_not, Int.not_le] at h569;refine dG rfl (aE (aD (aB (aA rfl rfl (aF rfl rfl (aG (aE (aZ rfl rfl ?_))))))));rw [t1, t2];refine ⟨rfl, fun i hi => ?_, hS⟩;obtain ⟨g0, g1⟩ := pP (a := x1 / y) t3;refine (hf.cell zw).trans (congrArg some ?_);rcases (show i = 0 ∨ i = 1 by omega) with rfl | rfl
    ·exact hf0.trans (congrArg (fun z : Nat => Value.int .u64 (z : Int)) g0.symm)
    ·exact hf1.trans (congrArg (fun z : Nat => Value.int .u64 (z : Int)) g1.symm)
set_option maxHeartbeats 400000 in
theorem divW1 {w : World} (gz nz : Nat) (fz : Nat → Value) (hz : Row w gz 150 2 fz) (gx X y : Nat) (hX : X < 340282366920938463463374607431768211456) (h0 : 0 < y) (hy : y < 18446744073709551616) (hx : Rd w gx 0 2 (ug (two64 X))) (hgx : gx < w.heap.size) (hc : y = 1) :
 Ret Tryz.prog 126 #[.slice (some ⟨gz, 0, none⟩) nz 2, .slice (some ⟨gx, 0, none⟩) (wl X) 2, .int .u64 (y : Nat)] w fun v w' => ∃ q, v = .tuple #[q, .int .u64 ((X % y : Nat) : Int)] ∧ Gn w' (fun g => g = gz) q (X / y) ∧ Same [gz] w w' := by
 have hS := Same.refl [gz] w;refine aS f126 n126 rfl rfl (aD (aB (aF rfl rfl (aF rfl rfl (aG (aE (aD (aB (aA rfl rfl (bB rfl u126 rfl (aF rfl rfl (aG (aE (aD (bN (aD (aB (aA rfl rfl (aI rfl rfl rfl rfl (aF rfl rfl (aG (aE ?_))))))))))))))))))))));refine aK rfl (fun h543 => ?_) (fun h543 => ?_)
 ·first | (simp at h543; done) | (simp at h543; omega)
 ·simp only [beq_eq_false_iff_ne, ne_eq] at h543;refine aD (aB (aA rfl rfl (aI rfl rfl rfl rfl (aF rfl rfl (aG (aE ?_))))));refine aK rfl (fun h545 => ?_) (fun h545 => ?_)
  ·simp only [beq_iff_eq] at h545;refine aD (aB (aA rfl rfl (aA rfl rfl (aR rfl rfl cf128 rfl rfl (setZ gz nz fz hz gx (wl X) (two64 X) (fun i hi => hx i (by have := nM X; omega)) (nM X)) ?_))));rintro _ w1 ⟨rfl, hr, hs⟩;replace hS := hS.trans hs;refine aF rfl rfl (aG (aE (aZ rfl rfl ?_)));subst hc;obtain ⟨u1, u2, u3⟩ := kN hX;exact ⟨_, congrArg (fun z : Nat => Value.tuple #[_, .int .u64 (z : Int)]) (Nat.mod_one X).symm, ⟨wl X, two64 X, .inr ⟨gz, 0, 2, rfl, rfl, Nat.lt_of_lt_of_le hz.lt hS.size, nM X, hr⟩, fun i _ => u3 i, u1, by rw [Nat.div_one]; exact u2⟩, hS⟩
  ·first | (simp at h545; done) | (simp at h545; omega)
set_option maxHeartbeats 400000 in
theorem divW2 {w : World} (gz nz : Nat) (fz : Nat → Value) (hz : Row w gz 150 2 fz) (gx X y : Nat) (hX : X < 340282366920938463463374607431768211456) (h0 : 0 < y) (hy : y < 18446744073709551616) (hx : Rd w gx 0 2 (ug (two64 X))) (hgx : gx < w.heap.size) (hc : y ≠ 1) (h : X = 0) :
 Ret Tryz.prog 126 #[.slice (some ⟨gz, 0, none⟩) nz 2, .slice (some ⟨gx, 0, none⟩) 0 2, .int .u64 (y : Nat)] w fun v w' => ∃ q, v = .tuple #[q, .int .u64 ((X % y : Nat) : Int)] ∧ Gn w' (fun g => g = gz) q (X / y) ∧ Same [gz] w w' := by
 have hS := Same.refl [gz] w;refine aS f126 n126 rfl rfl (aD (aB (aF rfl rfl (aF rfl rfl (aG (aE (aD (aB (aA rfl rfl (bB rfl u126 rfl (aF rfl rfl (aG (aE (aD (bN (aD (aB (aA rfl rfl (aI rfl rfl rfl rfl (aF rfl rfl (aG (aE ?_))))))))))))))))))))));refine aK rfl (fun h543 => ?_) (fun h543 => ?_)
 ·first | (simp at h543; done) | (simp at h543; omega)
 ·simp only [beq_eq_false_iff_ne, ne_eq] at h543;refine aD (aB (aA rfl rfl (aI rfl rfl rfl rfl (aF rfl rfl (aG (aE ?_))))));refine aK rfl (fun h545 => ?_) (fun h545 => ?_)
  ·first | (simp at h545; done) | (simp at h545; omega)
  ·simp only [beq_eq_false_iff_ne, ne_eq] at h545;refine aD (aB (aA rfl rfl (aI rfl rfl rfl rfl (aF rfl rfl (aG (aE ?_))))));refine aK rfl (fun h548 => ?_) (fun h548 => ?_)
   ·simp only [beq_iff_eq] at h548;refine aD (aB (aA rfl rfl (gZ rfl u126 cV ⟨_, _, rfl, by decide, by decide, show 0 = Int.toNat _ by rfl⟩ rfl rfl (aF rfl rfl (aG (aE (aZ rfl rfl ?_)))))));subst h;rw [Nat.zero_mod, Nat.zero_div];exact ⟨.slice (some ⟨gz, 0, none⟩) 0 2, by simp; rfl, Gn.empty rfl hz.lt, hS⟩
   ·first | (simp at h548; done) | (simp at h548; omega)
set_option maxHeartbeats 400000 in
theorem divW3 {w : World} (gz nz : Nat) (fz : Nat → Value) (hz : Row w gz 150 2 fz) (gx X y : Nat) (hX : X < 340282366920938463463374607431768211456) (h0 : 0 < y) (hy : y < 18446744073709551616) (hx : Rd w gx 0 2 (ug (two64 X))) (hgx : gx < w.heap.size) (hc : y ≠ 1) (h : 0 < X ∧ X < 18446744073709551616) :
 Ret Tryz.prog 126 #[.slice (some ⟨gz, 0, none⟩) nz 2, .slice (some ⟨gx, 0, none⟩) 1 2, .int .u64 (y : Nat)] w fun v w' => ∃ q, v = .tuple #[q, .int .u64 ((X % y : Nat) : Int)] ∧ Gn w' (fun g => g = gz) q (X / y) ∧ Same [gz] w w' := by
 have hS := Same.refl [gz] w;refine aS f126 n126 rfl rfl (aD (aB (aF rfl rfl (aF rfl rfl (aG (aE (aD (aB (aA rfl rfl (bB rfl u126 rfl (aF rfl rfl (aG (aE (aD (bN (aD (aB (aA rfl rfl (aI rfl rfl rfl rfl (aF rfl rfl (aG (aE ?_))))))))))))))))))))));refine aK rfl (fun h543 => ?_) (fun h543 => ?_)
 ·first | (simp at h543; done) | (simp at h543; omega)
 ·simp only [beq_eq_false_iff_ne, ne_eq] at h543;refine aD (aB (aA rfl rfl (aI rfl rfl rfl rfl (aF rfl rfl (aG (aE ?_))))));refine aK rfl (fun h545 => ?_) (fun h545 => ?_)
  ·first | (simp at h545; done) | (simp at h545; omega)
  ·simp only [beq_eq_false_iff_ne, ne_eq] at h545;refine aD (aB (aA rfl rfl (aI rfl rfl rfl rfl (aF rfl rfl (aG (aE ?_))))));refine aK rfl (fun h548 => ?_) (fun h548 => ?_)
   ·first | (simp at h548; done) | (simp at h548; omega)
   ·simp only [beq_eq_false_iff_ne, ne_eq] at h548;refine aX (cQ (aE (aD (aB (aA rfl rfl (aA rfl rfl (aR rfl rfl kC rfl rfl (mkR gz 0 nz 1 2 zo zo) ?_)))))));rintro _ w99 ⟨rfl, hw99⟩;replace hw99 := hw99.symm;subst hw99;refine aF rfl rfl (aG (aE (aD (aB (aA rfl rfl (aA rfl rfl (aA rfl rfl ?_)))))))
    have e0 : two64 X 0 = X := by simp [two64]; omega
    have ed := Nat.div_le_self X y;refine aR rfl rfl cf160 rfl rfl (divWVW1 gz fz hz gx X y (by have := hx 0 zo; simp only [ug, e0] at this; exact this) h0 hy h.2) ?_;rintro _ w1 ⟨rfl, hc0, hs⟩
    have e1 : two64 (X / y) 0 = X / y := by simp [two64]; omega
    have hr : Rd w1 gz 0 1 (ug (two64 (X / y))) := fun i hi => by
     obtain rfl : i = 0 := by omega
     simp only [ug, e1];exact hc0
    replace hS := hS.trans hs;refine aF rfl rfl (aG (aE (aD (aB (aA rfl rfl (aR rfl rfl mZ rfl rfl (rA gz 0 1 2 (two64 (X / y)) hr zo zo) ?_))))));rintro _ w99 ⟨hw99, k, hk, rfl, hU, hun⟩;replace hw99 := hw99.symm;subst hw99;refine aF rfl rfl (aG (aE (aZ rfl rfl ?_)));refine ⟨_, rfl, ⟨k, two64 (X / y), .inr ⟨gz, 0, 2, rfl, rfl, Nat.lt_of_lt_of_le hz.lt hS.size, by omega, fun i hi => hr i zw⟩, fun i _ => (kN (X := X / y) zw).2.2 i, hU, hun.trans (by simp [un, e1])⟩, hS⟩
set_option maxHeartbeats 400000 in
theorem divW4 {w : World} (gz nz : Nat) (fz : Nat → Value) (hz : Row w gz 150 2 fz) (gx X y : Nat) (hX : X < 340282366920938463463374607431768211456) (h0 : 0 < y) (hy : y < 18446744073709551616) (hx : Rd w gx 0 2 (ug (two64 X))) (hgx : gx < w.heap.size) (hc : y ≠ 1) (h : 18446744073709551616 ≤ X) :
 Ret Tryz.prog 126 #[.slice (some ⟨gz, 0, none⟩) nz 2, .slice (some ⟨gx, 0, none⟩) 2 2, .int .u64 (y : Nat)] w fun v w' => ∃ q, v = .tuple #[q, .int .u64 ((X % y : Nat) : Int)] ∧ Gn w' (fun g => g = gz) q (X / y) ∧ Same [gz] w w' := by
 have hS := Same.refl [gz] w;refine aS f126 n126 rfl rfl (aD (aB (aF rfl rfl (aF rfl rfl (aG (aE (aD (aB (aA rfl rfl (bB rfl u126 rfl (aF rfl rfl (aG (aE (aD (bN (aD (aB (aA rfl rfl (aI rfl rfl rfl rfl (aF rfl rfl (aG (aE ?_))))))))))))))))))))));refine aK rfl (fun h543 => ?_) (fun h543 => ?_)
 ·first | (simp at h543; done) | (simp at h543; omega)
 ·simp only [beq_eq_false_iff_ne, ne_eq] at h543;refine aD (aB (aA rfl rfl (aI rfl rfl rfl rfl (aF rfl rfl (aG (aE ?_))))));refine aK rfl (fun h545 => ?_) (fun h545 => ?_)
  ·first | (simp at h545; done) | (simp at h545; omega)
  ·simp only [beq_eq_false_iff_ne, ne_eq] at h545;refine aD (aB (aA rfl rfl (aI rfl rfl rfl rfl (aF rfl rfl (aG (aE ?_))))));refine aK rfl (fun h548 => ?_) (fun h548 => ?_)
   ·first | (simp at h548; done) | (simp at h548; omega)
   ·simp only [beq_eq_false_iff_ne, ne_eq] at h548;refine aX (cQ (aE (aD (aB (aA rfl rfl (aA rfl rfl (aR rfl rfl kC rfl rfl (mkR gz 0 nz 2 2 zo zo) ?_)))))));rintro _ w99 ⟨rfl, hw99⟩;replace hw99 := hw99.symm;subst hw99;refine aF rfl rfl (aG (aE (aD (aB (aA rfl rfl (aA rfl rfl (aA rfl rfl ?_)))))));have ed := Nat.div_le_self X y;have hl := (kN hX).2.2;have hxx := sX (X := X);refine aR rfl rfl cf160 rfl rfl (divWVW2 gz fz hz gx (two64 X 1) (two64 X 0) y (hx 0 zo) (hx 1 zo) hgx h0 hy (hl 0) (hl 1)) ?_;rintro _ w1 ⟨rfl, hr, hs⟩;rw [hxx] at hr ⊢;replace hS := hS.trans hs;refine aF rfl rfl (aG (aE (aD (aB (aA rfl rfl (aR rfl rfl mZ rfl rfl (rA gz 0 2 2 (two64 (X / y)) hr zo zo) ?_))))));rintro _ w99 ⟨hw99, k, hk, rfl, hU, hun⟩;replace hw99 := hw99.symm;subst hw99;refine aF rfl rfl (aG (aE (aZ rfl rfl ?_)));refine ⟨_, rfl, ⟨k, two64 (X / y), .inr ⟨gz, 0, 2, rfl, rfl, Nat.lt_of_lt_of_le hz.lt hS.size, hk, fun i hi => hr i zw⟩, fun i _ => (kN (X := X / y) zw).2.2 i, hU, hun.trans (jF _)⟩, hS⟩
theorem divW {w : World} (gz nz : Nat) (fz : Nat → Value) (hz : Row w gz 150 2 fz) (gx X y : Nat) (hX : X < 340282366920938463463374607431768211456) (h0 : 0 < y) (hy : y < 18446744073709551616) (hx : Rd w gx 0 2 (ug (two64 X))) (hgx : gx < w.heap.size) :
 Ret Tryz.prog 126 #[.slice (some ⟨gz, 0, none⟩) nz 2, .slice (some ⟨gx, 0, none⟩) (wl X) 2, .int .u64 (y : Nat)] w (fun v w' => ∃ q, v = .tuple #[q, .int .u64 ((X % y : Nat) : Int)] ∧ Gn w' (fun g => g = gz) q (X / y) ∧ Same [gz] w w') := by
 by_cases hc : y = 1
 ·exact divW1 gz nz fz hz gx X y hX h0 hy hx hgx hc
 ·rcases (show X = 0 ∨ 0 < X ∧ X < 18446744073709551616 ∨ 18446744073709551616 ≤ X by omega) with h | h | h
  ·rw [show wl X = 0 by unfold wl; rw [if_pos h]];exact divW2 gz nz fz hz gx X y hX h0 hy hx hgx hc h
  ·rw [show wl X = 1 by unfold wl; rw [if_neg zw, if_pos h.2]];exact divW3 gz nz fz hz gx X y hX h0 hy hx hgx hc h
  ·rw [show wl X = 2 by unfold wl; rw [if_neg zw, if_neg zw]];exact divW4 gz nz fz hz gx X y hX h0 hy hx hgx hc h
end Go.Proofs.YtccicbpeajdjgaaGreatDoor.Vm
