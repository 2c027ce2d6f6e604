/- Wide integers: sign, order, quotient, powers. -/
import Derived.Test.YtccicbpeajdjgaaGreatDoorQVm
import Derived.Test.YtccicbpeajdjgaaGreatDoorQSf
set_option linter.unusedVariables false
set_option linter.unusedSimpArgs false
namespace Go.Proofs.YtccicbpeajdjgaaGreatDoor.Vm
open Go Mix Go.RowKit Wd
abbrev f28 := @Tryz.func28
abbrev n28 := @Tryz.ntmps28
set_option maxRecDepth 20000
theorem kU {a : Nat → Nat} {n : Nat} (h : Nm a n) (h0 : bn a n = 0) : n = 0 := by
 have := h.len (k := 0) (by rw [h0]; decide);omega
theorem iV {a : Nat → Nat} {n : Nat} (h0 : bn a n ≠ 0) : 0 < n := by
 rcases Nat.eq_zero_or_pos n with rfl | h
 ·exact absurd rfl h0
 ·exact h
theorem kZ (x y : Nat) : -1 ≤ cmpN x y ∧ cmpN x y ≤ 1 := by
 unfold cmpN
 repeat' split
 all_goals omega
def sgn (x : Int) : Int := if x < 0 then -1 else if x = 0 then 0 else 1
theorem qP {x : Int} (h : x < 0) : sgn x = -1 := by unfold sgn; rw [if_pos h]
theorem oJ {x : Int} (h : x = 0) : sgn x = 0 := by subst h; rfl
theorem sZ {x : Int} (h : 0 < x) : sgn x = 1 := by unfold sgn; rw [if_neg zw, if_neg zw]
theorem cf21 (us : Array Value) (w : World) : (callFunc 21 us).run Tryz.prog w = .ok (.enter 21 us) w := by kernel_rfl
set_option maxHeartbeats 400000 in
theorem sign1 {w : World} (s : Value) (x : Int) (h1 : Mz w (fun g => g < w.heap.size) s x.natAbs) (hx : x.natAbs < topN) (hc : x < 0) :
 Ret Tryz.prog 9 #[.agg #[.bool true, s]] w fun v w' => v = .int .i64 (sgn x) ∧ Same [] w w' := by
 have hS := Same.refl [] w;obtain ⟨H, hH⟩ : ∃ H, H = w.heap.size := ⟨_, rfl⟩;have hw0 := Nat.le_of_eq hH;rw [← hH] at h1;obtain ⟨n, a, h1, ha, hNa, hba⟩ := h1;have hla := hNa.len (k := 32) (Nat.lt_of_le_of_lt (Nat.le_of_eq hba) hx);obtain ⟨A, c, rfl⟩ := h1.shape;refine aS Tryz.func9 Tryz.ntmps9 rfl rfl (aD (aB (cA rfl rfl rfl ?_)));intro w1 hn hs;replace hw0 := hs.le hw0;replace hS := hS.trans hs;obtain ⟨bL, hbL⟩ : ∃ x, x = w.heap.size := ⟨_, rfl⟩
 have hL : WB w1 bL true (.slice A n c) := by rw [hn, hbL]; exact WB.box _ _ _
 rw [← hbL];have hbLH : H ≤ bL := by omega
 have hw01 := hw0;have hbLl := hL.lt;clear hn hs;refine aF rfl rfl (aG (aE (aD (bN (aD (aB (aO rfl dQ rfl (aL rfl u4 rfl hL.c0 rfl (aF rfl rfl (aG (aE ?_)))))))))));refine aK rfl (fun h129 => ?_) (fun h129 => ?_)
 ·simp only at h129;exact aD (aB (aF rfl rfl (aG (aE (aZ rfl rfl ⟨(by rw [qP hc]; rfl), hS⟩)))))
 ·first | (cases h129; done) | (simp at h129; done)
set_option maxHeartbeats 400000 in
theorem sign2 {w : World} (s : Value) (x : Int) (h1 : Mz w (fun g => g < w.heap.size) s x.natAbs) (hx : x.natAbs < topN) (hc : x = 0) :
 Ret Tryz.prog 9 #[.agg #[.bool false, s]] w fun v w' => v = .int .i64 (sgn x) ∧ Same [] w w' := by
 have hS := Same.refl [] w;obtain ⟨H, hH⟩ : ∃ H, H = w.heap.size := ⟨_, rfl⟩;have hw0 := Nat.le_of_eq hH;rw [← hH] at h1;obtain ⟨n, a, h1, ha, hNa, hba⟩ := h1;have hla := hNa.len (k := 32) (Nat.lt_of_le_of_lt (Nat.le_of_eq hba) hx);obtain ⟨A, c, rfl⟩ := h1.shape;have hn0 : n = 0 := kU hNa (by rw [hba, hc]; rfl);refine aS Tryz.func9 Tryz.ntmps9 rfl rfl (aD (aB (cA rfl rfl rfl ?_)));intro w1 hn hs;replace hw0 := hs.le hw0;replace hS := hS.trans hs;obtain ⟨bL, hbL⟩ : ∃ x, x = w.heap.size := ⟨_, rfl⟩
 have hL : WB w1 bL false (.slice A n c) := by rw [hn, hbL]; exact WB.box _ _ _
 rw [← hbL];have hbLH : H ≤ bL := by omega
 have hw01 := hw0;have hbLl := hL.lt;clear hn hs;refine aF rfl rfl (aG (aE (aD (bN (aD (aB (aO rfl dQ rfl (aL rfl u4 rfl hL.c0 rfl (aF rfl rfl (aG (aE ?_)))))))))));refine aK rfl (fun h129 => ?_) (fun h129 => ?_)
 ·first | (cases h129; done) | (simp at h129; done)
 ·simp only at h129;refine aD (aB (aO rfl dM rfl (aL rfl u27 rfl hL.c1 rfl (bB rfl u27 rfl (aI rfl rfl rfl rfl (aF rfl rfl (aG (aE ?_))))))));refine aK rfl (fun h131 => ?_) (fun h131 => ?_)
  ·simp only [beq_iff_eq] at h131;exact aD (aB (aF rfl rfl (aG (aE (aZ rfl rfl ⟨(by rw [oJ hc]; rfl), hS⟩)))))
  ·simp only [beq_eq_false_iff_ne, ne_eq] at h131;omega
set_option maxHeartbeats 400000 in
theorem sign3 {w : World} (s : Value) (x : Int) (h1 : Mz w (fun g => g < w.heap.size) s x.natAbs) (hx : x.natAbs < topN) (hc : 0 < x) :
 Ret Tryz.prog 9 #[.agg #[.bool false, s]] w fun v w' => v = .int .i64 (sgn x) ∧ Same [] w w' := by
 have hS := Same.refl [] w;obtain ⟨H, hH⟩ : ∃ H, H = w.heap.size := ⟨_, rfl⟩;have hw0 := Nat.le_of_eq hH;rw [← hH] at h1;obtain ⟨n, a, h1, ha, hNa, hba⟩ := h1;have hla := hNa.len (k := 32) (Nat.lt_of_le_of_lt (Nat.le_of_eq hba) hx);obtain ⟨A, c, rfl⟩ := h1.shape;have hn0 : 0 < n := iV (a := a) (by rw [hba]; omega);refine aS Tryz.func9 Tryz.ntmps9 rfl rfl (aD (aB (cA rfl rfl rfl ?_)));intro w1 hn hs;replace hw0 := hs.le hw0;replace hS := hS.trans hs;obtain ⟨bL, hbL⟩ : ∃ x, x = w.heap.size := ⟨_, rfl⟩
 have hL : WB w1 bL false (.slice A n c) := by rw [hn, hbL]; exact WB.box _ _ _
 rw [← hbL];have hbLH : H ≤ bL := by omega
 have hw01 := hw0;have hbLl := hL.lt;clear hn hs;refine aF rfl rfl (aG (aE (aD (bN (aD (aB (aO rfl dQ rfl (aL rfl u4 rfl hL.c0 rfl (aF rfl rfl (aG (aE ?_)))))))))));refine aK rfl (fun h129 => ?_) (fun h129 => ?_)
 ·first | (cases h129; done) | (simp at h129; done)
 ·simp only at h129;refine aD (aB (aO rfl dM rfl (aL rfl u27 rfl hL.c1 rfl (bB rfl u27 rfl (aI rfl rfl rfl rfl (aF rfl rfl (aG (aE ?_))))))));refine aK rfl (fun h131 => ?_) (fun h131 => ?_)
  ·simp only [beq_iff_eq] at h131;omega
  ·simp only [beq_eq_false_iff_ne, ne_eq] at h131;exact aX (cQ (aE (aD (aB (aF rfl rfl (aG (aE (aZ rfl rfl ⟨(by rw [sZ hc]; rfl), hS⟩))))))))
theorem fR {w : World} (s : Value) (x : Int) (h1 : Mz w (fun g => g < w.heap.size) s x.natAbs) (hx : x.natAbs < topN) : Ret Tryz.prog 9 #[.agg #[.bool (decide (x < 0)), s]] w fun v w' => v = .int .i64 (sgn x) ∧ Same [] w w' := by
 rcases (show x < 0 ∨ x = 0 ∨ 0 < x by omega) with h | h | h
 ·have h9 := sign1 s x h1 hx h
  simpa [h] using h9
 ·have h9 := sign2 s x h1 hx h
  simpa [h] using h9
 ·have h9 := sign3 s x h1 hx h
  simpa [show ¬ x < 0 by omega] using h9
set_option maxHeartbeats 400000 in
theorem cmp1 {w : World} (A B : Option Addr) (n c m d : Nat) (a b : Nat → Nat) (h1 : Mg w (fun g => g < w.heap.size) (.slice A n c) n a) (h2 : Mg w (fun g => g < w.heap.size) (.slice B m d) m b) (ha : ∀ i, i < n → a i < 4294967296) (hb : ∀ i, i < m → b i < 4294967296) (hla : n ≤ 32) (hlb : m ≤ 32) (hNa : Nm a n) (hNb : Nm b m) :
 Ret Tryz.prog 28 #[.agg #[.bool true, .slice A n c], .agg #[.bool false, .slice B m d]] w fun v w' => v = .int .i64 (-1) ∧ Same [] w w' := by
 have hS := Same.refl [] w;obtain ⟨H, hH⟩ : ∃ H, H = w.heap.size := ⟨_, rfl⟩;have hw0 := Nat.le_of_eq hH;rw [← hH] at h1 h2;have hcr := kZ (bn a n) (bn b m);refine aS f28 n28 rfl rfl (aD (aB (cA rfl rfl rfl ?_)));intro w1 hn hs;replace hw0 := hs.le hw0;replace hS := hS.trans hs;obtain ⟨bL, hbL⟩ : ∃ x, x = w.heap.size := ⟨_, rfl⟩
 have hL : WB w1 bL true (.slice A n c) := by rw [hn, hbL]; exact WB.box _ _ _
 rw [← hbL];have hbLH : H ≤ bL := by omega
 have hw01 := hw0;have hbLl := hL.lt;clear hn hs;refine cA rfl rfl rfl ?_;intro w2 hn hs;replace hw0 := hs.le hw0;replace hS := hS.trans hs;replace hL := hL.same hs;obtain ⟨bQ, hbQ⟩ : ∃ x, x = w1.heap.size := ⟨_, rfl⟩
 have hQ : WB w2 bQ false (.slice B m d) := by rw [hn, hbQ]; exact WB.box _ _ _
 rw [← hbQ];have hbQH : H ≤ bQ := by omega
 have hbLQ : bL < bQ := by omega
 have hw02 := hw0;have hbQl := hQ.lt;clear hn hs;refine aF rfl rfl (aG (aE (aD (bN (aD (aB (aO rfl dQ rfl (aL rfl u4 rfl hL.c0 rfl (aA rfl rfl (aJ rfl rfl rfl (aO rfl dQ rfl (aJ rfl rfl rfl (aL rfl u4 rfl hQ.c0 rfl (aJ rfl rfl rfl (dL rfl rfl (cH rfl rfl rfl rfl (aF rfl rfl (aG (aE ?_)))))))))))))))))));refine aK rfl (fun h140 => ?_) (fun h140 => ?_)
 ·exact aD (aB (aF rfl rfl (aG (aE (aZ rfl rfl ⟨rfl, hS⟩)))))
 ·first | (cases h140; done) | (simp at h140; done)
set_option maxHeartbeats 400000 in
theorem cmp2 {w : World} (A B : Option Addr) (n c m d : Nat) (a b : Nat → Nat) (h1 : Mg w (fun g => g < w.heap.size) (.slice A n c) n a) (h2 : Mg w (fun g => g < w.heap.size) (.slice B m d) m b) (ha : ∀ i, i < n → a i < 4294967296) (hb : ∀ i, i < m → b i < 4294967296) (hla : n ≤ 32) (hlb : m ≤ 32) (hNa : Nm a n) (hNb : Nm b m) :
 Ret Tryz.prog 28 #[.agg #[.bool false, .slice A n c], .agg #[.bool true, .slice B m d]] w fun v w' => v = .int .i64 (1) ∧ Same [] w w' := by
 have hS := Same.refl [] w;obtain ⟨H, hH⟩ : ∃ H, H = w.heap.size := ⟨_, rfl⟩;have hw0 := Nat.le_of_eq hH;rw [← hH] at h1 h2;have hcr := kZ (bn a n) (bn b m);refine aS f28 n28 rfl rfl (aD (aB (cA rfl rfl rfl ?_)));intro w1 hn hs;replace hw0 := hs.le hw0;replace hS := hS.trans hs;obtain ⟨bL, hbL⟩ : ∃ x, x = w.heap.size := ⟨_, rfl⟩
 have hL : WB w1 bL false (.slice A n c) := by rw [hn, hbL]; exact WB.box _ _ _
 rw [← hbL];have hbLH : H ≤ bL := by omega
 have hw01 := hw0;have hbLl := hL.lt;clear hn hs;refine cA rfl rfl rfl ?_;intro w2 hn hs;replace hw0 := hs.le hw0;replace hS := hS.trans hs;replace hL := hL.same hs;obtain ⟨bQ, hbQ⟩ : ∃ x, x = w1.heap.size := ⟨_, rfl⟩
 have hQ : WB w2 bQ true (.slice B m d) := by rw [hn, hbQ]; exact WB.box _ _ _
 rw [← hbQ];have hbQH : H ≤ bQ := by omega
 have hbLQ : bL < bQ := by omega
 have hw02 := hw0;have hbQl := hQ.lt;clear hn hs;refine aF rfl rfl (aG (aE (aD (bN (aD (aB (aO rfl dQ rfl (aL rfl u4 rfl hL.c0 rfl (aA rfl rfl (aW rfl rfl rfl rfl (aW rfl rfl rfl rfl (aW rfl rfl rfl rfl (cE rfl rfl rfl rfl (aF rfl rfl (aG (aE ?_))))))))))))))));refine aK rfl (fun h140 => ?_) (fun h140 => ?_)
 ·first | (cases h140; done) | (simp at h140; done)
 ·simp only at h140;refine aD (aB (aO rfl dQ rfl (aL rfl u4 rfl hL.c0 rfl (dL rfl rfl (aA rfl rfl (aJ rfl rfl rfl (aO rfl dQ rfl (aJ rfl rfl rfl (aL rfl u4 rfl hQ.c0 rfl (cH rfl rfl rfl rfl (aF rfl rfl (aG (aE ?_)))))))))))));refine aK rfl (fun h142 => ?_) (fun h142 => ?_)
  ·simp only at h142;exact aD (aB (aF rfl rfl (aG (aE (aZ rfl rfl ⟨rfl, hS⟩)))))
  ·first | (cases h142; done) | (simp at h142; done)
set_option maxHeartbeats 400000 in
theorem cmp3 {w : World} (A B : Option Addr) (n c m d : Nat) (a b : Nat → Nat) (h1 : Mg w (fun g => g < w.heap.size) (.slice A n c) n a) (h2 : Mg w (fun g => g < w.heap.size) (.slice B m d) m b) (ha : ∀ i, i < n → a i < 4294967296) (hb : ∀ i, i < m → b i < 4294967296) (hla : n ≤ 32) (hlb : m ≤ 32) (hNa : Nm a n) (hNb : Nm b m) :
 Ret Tryz.prog 28 #[.agg #[.bool true, .slice A n c], .agg #[.bool true, .slice B m d]] w fun v w' => v = .int .i64 (-cmpN (bn a n) (bn b m)) ∧ Same [] w w' := by
 have hS := Same.refl [] w;obtain ⟨H, hH⟩ : ∃ H, H = w.heap.size := ⟨_, rfl⟩;have hw0 := Nat.le_of_eq hH;rw [← hH] at h1 h2;have hcr := kZ (bn a n) (bn b m);refine aS f28 n28 rfl rfl (aD (aB (cA rfl rfl rfl ?_)));intro w1 hn hs;replace hw0 := hs.le hw0;replace hS := hS.trans hs;replace h1 := h1.same hs;replace h2 := h2.same hs;obtain ⟨bL, hbL⟩ : ∃ x, x = w.heap.size := ⟨_, rfl⟩
 have hL : WB w1 bL true (.slice A n c) := by rw [hn, hbL]; exact WB.box _ _ _
 rw [← hbL];have hbLH : H ≤ bL := by omega
 have hw01 := hw0;have hbLl := hL.lt;clear hn hs;refine cA rfl rfl rfl ?_;intro w2 hn hs;replace hw0 := hs.le hw0;replace hS := hS.trans hs;replace h1 := h1.same hs;replace hL := hL.same hs;replace h2 := h2.same hs;obtain ⟨bQ, hbQ⟩ : ∃ x, x = w1.heap.size := ⟨_, rfl⟩
 have hQ : WB w2 bQ true (.slice B m d) := by rw [hn, hbQ]; exact WB.box _ _ _
 rw [← hbQ];have hbQH : H ≤ bQ := by omega
 have hbLQ : bL < bQ := by omega
 have hw02 := hw0;have hbQl := hQ.lt;clear hn hs;refine aF rfl rfl (aG (aE (aD (bN (aD (aB (aO rfl dQ rfl (aL rfl u4 rfl hL.c0 rfl (aA rfl rfl (aJ rfl rfl rfl (aO rfl dQ rfl (aJ rfl rfl rfl (aL rfl u4 rfl hQ.c0 rfl (aJ rfl rfl rfl (dL rfl rfl (cH rfl rfl rfl rfl (aF rfl rfl (aG (aE ?_)))))))))))))))))));refine aK rfl (fun h140 => ?_) (fun h140 => ?_)
 ·first | (cases h140; done) | (simp at h140; done)
 ·refine aD (aB (aO rfl dQ rfl (aL rfl u4 rfl hL.c0 rfl (dL rfl rfl (aA rfl rfl (aW rfl rfl rfl rfl (aW rfl rfl rfl rfl (cE rfl rfl rfl rfl (aF rfl rfl (aG (aE ?_)))))))))));refine aK rfl (fun h142 => ?_) (fun h142 => ?_)
  ·first | (cases h142; done) | (simp at h142; done)
  ·simp only at h142;refine aD (aB (aO rfl dQ rfl (aL rfl u4 rfl hL.c0 rfl (aF rfl rfl (aG (aE ?_))))));refine aK rfl (fun h144 => ?_) (fun h144 => ?_)
   ·simp only at h144;refine aD (aB (aO rfl dM rfl (aL rfl u27 rfl hL.c1 rfl (aO rfl dM rfl (aL rfl u27 rfl hQ.c1 rfl (aR rfl rfl qE rfl rfl (jJ A B n c m d _ _ a b h1 h2 ha hb zw zw hNa hNb) ?_))))));rintro _ w3 ⟨rfl, hs⟩;replace hw0 := hs.le hw0;replace hS := hS.trans hs
    (refine wX rfl (aV ?_ ?_) rfl ?_; (omega); (omega))
    exact aF rfl rfl (aG (aE (aZ rfl rfl ⟨rfl, hS⟩)))
   ·first | (cases h144; done) | (simp at h144; done)
set_option maxHeartbeats 400000 in
theorem cmp4 {w : World} (A B : Option Addr) (n c m d : Nat) (a b : Nat → Nat) (h1 : Mg w (fun g => g < w.heap.size) (.slice A n c) n a) (h2 : Mg w (fun g => g < w.heap.size) (.slice B m d) m b) (ha : ∀ i, i < n → a i < 4294967296) (hb : ∀ i, i < m → b i < 4294967296) (hla : n ≤ 32) (hlb : m ≤ 32) (hNa : Nm a n) (hNb : Nm b m) :
 Ret Tryz.prog 28 #[.agg #[.bool false, .slice A n c], .agg #[.bool false, .slice B m d]] w fun v w' => v = .int .i64 (cmpN (bn a n) (bn b m)) ∧ Same [] w w' := by
 have hS := Same.refl [] w;obtain ⟨H, hH⟩ : ∃ H, H = w.heap.size := ⟨_, rfl⟩;have hw0 := Nat.le_of_eq hH;rw [← hH] at h1 h2;have hcr := kZ (bn a n) (bn b m);refine aS f28 n28 rfl rfl (aD (aB (cA rfl rfl rfl ?_)));intro w1 hn hs;replace hw0 := hs.le hw0;replace hS := hS.trans hs;replace h1 := h1.same hs;replace h2 := h2.same hs;obtain ⟨bL, hbL⟩ : ∃ x, x = w.heap.size := ⟨_, rfl⟩
 have hL : WB w1 bL false (.slice A n c) := by rw [hn, hbL]; exact WB.box _ _ _
 rw [← hbL];have hbLH : H ≤ bL := by omega
 have hw01 := hw0;have hbLl := hL.lt;clear hn hs;refine cA rfl rfl rfl ?_;intro w2 hn hs;replace hw0 := hs.le hw0;replace hS := hS.trans hs;replace h1 := h1.same hs;replace hL := hL.same hs;replace h2 := h2.same hs;obtain ⟨bQ, hbQ⟩ : ∃ x, x = w1.heap.size := ⟨_, rfl⟩
 have hQ : WB w2 bQ false (.slice B m d) := by rw [hn, hbQ]; exact WB.box _ _ _
 rw [← hbQ];have hbQH : H ≤ bQ := by omega
 have hbLQ : bL < bQ := by omega
 have hw02 := hw0;have hbQl := hQ.lt;clear hn hs;refine aF rfl rfl (aG (aE (aD (bN (aD (aB (aO rfl dQ rfl (aL rfl u4 rfl hL.c0 rfl (aA rfl rfl (aW rfl rfl rfl rfl (aW rfl rfl rfl rfl (aW rfl rfl rfl rfl (cE rfl rfl rfl rfl (aF rfl rfl (aG (aE ?_))))))))))))))));refine aK rfl (fun h140 => ?_) (fun h140 => ?_)
 ·first | (cases h140; done) | (simp at h140; done)
 ·simp only at h140;refine aD (aB (aO rfl dQ rfl (aL rfl u4 rfl hL.c0 rfl (dL rfl rfl (aA rfl rfl (aJ rfl rfl rfl (aO rfl dQ rfl (aJ rfl rfl rfl (aL rfl u4 rfl hQ.c0 rfl (cH rfl rfl rfl rfl (aF rfl rfl (aG (aE ?_)))))))))))));refine aK rfl (fun h142 => ?_) (fun h142 => ?_)
  ·first | (cases h142; done) | (simp at h142; done)
  ·simp only at h142;refine aD (aB (aO rfl dQ rfl (aL rfl u4 rfl hL.c0 rfl (aF rfl rfl (aG (aE ?_))))));refine aK rfl (fun h144 => ?_) (fun h144 => ?_)
   ·first | (cases h144; done) | (simp at h144; done)
   ·simp only at h144;refine aX (cQ (aE (aD (aB (aO rfl dM rfl (aL rfl u27 rfl hL.c1 rfl (aO rfl dM rfl (aL rfl u27 rfl hQ.c1 rfl (aR rfl rfl qE rfl rfl (jJ A B n c m d _ _ a b h1 h2 ha hb zw zw hNa hNb) ?_)))))))));rintro _ w3 ⟨rfl, hs⟩;replace hw0 := hs.le hw0;replace hS := hS.trans hs;exact aF rfl rfl (aG (aE (aZ rfl rfl ⟨rfl, hS⟩)))
theorem gN {w : World} (s : Value) (x : Int) (h1 : Mz w (fun g => g < w.heap.size) s x.natAbs) (hx : x.natAbs < topN) (t : Value) (y : Int) (h2 : Mz w (fun g => g < w.heap.size) t y.natAbs) (hy : y.natAbs < topN) : Ret Tryz.prog 28 #[.agg #[.bool (decide (x < 0)), s], .agg #[.bool (decide (y < 0)), t]] w fun v w' => v = .int .i64 (Rd.cmp x y) ∧ Same [] w w' := by
 obtain ⟨n, a, h1, ha, hNa, hba⟩ := h1;obtain ⟨m, b, h2, hb, hNb, hbb⟩ := h2;have hla := hNa.len (k := 32) (Nat.lt_of_le_of_lt (Nat.le_of_eq hba) hx);have hlb := hNb.len (k := 32) (Nat.lt_of_le_of_lt (Nat.le_of_eq hbb) hy);obtain ⟨A, c, rfl⟩ := h1.shape;obtain ⟨B, d, rfl⟩ := h2.shape
 by_cases hx0 : x < 0
 ·by_cases hy0 : y < 0
  ·have h9 := cmp3 A B n c m d a b h1 h2 ha hb hla hlb hNa hNb;rw [hba, hbb, cmp_neg x y hx0 hy0] at h9
   simpa only [hx0, hy0, decide_true] using h9
  ·have h9 := cmp1 A B n c m d a b h1 h2 ha hb hla hlb hNa hNb
   have h8 : Rd.cmp x y = -1 := by unfold Rd.cmp; rw [if_pos zw]
   rw [h8]
   simpa only [hx0, hy0, decide_true, decide_false] using h9
 ·by_cases hy0 : y < 0
  ·have h9 := cmp2 A B n c m d a b h1 h2 ha hb hla hlb hNa hNb
   have h8 : Rd.cmp x y = 1 := by unfold Rd.cmp; rw [if_neg zw, if_pos zw]
   rw [h8]
   simpa only [hx0, hy0, decide_true, decide_false] using h9
  ·have h9 := cmp4 A B n c m d a b h1 h2 ha hb hla hlb hNa hNb;rw [hba, hbb, cmp_pos x y hx0 hy0] at h9
   simpa only [hx0, hy0, decide_false] using h9
set_option maxHeartbeats 1200000 in
theorem eN {w : World} (s : Value) (x : Int) (h1 : Mz w (fun g => g < w.heap.size) s x.natAbs) (hx : x.natAbs < topN) (t : Value) (y : Int) (h2 : Mz w (fun g => g < w.heap.size) t y.natAbs) (hy : y.natAbs < topN) (hy0 : 0 < y) :
 Ret Tryz.prog 7 #[.agg #[.bool (decide (x < 0)), s], .agg #[.bool (decide (y < 0)), t]] w fun v w' => ∃ v1 v2, v = .tuple #[v1, v2] ∧ Wz w' (fun g => w.heap.size ≤ g) v1 (x.tdiv y) ∧ Wz w' (fun g => w.heap.size ≤ g) v2 (x.tmod y) ∧ Same [] w w' := by
 have hS := Same.refl [] w;obtain ⟨H, hH⟩ : ∃ H, H = w.heap.size := ⟨_, rfl⟩;have hw0 := Nat.le_of_eq hH;rw [← hH] at h1 h2 ⊢;obtain ⟨n, a, h1, ha, hNa, hba⟩ := h1;have hla := hNa.len (k := 32) (Nat.lt_of_le_of_lt (Nat.le_of_eq hba) hx);obtain ⟨A, c, rfl⟩ := h1.shape;obtain ⟨m, b, h2, hb, hNb, hbb⟩ := h2;have hlb := hNb.len (k := 32) (Nat.lt_of_le_of_lt (Nat.le_of_eq hbb) hy);obtain ⟨B, d, rfl⟩ := h2.shape;have hm0 : 0 < m := iV (a := b) (by rw [hbb]; omega);refine aS Tryz.func7 Tryz.ntmps7 rfl rfl (aD (aB (cA rfl rfl rfl ?_)));intro w1 hn hs;replace hw0 := hs.le hw0;replace hS := hS.trans hs;replace h1 := h1.same hs;replace h2 := h2.same hs;obtain ⟨bL, hbL⟩ : ∃ x, x = w.heap.size := ⟨_, rfl⟩
 have hL : WB w1 bL (decide (x < 0)) (.slice A n c) := by rw [hn, hbL]; exact WB.box _ _ _
 rw [← hbL];have hbLH : H ≤ bL := by omega
 have hw01 := hw0;have hbLl := hL.lt;clear hn hs;refine cA rfl rfl rfl ?_;intro w2 hn hs;replace hw0 := hs.le hw0;replace hS := hS.trans hs;replace h1 := h1.same hs;replace hL := hL.same hs;replace h2 := h2.same hs;obtain ⟨bQ, hbQ⟩ : ∃ x, x = w1.heap.size := ⟨_, rfl⟩
 have hQ : WB w2 bQ (decide (y < 0)) (.slice B m d) := by rw [hn, hbQ]; exact WB.box _ _ _
 rw [← hbQ];have hbQH : H ≤ bQ := by omega
 have hbLQ : bL < bQ := by omega
 have hw02 := hw0;have hbQl := hQ.lt;clear hn hs;refine bF dJ rfl rfl ?_;intro w3 hn hs;obtain ⟨bR, hbR⟩ : ∃ x, x = w2.heap.size := ⟨_, rfl⟩
 have hR0 : Row w3 bR 29 2 (fun i => (#[.bool false, .slice none 0 0] : Array Value).getD i undef) := by
  rw [hn, hbR];exact Row.alloc _ _ _
 rw [← hbR];have hbRH : H ≤ bR := by omega
 have hbLR : ∀ b, b < w2.heap.size → b < bR := fun b h => by omega
 replace hw0 := hs.le hw0;replace hS := hS.trans hs;replace h1 := h1.same hs;replace hL := hL.same hs;replace h2 := h2.same hs;replace hQ := hQ.same hs;have hbRl := hR0.lt;have hbQb := hbLR bQ hbQl;have hbLb : bL < bR := by omega
 clear hn hs;refine bF dJ rfl rfl ?_;intro w4 hn hs;obtain ⟨bT, hbT⟩ : ∃ x, x = w3.heap.size := ⟨_, rfl⟩
 have hT0 : Row w4 bT 29 2 (fun i => (#[.bool false, .slice none 0 0] : Array Value).getD i undef) := by
  rw [hn, hbT];exact Row.alloc _ _ _
 rw [← hbT];have hbTH : H ≤ bT := by omega
 have hbRT : bR < bT := by omega
 replace hw0 := hs.le hw0;replace hS := hS.trans hs;replace h1 := h1.same hs;replace hL := hL.same hs;replace hR0 := hR0.same hs;replace h2 := h2.same hs;replace hQ := hQ.same hs;have hTl0 := hT0.lt;have hbQT : bQ < bT := by omega
 have hbLT : bL < bT := by omega
 clear hn hs;refine aG (aE (aD (aB (aO rfl dM rfl (aL rfl u27 rfl hL.c1 rfl (aO rfl dM rfl (aL rfl u27 rfl hQ.c1 rfl ?_)))))));have hTl := hT0.lt;refine aR rfl rfl cf21 rfl rfl (rB A B n c m d _ _ a b h1 h2 ha hb zw zw (fun g hg => Nat.lt_of_lt_of_le hg hw0) (fun g hg => Nat.lt_of_lt_of_le hg hw0) hNb hm0 zw) ?_;rintro _ w5 ⟨u1, u2, rfl, ⟨k1, o1, hq, ho1, hN1, hbo1⟩, ⟨k2, o2, hr, ho2, hN2, hbo2⟩, hs⟩;have hk1 : k1 ≤ 32 := hN1.len (k := 32) (by rw [hbo1, hba]; exact Nat.lt_of_le_of_lt (Nat.div_le_self _ _) hx);have hk2 : k2 ≤ 32 := hN2.len (k := 32) (by rw [hbo2, hba]; exact Nat.lt_of_le_of_lt (Nat.mod_le _ _) hx);replace hq := hq.mono (J := fun g => bT < g ∧ g < w5.heap.size) (fun g g1 g2 => ⟨by omega, g2⟩);replace hr := hr.mono (J := fun g => bT < g ∧ g < w5.heap.size) (fun g g1 g2 => ⟨by omega, g2⟩);have hw9 : w5.heap.size ≤ w5.heap.size := Nat.le_refl _;obtain ⟨A9, c9, rfl⟩ := hq.shape;obtain ⟨B9, d9, rfl⟩ := hr.shape;replace hw0 := hs.le hw0;replace hS := hS.trans hs;replace hL := hL.same hs;replace hR0 := hR0.same hs;replace hQ := hQ.same hs;replace hT0 := hT0.same hs;refine aA rfl rfl (aY rfl rfl rfl (aY rfl rfl rfl (aF rfl rfl (aF rfl rfl (aG (aE (aD ?_)))))));replace hw0 := (aC _).le hw0;replace hS := hS.trans (aC _);replace hL := hL.same (aC _);replace hR0 := hR0.same (aC _);replace hr := hr.same (aC _);replace hQ := hQ.same (aC _);replace hT0 := hT0.same (aC _);replace hq := hq.same (aC _);replace hw9 := (aC _).le hw9;refine cX (fun wS => WB wS bL (decide (x < 0)) (.slice A n c) ∧ WB wS bQ (decide (y < 0)) (.slice B m d)) [] (.cons 0 (.cons 1 (.cons 2 (.cons 3 (.cons 4 (.cons 5 (.cons 7 (.cons 8 (.cons 9 (.cons 6 (.cons 10 (.cons 11 (.cons 12 .nil))))))))))))) cL zy ⟨hL, hQ⟩ (cF rfl aH rfl dQ rfl (cN rfl aH rfl u4 rfl (fun w9 h9 => h9.1.c0) rfl (cF rfl aH rfl dQ rfl (cN rfl aH rfl u4 rfl (fun w9 h9 => h9.2.c0) rfl (lE rfl aH rfl rfl u4 rfl (bH rfl aH rfl rfl (cF rfl aH rfl dQ rfl (cN rfl aH rfl u4 rfl (fun w9 h9 => h9.1.c0) rfl (bH rfl aH rfl rfl ?_)))))))));have hTl := hT0.lt;refine bW rfl aH rfl rfl lW rfl rfl (jD (!((decide (x < 0)) == (decide (y < 0)))) A9 k1 c9 _ o1 hq ho1 zw (fun g hg => Nat.lt_of_lt_of_le hg.2 hw9)) ?_;rintro v9 w6 ⟨hz9, hs⟩;rw [hbo1, hba, hbb, qQ x hy0] at hz9;obtain ⟨s9, rfl, hmz⟩ := hz9;replace hmz := hmz.mono (J := fun g => bT < g) (fun g h _ => h.1);replace hw0 := hs.le hw0;replace hS := hS.trans hs;replace hL := hL.same hs;replace hR0 := hR0.same hs;replace hr := hr.same hs;replace hQ := hQ.same hs;replace hT0 := hT0.same hs;replace hw9 := hs.le hw9;refine aQ rfl ⟨hL, hQ⟩ (bW rfl aH rfl rfl lW rfl rfl (jD (decide (x < 0)) B9 k2 d9 _ o2 hr ho2 zw (fun g hg => Nat.lt_of_lt_of_le hg.2 hw9)) ?_);rintro v9 w7 ⟨hz9, hs⟩;rw [hbo2, hba, hbb, uP x hy0] at hz9;obtain ⟨s8, rfl, hmz2⟩ := hz9;replace hmz2 := hmz2.mono (J := fun g => bT < g) (fun g h _ => h.1);replace hw0 := hs.le hw0;replace hS := hS.trans hs;replace hL := hL.same hs;replace hR0 := hR0.same hs;replace hmz := hmz.same hs;replace hQ := hQ.same hs;replace hT0 := hT0.same hs;replace hw9 := hs.le hw9;refine aQ rfl ⟨hL, hQ⟩ (bA rfl aH (n := 2) rfl rfl cI rfl (bJ hmz.one) hR0 zo ?_);intro w8 hn hs;have hR : WB w8 bR (decide _) s9 := hn.congr fun i hi => aN (g := wF _ _) hi;replace hS := hS.trans hs;replace hw0 := hs.le hw0;clear hn;replace hL := hL.same hs;replace hQ := hQ.same hs;replace hT0 := hT0.same hs;replace hmz := hmz.same hs;replace hmz2 := hmz2.same hs;refine aQ rfl ⟨hL, hQ⟩ (bA rfl aH (n := 2) rfl rfl cI rfl (bJ hmz2.one) hT0 zo ?_);intro w9 hn hs;have hT : WB w9 bT (decide _) s8 := hn.congr fun i hi => aN (g := wF _ _) hi;replace hS := hS.trans hs;replace hw0 := hs.le hw0;clear hn;replace hL := hL.same hs;replace hQ := hQ.same hs;replace hR := hR.same hs;replace hmz := hmz.same hs;replace hmz2 := hmz2.same hs;exact aQ rfl ⟨hL, hQ⟩ (cO (aE (nG rfl rfl rfl u29 rfl cI hR.rd hT.rd ⟨_, _, rfl, ⟨s9, rfl, hmz.mono fun g h _ => by omega⟩, ⟨s8, rfl, hmz2.mono fun g h _ => by omega⟩, hS⟩)))
end Go.Proofs.YtccicbpeajdjgaaGreatDoor.Vm
namespace Go.Proofs.YtccicbpeajdjgaaGreatDoor.Vm
open Go Mix Go.RowKit Wd
set_option maxRecDepth 20000
theorem nV : ∀ n, bn (fun _ => 0) n = 0
 | 0 => rfl
 | n + 1 => by rw [eG, nV n]; simp
theorem two_pow (p : Nat) : bn (st (fun _ => 0) (p / 32) (2 ^ (p % 32))) (p / 32 + 1) = 2 ^ p := by
 have h := sM (a := fun _ => 0) (d := 2 ^ (p % 32)) (show p / 32 < p / 32 + 1 by omega);rw [nV, Nat.zero_mul, Nat.add_zero, Nat.zero_add, wN, ← Nat.pow_add] at h;rw [h]
 congr 1
 omega
theorem tF {i : Nat} (h : i ≤ 100) : 10 ^ i < topN := Nat.lt_of_le_of_lt (Nat.pow_le_pow_right zo h) (by unfold topN; decide)
set_option exponentiation.threshold 2000 in
theorem gX {i : Nat} (h : i ≤ 1000) : 2 ^ i < topN := by
 unfold topN;rw [wN];exact Nat.pow_lt_pow_right zo zw
theorem cf11 (us : Array Value) (w : World) : (callFunc 11 us).run Tryz.prog w = .ok (.enter 11 us) w := by kernel_rfl
theorem qF (us : Array Value) (w : World) : (callFunc 23 us).run Tryz.prog w = .ok (.enter 23 us) w := by kernel_rfl
set_option maxHeartbeats 800000 in
theorem nI {w : World} (p : Nat) (hp : p ≤ 1000) :
 Ret Tryz.prog 61 #[.int .i64 (p : Nat)] w fun v w' => Wz w' (fun g => w.heap.size ≤ g) v (((2 ^ p : Nat) : Int)) ∧ Same [] w w' := by
 have hS := Same.refl [] w;obtain ⟨H, hH⟩ : ∃ H, H = w.heap.size := ⟨_, rfl⟩;have hw0 := Nat.le_of_eq hH;rw [← hH];refine aS Tryz.func61 Tryz.ntmps61 rfl rfl (aD (aB (bF dJ rfl rfl ?_)));intro w1 hn hs;obtain ⟨bR, hbR⟩ : ∃ x, x = w.heap.size := ⟨_, rfl⟩
 have hR0 : Row w1 bR 29 2 (fun i => (#[.bool false, .slice none 0 0] : Array Value).getD i undef) := by
  rw [hn, hbR];exact Row.alloc _ _ _
 rw [← hbR];have hbRH : H ≤ bR := by omega
 replace hw0 := hs.le hw0;replace hS := hS.trans hs;have hbRl := hR0.lt;clear hn hs;refine aG (aE (aD (aB (aA rfl rfl (aI rfl rfl (gM (z := ((p / 32 : Nat) : Int)) zo (jI (x := p) (c := 32) rfl zw)) rfl ?_)))))
 (refine aI rfl rfl (cJ (aV ?_ ?_)) rfl ?_; (omega); (omega))
 obtain ⟨bM, hbM⟩ : ∃ x, x = w1.heap.size := ⟨_, rfl⟩;refine jB (n := p / 32 + 1) rfl rfl u27 mR rfl zo zw rfl rfl ?_;rw [← hbM];intro w2 hM hs;replace hw0 := hs.le hw0;replace hS := hS.trans hs;replace hR0 := hR0.same hs;clear hs;refine aF rfl rfl (aG (aE (aD (aB (aA rfl rfl (aA rfl rfl (aI rfl rfl (gM (z := ((p / 32 : Nat) : Int)) zo (jI (x := p) (c := 32) rfl zw)) rfl (aA rfl rfl (aI rfl rfl (iJ (z := ((p % 32 : Nat) : Int)) zo (kH (x := p) (c := 32) rfl)) rfl (eQ rfl rfl zw (z := ((2 ^ (p % 32) : Nat) : Int)) (mL zw) rfl (cC rfl rfl u27 eC zw zw rfl (cM rfl rfl rfl eC (hM.cell zw) (hM.fz _) ?_))))))))))));intro w3 hn hs;replace hM := hM.set' hn;replace hw0 := hs.le hw0;replace hS := hS.trans hs;replace hR0 := hR0.same hs;clear hn hs;refine aG (aE (aD (aB (aA rfl rfl ?_))));have hbMH : H ≤ bM := by omega
 replace hM := Row.put (e := fun _ => 0) (i := p / 32) hM zw;have hMl := hM.lt;have hRl := hR0.lt;have hbRM : bR < bM := by omega
 have hmg := hM.mg (Nat.le_refl _) (fun i hi => rfl);refine aR rfl rfl lW rfl rfl (jD false (some ⟨bM, 0, none⟩) (p / 32 + 1) (p / 32 + 1) _ _ hmg (pQ (fun _ _ => by decide) (Nat.lt_of_lt_of_le (Nat.pow_lt_pow_right zo (Nat.mod_lt p zo)) zo)) zw (fun g hg => by subst hg; exact hMl)) ?_;rintro v9 w4 ⟨hz9, hs⟩;rw [two_pow] at hz9;obtain ⟨s9, rfl, hmz⟩ := hz9;replace hmz := hmz.mono (J := fun g => bR < g) (fun g h _ => by omega);replace hw0 := hs.le hw0;replace hS := hS.trans hs;replace hR0 := hR0.same hs;refine aU (n := 2) rfl rfl cI rfl (bJ hmz.one) hR0 zo ?_;intro w5 hn hs;have hR : WB w5 bR (decide _) s9 := hn.congr fun i hi => aN (g := wF _ _) hi;replace hS := hS.trans hs;replace hw0 := hs.le hw0;clear hn;replace hmz := hmz.same hs;exact aG (aE (cS rfl rfl u29 rfl cI hR.rd ⟨⟨s9, rfl, hmz.mono fun g h _ => by omega⟩, hS⟩))
set_option maxHeartbeats 800000 in
theorem uH {w : World} (k : Nat) (hk : k ≤ 100) :
 Ret Tryz.prog 8 #[.int .i64 (k : Nat)] w fun v w' => Wz w' (fun g => w.heap.size ≤ g) v (((10 ^ k : Nat) : Int)) ∧ Same [] w w' := by
 have hS := Same.refl [] w;obtain ⟨H, hH⟩ : ∃ H, H = w.heap.size := ⟨_, rfl⟩;have hw0 := Nat.le_of_eq hH;rw [← hH];refine aS Tryz.func8 Tryz.ntmps8 rfl rfl (aD (aB (bF dJ rfl rfl ?_)));intro w1 hn hs;obtain ⟨bR, hbR⟩ : ∃ x, x = w.heap.size := ⟨_, rfl⟩
 have hR0 : Row w1 bR 29 2 (fun i => (#[.bool false, .slice none 0 0] : Array Value).getD i undef) := by
  rw [hn, hbR];exact Row.alloc _ _ _
 rw [← hbR];have hbRH : H ≤ bR := by omega
 replace hw0 := hs.le hw0;replace hS := hS.trans hs;have hbRl := hR0.lt;clear hn hs;refine aG (aE (aD (aB ?_)));have hRl := hR0.lt;refine aR rfl rfl qF rfl rfl (iA 1 zo) ?_;rintro v9 w2 ⟨⟨s9, rfl, hmz⟩, hs⟩;replace hmz := hmz.mono (J := fun g => bR < g ∧ g < w2.heap.size) (fun g h h2 => ⟨by omega, h2⟩);replace hw0 := hs.le hw0;replace hS := hS.trans hs;replace hR0 := hR0.same hs;refine bF dJ rfl rfl ?_;intro w3 hn hs;obtain ⟨bT, hbT⟩ : ∃ x, x = w2.heap.size := ⟨_, rfl⟩
 have hT0 : Row w3 bT 29 2 (fun i => (#[.bool false, .slice none 0 0] : Array Value).getD i undef) := by
  rw [hn, hbT];exact Row.alloc _ _ _
 rw [← hbT];have hbTH : H ≤ bT := by omega
 have hRlx := hR0.lt;have hbTR : bR < bT := by omega
 replace hmz := hmz.mono (J := fun g => H ≤ g ∧ g ≠ bT ∧ g ≠ bR) (fun g h _ => ⟨by omega, by omega, by omega⟩);replace hw0 := hs.le hw0;replace hS := hS.trans hs;replace hR0 := hR0.same hs;replace hmz := hmz.same hs;have hTl0 := hT0.lt;clear hn hs;refine aU (n := 2) rfl rfl cI rfl (bJ hmz.one) hT0 zo ?_;intro w4 hn hs;have hT : WB w4 bT (decide _) s9 := hn.congr fun i hi => aN (g := wF _ _) hi;replace hS := hS.trans hs;replace hw0 := hs.le hw0;clear hn;replace hR0 := hR0.same hs;replace hmz := hmz.same hs;refine aG (aE (aD (aD (aB (aF rfl rfl (aG (aE (bN (dR (fun s : Nat × Value => [(0, .int .i64 (k : Nat)), (2, .pointer (some ⟨bR, 0, none⟩)), (3, .pointer (some ⟨bT, 0, none⟩)), (4, .int .i64 (s.1 : Nat))]) (fun m s w' => s.1 + m = k ∧ H ≤ w'.heap.size ∧ Same [] w w' ∧ Row w' bR 29 2 (fun i => (#[.bool false, .slice none 0 0] : Array Value).getD i undef) ∧ WB w' bT (decide (((10 ^ s.1 : Nat) : Int) < 0)) s.2 ∧ Mz w' (fun g => H ≤ g ∧ g ≠ bT ∧ g ≠ bR) s.2 ((10 ^ s.1 : Nat) : Int).natAbs) k (0, s9) ⟨rfl, rfl, rfl, rfl, trivial⟩ ⟨by simp, hw0, hS, hR0, hT, hmz⟩ ?_)))))))));clear hS hw0 hR0 hT hmz;rintro m ⟨i, s⟩ w5 ⟨hm, hw0, hS, hR0, hT, hmz⟩;simp only at hm hT hmz;dsimp only;rcases (show m = 0 ∨ 0 < m by omega) with hm0 | hm0
 ·obtain rfl : i = k := by omega
  refine aD (aD (aB (aA rfl rfl (aA rfl rfl (aI rfl rfl rfl rfl (aG (aE ?_)))))));refine aK rfl (fun h178 => ?_) (fun h178 => ?_)
  ·simp only [decide_eq_true_eq] at h178;omega
  ·simp only [decide_eq_false_iff_not, Int.not_lt] at h178;refine dG rfl (aE (aD (aB (aM rfl u29 rfl cI hT.rd rfl (aU (n := 2) rfl rfl cI rfl (bJ hmz.one) hR0 zo ?_)))));intro w6 hn hs;have hR : WB w6 bR _ s := hn.congr fun i hi => aN (g := wF _ _) hi;replace hS := hS.trans hs;replace hw0 := hs.le hw0;clear hn;replace hmz := hmz.same hs;exact aG (aE (cS rfl rfl u29 rfl cI hR.rd ⟨⟨_, rfl, hmz.mono fun g h _ => by omega⟩, hS⟩))
 ·refine aD (aD (aB (aA rfl rfl (aA rfl rfl (aI rfl rfl rfl rfl (aG (aE ?_)))))));refine aK rfl (fun h178 => ?_) (fun h178 => ?_)
  ·simp only [decide_eq_true_eq] at h178;refine aX (aE (aD (bN ?_)));replace hw0 := (aC _).le hw0;replace hS := hS.trans (aC _);replace hR0 := hR0.same (aC _);replace hT := hT.same (aC _);replace hmz := hmz.same (aC _);refine cX (fun wS => WB wS bT (decide (((10 ^ i : Nat) : Int) < 0)) s) [3] (.cons 0 (.cons 1 (.cons 2 (.cons 3 .nil)))) cL zy hT (cG rfl aH rfl u29 rfl cI (fun w9 h9 => h9.rd) rfl ?_);have hTl := hT.lt;have hRl2 := hR0.lt;refine bW rfl aH rfl rfl qF rfl rfl (iA 10 zo) ?_;rintro v9 w6 ⟨⟨s8, rfl, hone⟩, hs⟩;replace hw0 := hs.le hw0;replace hS := hS.trans hs;replace hR0 := hR0.same hs;replace hT := hT.same hs;replace hmz := hmz.same hs;refine aQ rfl hT ?_;have hTl2 := hT.lt;have hRl3 := hR0.lt;refine bW rfl aH rfl rfl cf11 rfl rfl (oG s ((10 ^ i : Nat) : Int) hmz.ins (by rw [Int.natAbs_natCast]; exact tF zw) s8 ((10 : Nat) : Int) hone.ins zo) ?_;rintro v9 w7 ⟨hz9, hs⟩;rw [show ((10 ^ i : Nat) : Int) * ((10 : Nat) : Int) = ((10 ^ (i + 1) : Nat) : Int) by rw [Nat.pow_succ, Int.natCast_mul]] at hz9;obtain ⟨s9, rfl, hmz9⟩ := hz9;replace hmz := hmz9.mono (J := fun g => H ≤ g ∧ g ≠ bT ∧ g ≠ bR) (fun g h _ => ⟨by omega, by omega, by omega⟩);clear hmz9;replace hw0 := hs.le hw0;replace hS := hS.trans hs;replace hR0 := hR0.same hs;replace hT := hT.same hs;refine aQ rfl hT (bA rfl aH (n := 2) rfl rfl cI rfl (bJ hmz.one) hT zo ?_);intro w8 hn hs;have hT : WB w8 bT (decide _) s9 := hn.congr fun i hi => aN (g := wF _ _) hi;replace hS := hS.trans hs;replace hw0 := hs.le hw0;clear hn;replace hR0 := hR0.same hs;replace hmz := hmz.same hs;refine eM rfl (cO (cQ (aE (aB (aA rfl rfl ?_)))))
   (refine aI rfl rfl (cJ (aV ?_ ?_)) rfl ?_; (omega); (omega))
   exact aF rfl rfl (aG (bZ (m - 1) (i + 1, s9) zw ⟨rfl, rfl, rfl, eF rfl zw, trivial⟩ ⟨show i + 1 + (m - 1) = k by omega, hw0, hS, hR0, hT, hmz⟩))
  ·simp only [decide_eq_false_iff_not, Int.not_lt] at h178;omega
end Go.Proofs.YtccicbpeajdjgaaGreatDoor.Vm
