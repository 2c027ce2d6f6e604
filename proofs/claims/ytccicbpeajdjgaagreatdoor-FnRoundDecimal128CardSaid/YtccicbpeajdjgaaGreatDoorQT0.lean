/- What fits in a precision; what a rounding has to give. -/
import Derived.Test.YtccicbpeajdjgaaGreatDoorQVm
import Derived.Test.YtccicbpeajdjgaaGreatDoorQSn
set_option linter.unusedVariables false
set_option linter.unusedSimpArgs false
namespace Go.Proofs.YtccicbpeajdjgaaGreatDoor.Vm
open Go Mix Go.RowKit Wd
abbrev f6 := @Tryz.func6
set_option maxRecDepth 20000
theorem sw_abs {x : Nat → Nat} (h : ∀ i, i < 2 → x i < 18446744073709551616) : (sw x).natAbs ≤ 170141183460469231731687303715884105728 := by
 have h0 := h 0 zo;have h1 := h 1 zo;unfold sw;rw [show ((2 ^ 128 : Nat) : Int) = 340282366920938463463374607431768211456 from rfl]
 split <;> omega
theorem uJ {x : Nat → Nat} (h : ∀ i, i < 2 → x i < 18446744073709551616) : (sw x).natAbs < midN := Nat.lt_of_le_of_lt (sw_abs h) (by unfold midN; decide)
theorem iW {x : Nat} (h : x < midN) : x < topN := by
 have := gD;omega
theorem rM (us : Array Value) (w : World) : (callFunc 18 us).run Tryz.prog w = .ok (.enter 18 us) w := by kernel_rfl
theorem wH (us : Array Value) (w : World) : (callFunc 19 us).run Tryz.prog w = .ok (.enter 19 us) w := by kernel_rfl
theorem cf20 (us : Array Value) (w : World) : (callFunc 20 us).run Tryz.prog w = .ok (.enter 20 us) w := by kernel_rfl
theorem cf24 (us : Array Value) (w : World) : (callFunc 24 us).run Tryz.prog w = .ok (.enter 24 us) w := by kernel_rfl
theorem cf5 (us : Array Value) (w : World) : (callFunc 5 us).run Tryz.prog w = .ok (.enter 5 us) w := by kernel_rfl
set_option maxHeartbeats 1200000 in
theorem fitsNo {w : World} (A : Option Addr) (n c : Nat) (hn : n ≠ 2) (hn2 : n ≤ 2147483647) (p s : Int) :
 Ret Tryz.prog 6 #[.int .i64 128, .slice A n c, .int .i64 p, .int .i64 s] w fun v w' => ∃ u, v = .tuple #[u, .bool false] ∧ Wz w' (fun g => w.heap.size ≤ g) u (0) ∧ Same [] w w' := by
 have hS := Same.refl [] w;obtain ⟨H, hH⟩ : ∃ H, H = w.heap.size := ⟨_, rfl⟩;have hw0 := Nat.le_of_eq hH;rw [← hH];refine aS f6 Tryz.ntmps6 rfl rfl (aD (aB (bF dJ rfl rfl ?_)));intro w1 hn hs;obtain ⟨bR, hbR⟩ : ∃ x, x = w.heap.size := ⟨_, rfl⟩
 have hR0 : Row w1 bR 29 2 (fun i => (#[.bool false, .slice none 0 0] : Array Value).getD i undef) := by
  rw [hn, hbR];exact Row.alloc _ _ _
 rw [← hbR];have hbRH : H ≤ bR := by omega
 replace hw0 := hs.le hw0;replace hS := hS.trans hs;have hbRl := hR0.lt;clear hn hs;refine aF rfl rfl (aG (aE (aD (aB (aA rfl rfl (aA rfl rfl (aR rfl rfl rM rfl rfl (tN A n c hn hn2) ?_)))))));rintro _ w2 ⟨rfl, hs⟩;replace hw0 := hs.le hw0;replace hS := hS.trans hs;replace hR0 := hR0.same hs;refine aA rfl rfl (aY rfl rfl rfl (aY rfl rfl rfl (bF dJ rfl rfl ?_)));intro w3 hn hs;obtain ⟨bT, hbT⟩ : ∃ x, x = w2.heap.size := ⟨_, rfl⟩
 have hT : Row w3 bT 29 2 (fun i => (#[.bool false, .slice none 0 0] : Array Value).getD i undef) := by
  rw [hn, hbT];exact Row.alloc _ _ _
 rw [← hbT];have hRlx := hR0.lt;have hbTR : bR < bT := by omega
 replace hw0 := hs.le hw0;replace hS := hS.trans hs;replace hR0 := hR0.same hs;have hTl0 := hT.lt;clear hn hs;refine aU (n := 2) rfl rfl cI rfl (bJ rfl) hT zo ?_;intro w4 hn hs;have hT : WB w4 bT false (.slice none 0 0) := hn.congr fun i hi => aN (g := wF _ _) hi;replace hS := hS.trans hs;replace hw0 := hs.le hw0;clear hn;replace hR0 := hR0.same hs;refine aF rfl rfl (aG (aE (aD (aD (aB (aA rfl rfl (dL rfl rfl (aA rfl rfl (aW rfl rfl rfl rfl (aW rfl rfl rfl rfl (cH rfl rfl rfl rfl (aA rfl rfl (aW rfl rfl rfl rfl (aW rfl rfl rfl rfl (aW rfl rfl rfl rfl (aW rfl rfl rfl rfl (cH rfl rfl rfl rfl (aA rfl rfl (aW rfl rfl rfl rfl (aW rfl rfl rfl rfl (cH rfl rfl rfl rfl (aA rfl rfl (aW rfl rfl rfl rfl (aW rfl rfl rfl rfl (aW rfl rfl rfl rfl (cH rfl rfl rfl rfl (aA rfl rfl (aW rfl rfl rfl rfl (aW rfl rfl rfl rfl (aW rfl rfl rfl rfl (aW rfl rfl rfl rfl (cH rfl rfl rfl rfl (aG (aE ?_))))))))))))))))))))))))))))))))));refine aK rfl (fun h463 => ?_) (fun h463 => ?_)
 ·simp only at h463;refine aD (aB (aM rfl u29 rfl cI hT.rd rfl (aU (n := 2) rfl rfl cI rfl (bJ rfl) hR0 zo ?_)));intro w5 hn hs;have hR : WB w5 bR false (.slice none 0 0) := hn.congr fun i hi => aN (g := wF _ _) hi;replace hS := hS.trans hs;replace hw0 := hs.le hw0;clear hn;exact aF rfl rfl (aG (aE (eO rfl rfl rfl u29 rfl cI hR.rd ⟨_, rfl, ⟨.slice none 0 0, rfl, 0, fun _ => 0, .inl ⟨rfl, rfl⟩, fun i hi => absurd hi (Nat.not_lt_zero i), .inl rfl, rfl⟩, hS⟩)))
 ·first | (cases h463; done) | (simp at h463; done) | (simp at h463; omega) | omega
set_option maxHeartbeats 1200000 in
theorem fits1 {w : World} (g o c : Nat) (x : Nat → Nat) (hx : Rd w g o 2 (ug x)) (hgl : g < w.heap.size) (hlt : ∀ i, i < 2 → x i < 18446744073709551616) (p s : Int) (hp : -9223372036854775808 ≤ p ∧ p ≤ 9223372036854775807) (hs0 : -9223372036854775808 ≤ s ∧ s ≤ 9223372036854775807) (hc : p < 1) :
 Ret Tryz.prog 6 #[.int .i64 128, .slice (some ⟨g, o, none⟩) 2 c, .int .i64 p, .int .i64 s] w fun v w' => ∃ u, v = .tuple #[u, .bool false] ∧ Wz w' (fun g => w.heap.size ≤ g) u (sw x) ∧ Same [] w w' := by
 have hS := Same.refl [] w;obtain ⟨H, hH⟩ : ∃ H, H = w.heap.size := ⟨_, rfl⟩;have hw0 := Nat.le_of_eq hH;rw [← hH];refine aS f6 Tryz.ntmps6 rfl rfl (aD (aB (bF dJ rfl rfl ?_)));intro w1 hn hs;obtain ⟨bR, hbR⟩ : ∃ x, x = w.heap.size := ⟨_, rfl⟩
 have hR0 : Row w1 bR 29 2 (fun i => (#[.bool false, .slice none 0 0] : Array Value).getD i undef) := by
  rw [hn, hbR];exact Row.alloc _ _ _
 rw [← hbR];have hbRH : H ≤ bR := by omega
 replace hw0 := hs.le hw0;replace hS := hS.trans hs;replace hx := hx.same hs;replace hgl := hs.lt hgl;have hbRl := hR0.lt;clear hn hs;refine aF rfl rfl (aG (aE (aD (aB (aA rfl rfl (aA rfl rfl ?_))))));have hRl := hR0.lt;refine aR rfl rfl rM rfl rfl (gU g o c x hx hgl hlt) ?_;rintro _ w2 ⟨u, rfl, ⟨s9, rfl, hmz⟩, hs⟩;replace hmz := hmz.mono (J := fun g => bR < g) (fun g h _ => by omega);replace hw0 := hs.le hw0;replace hS := hS.trans hs;replace hR0 := hR0.same hs;replace hgl := hs.lt hgl;refine aA rfl rfl (aY rfl rfl rfl (aY rfl rfl rfl (bF dJ rfl rfl ?_)));intro w3 hn hs;obtain ⟨bT, hbT⟩ : ∃ x, x = w2.heap.size := ⟨_, rfl⟩
 have hT : Row w3 bT 29 2 (fun i => (#[.bool false, .slice none 0 0] : Array Value).getD i undef) := by
  rw [hn, hbT];exact Row.alloc _ _ _
 rw [← hbT];have hRlx := hR0.lt;have hbTR : bR < bT := by omega
 replace hmz := hmz.ne (b := bT) zw;replace hw0 := hs.le hw0;replace hS := hS.trans hs;replace hR0 := hR0.same hs;replace hmz := hmz.same hs;replace hgl := hs.lt hgl;have hTl0 := hT.lt;clear hn hs;refine aU (n := 2) rfl rfl cI rfl (bJ hmz.one) hT zo ?_;intro w4 hn hs;have hT : WB w4 bT (decide _) s9 := hn.congr fun i hi => aN (g := wF _ _) hi;replace hS := hS.trans hs;replace hw0 := hs.le hw0;clear hn;replace hR0 := hR0.same hs;replace hmz := hmz.same hs;refine aF rfl rfl (aG (aE (aD (aD (aB (aA rfl rfl (dL rfl rfl (aA rfl rfl (aJ rfl rfl rfl (aA rfl rfl (aJ rfl rfl rfl (aI rfl rfl rfl rfl (cE rfl rfl rfl rfl (aA rfl rfl (aW rfl rfl rfl zz (aW rfl rfl rfl zz (aW rfl rfl rfl zz (aW rfl rfl rfl zz (cH rfl zz rfl rfl (aA rfl rfl (aW rfl rfl rfl rfl (aW rfl rfl rfl rfl (cH rfl rfl rfl rfl (aA rfl rfl (aW rfl rfl rfl rfl (aW rfl rfl rfl rfl (aW rfl rfl rfl rfl (cH rfl rfl rfl rfl (aA rfl rfl (aW rfl rfl rfl rfl (aW rfl rfl rfl rfl (aW rfl rfl rfl rfl (aW rfl rfl rfl rfl (cH rfl rfl rfl rfl (aG (aE ?_))))))))))))))))))))))))))))))))))));refine aK rfl (fun h463 => ?_) (fun h463 => ?_)
 ·simp only at h463;refine aD (aB (aM rfl u29 rfl cI hT.rd rfl (aU (n := 2) rfl rfl cI rfl (bJ hmz.one) hR0 zo ?_)));intro w5 hn hs;have hR : WB w5 bR (decide _) s9 := hn.congr fun i hi => aN (g := wF _ _) hi;replace hS := hS.trans hs;replace hw0 := hs.le hw0;clear hn;replace hmz := hmz.same hs;exact aF rfl rfl (aG (aE (eO rfl rfl rfl u29 rfl cI hR.rd ⟨_, rfl, ⟨s9, rfl, hmz.mono fun g h _ => by omega⟩, hS⟩)))
 ·first | (cases h463; done) | (simp at h463; done) | (simp at h463; omega) | omega
set_option maxHeartbeats 1200000 in
theorem fits2 {w : World} (g o c : Nat) (x : Nat → Nat) (hx : Rd w g o 2 (ug x)) (hgl : g < w.heap.size) (hlt : ∀ i, i < 2 → x i < 18446744073709551616) (p s : Int) (hp : -9223372036854775808 ≤ p ∧ p ≤ 9223372036854775807) (hs0 : -9223372036854775808 ≤ s ∧ s ≤ 9223372036854775807) (hc : 1 ≤ p ∧ 38 < p) :
 Ret Tryz.prog 6 #[.int .i64 128, .slice (some ⟨g, o, none⟩) 2 c, .int .i64 p, .int .i64 s] w fun v w' => ∃ u, v = .tuple #[u, .bool false] ∧ Wz w' (fun g => w.heap.size ≤ g) u (sw x) ∧ Same [] w w' := by
 have hS := Same.refl [] w;obtain ⟨H, hH⟩ : ∃ H, H = w.heap.size := ⟨_, rfl⟩;have hw0 := Nat.le_of_eq hH;rw [← hH];refine aS f6 Tryz.ntmps6 rfl rfl (aD (aB (bF dJ rfl rfl ?_)));intro w1 hn hs;obtain ⟨bR, hbR⟩ : ∃ x, x = w.heap.size := ⟨_, rfl⟩
 have hR0 : Row w1 bR 29 2 (fun i => (#[.bool false, .slice none 0 0] : Array Value).getD i undef) := by
  rw [hn, hbR];exact Row.alloc _ _ _
 rw [← hbR];have hbRH : H ≤ bR := by omega
 replace hw0 := hs.le hw0;replace hS := hS.trans hs;replace hx := hx.same hs;replace hgl := hs.lt hgl;have hbRl := hR0.lt;clear hn hs;refine aF rfl rfl (aG (aE (aD (aB (aA rfl rfl (aA rfl rfl ?_))))));have hRl := hR0.lt;refine aR rfl rfl rM rfl rfl (gU g o c x hx hgl hlt) ?_;rintro _ w2 ⟨u, rfl, ⟨s9, rfl, hmz⟩, hs⟩;replace hmz := hmz.mono (J := fun g => bR < g) (fun g h _ => by omega);replace hw0 := hs.le hw0;replace hS := hS.trans hs;replace hR0 := hR0.same hs;replace hgl := hs.lt hgl;refine aA rfl rfl (aY rfl rfl rfl (aY rfl rfl rfl (bF dJ rfl rfl ?_)));intro w3 hn hs;obtain ⟨bT, hbT⟩ : ∃ x, x = w2.heap.size := ⟨_, rfl⟩
 have hT : Row w3 bT 29 2 (fun i => (#[.bool false, .slice none 0 0] : Array Value).getD i undef) := by
  rw [hn, hbT];exact Row.alloc _ _ _
 rw [← hbT];have hRlx := hR0.lt;have hbTR : bR < bT := by omega
 replace hmz := hmz.ne (b := bT) zw;replace hw0 := hs.le hw0;replace hS := hS.trans hs;replace hR0 := hR0.same hs;replace hmz := hmz.same hs;replace hgl := hs.lt hgl;have hTl0 := hT.lt;clear hn hs;refine aU (n := 2) rfl rfl cI rfl (bJ hmz.one) hT zo ?_;intro w4 hn hs;have hT : WB w4 bT (decide _) s9 := hn.congr fun i hi => aN (g := wF _ _) hi;replace hS := hS.trans hs;replace hw0 := hs.le hw0;clear hn;replace hR0 := hR0.same hs;replace hmz := hmz.same hs;refine aF rfl rfl (aG (aE (aD (aD (aB (aA rfl rfl (dL rfl rfl (aA rfl rfl (aJ rfl rfl rfl (aA rfl rfl (aJ rfl rfl rfl (aI rfl rfl rfl rfl (cE rfl rfl rfl rfl (aA rfl rfl (aJ rfl rfl zz (aA rfl rfl (aJ rfl rfl zz (aA rfl rfl (aJ rfl rfl zz (aR rfl rfl wH rfl rfl (fS) ?_))))))))))))))))))));rintro _ w5 ⟨rfl, hs⟩;replace hw0 := hs.le hw0;replace hS := hS.trans hs;replace hR0 := hR0.same hs;replace hT := hT.same hs;replace hmz := hmz.same hs;refine aJ rfl rfl zz (aI rfl rfl rfl rfl (cE rfl zz rfl rfl (aA rfl rfl (aW rfl rfl rfl zz (aW rfl rfl rfl zz (cH rfl zz rfl rfl (aA rfl rfl (aW rfl rfl rfl rfl (aW rfl rfl rfl rfl (aW rfl rfl rfl rfl (cH rfl rfl rfl rfl (aA rfl rfl (aW rfl rfl rfl rfl (aW rfl rfl rfl rfl (aW rfl rfl rfl rfl (aW rfl rfl rfl rfl (cH rfl rfl rfl rfl (aG (aE ?_)))))))))))))))))));refine aK rfl (fun h463 => ?_) (fun h463 => ?_)
 ·simp only at h463;refine aD (aB (aM rfl u29 rfl cI hT.rd rfl (aU (n := 2) rfl rfl cI rfl (bJ hmz.one) hR0 zo ?_)));intro w6 hn hs;have hR : WB w6 bR (decide _) s9 := hn.congr fun i hi => aN (g := wF _ _) hi;replace hS := hS.trans hs;replace hw0 := hs.le hw0;clear hn;replace hmz := hmz.same hs;exact aF rfl rfl (aG (aE (eO rfl rfl rfl u29 rfl cI hR.rd ⟨_, rfl, ⟨s9, rfl, hmz.mono fun g h _ => by omega⟩, hS⟩)))
 ·first | (cases h463; done) | (simp at h463; done) | (simp at h463; omega) | omega
set_option maxHeartbeats 1200000 in
theorem fits3 {w : World} (g o c : Nat) (x : Nat → Nat) (hx : Rd w g o 2 (ug x)) (hgl : g < w.heap.size) (hlt : ∀ i, i < 2 → x i < 18446744073709551616) (p s : Int) (hp : -9223372036854775808 ≤ p ∧ p ≤ 9223372036854775807) (hs0 : -9223372036854775808 ≤ s ∧ s ≤ 9223372036854775807) (hc : 1 ≤ p ∧ p ≤ 38 ∧ s < 0) :
 Ret Tryz.prog 6 #[.int .i64 128, .slice (some ⟨g, o, none⟩) 2 c, .int .i64 p, .int .i64 s] w fun v w' => ∃ u, v = .tuple #[u, .bool false] ∧ Wz w' (fun g => w.heap.size ≤ g) u (sw x) ∧ Same [] w w' := by
 have hS := Same.refl [] w;obtain ⟨H, hH⟩ : ∃ H, H = w.heap.size := ⟨_, rfl⟩;have hw0 := Nat.le_of_eq hH;rw [← hH];refine aS f6 Tryz.ntmps6 rfl rfl (aD (aB (bF dJ rfl rfl ?_)));intro w1 hn hs;obtain ⟨bR, hbR⟩ : ∃ x, x = w.heap.size := ⟨_, rfl⟩
 have hR0 : Row w1 bR 29 2 (fun i => (#[.bool false, .slice none 0 0] : Array Value).getD i undef) := by
  rw [hn, hbR];exact Row.alloc _ _ _
 rw [← hbR];have hbRH : H ≤ bR := by omega
 replace hw0 := hs.le hw0;replace hS := hS.trans hs;replace hx := hx.same hs;replace hgl := hs.lt hgl;have hbRl := hR0.lt;clear hn hs;refine aF rfl rfl (aG (aE (aD (aB (aA rfl rfl (aA rfl rfl ?_))))));have hRl := hR0.lt;refine aR rfl rfl rM rfl rfl (gU g o c x hx hgl hlt) ?_;rintro _ w2 ⟨u, rfl, ⟨s9, rfl, hmz⟩, hs⟩;replace hmz := hmz.mono (J := fun g => bR < g) (fun g h _ => by omega);replace hw0 := hs.le hw0;replace hS := hS.trans hs;replace hR0 := hR0.same hs;replace hgl := hs.lt hgl;refine aA rfl rfl (aY rfl rfl rfl (aY rfl rfl rfl (bF dJ rfl rfl ?_)));intro w3 hn hs;obtain ⟨bT, hbT⟩ : ∃ x, x = w2.heap.size := ⟨_, rfl⟩
 have hT : Row w3 bT 29 2 (fun i => (#[.bool false, .slice none 0 0] : Array Value).getD i undef) := by
  rw [hn, hbT];exact Row.alloc _ _ _
 rw [← hbT];have hRlx := hR0.lt;have hbTR : bR < bT := by omega
 replace hmz := hmz.ne (b := bT) zw;replace hw0 := hs.le hw0;replace hS := hS.trans hs;replace hR0 := hR0.same hs;replace hmz := hmz.same hs;replace hgl := hs.lt hgl;have hTl0 := hT.lt;clear hn hs;refine aU (n := 2) rfl rfl cI rfl (bJ hmz.one) hT zo ?_;intro w4 hn hs;have hT : WB w4 bT (decide _) s9 := hn.congr fun i hi => aN (g := wF _ _) hi;replace hS := hS.trans hs;replace hw0 := hs.le hw0;clear hn;replace hR0 := hR0.same hs;replace hmz := hmz.same hs;refine aF rfl rfl (aG (aE (aD (aD (aB (aA rfl rfl (dL rfl rfl (aA rfl rfl (aJ rfl rfl rfl (aA rfl rfl (aJ rfl rfl rfl (aI rfl rfl rfl rfl (cE rfl rfl rfl rfl (aA rfl rfl (aJ rfl rfl zz (aA rfl rfl (aJ rfl rfl zz (aA rfl rfl (aJ rfl rfl zz (aR rfl rfl wH rfl rfl (fS) ?_))))))))))))))))))));rintro _ w5 ⟨rfl, hs⟩;replace hw0 := hs.le hw0;replace hS := hS.trans hs;replace hR0 := hR0.same hs;replace hT := hT.same hs;replace hmz := hmz.same hs;refine aJ rfl rfl zz (aI rfl rfl rfl rfl (cE rfl zz rfl rfl (aA rfl rfl (aJ rfl rfl zz (aA rfl rfl (aJ rfl rfl zz (aI rfl rfl rfl rfl (cE rfl zz rfl rfl (aA rfl rfl (aW rfl rfl rfl zz (aW rfl rfl rfl zz (aW rfl rfl rfl zz (cH rfl zz rfl rfl (aA rfl rfl (aW rfl rfl rfl rfl (aW rfl rfl rfl rfl (aW rfl rfl rfl rfl (aW rfl rfl rfl rfl (cH rfl rfl rfl rfl (aG (aE ?_)))))))))))))))))))));refine aK rfl (fun h463 => ?_) (fun h463 => ?_)
 ·simp only at h463;refine aD (aB (aM rfl u29 rfl cI hT.rd rfl (aU (n := 2) rfl rfl cI rfl (bJ hmz.one) hR0 zo ?_)));intro w6 hn hs;have hR : WB w6 bR (decide _) s9 := hn.congr fun i hi => aN (g := wF _ _) hi;replace hS := hS.trans hs;replace hw0 := hs.le hw0;clear hn;replace hmz := hmz.same hs;exact aF rfl rfl (aG (aE (eO rfl rfl rfl u29 rfl cI hR.rd ⟨_, rfl, ⟨s9, rfl, hmz.mono fun g h _ => by omega⟩, hS⟩)))
 ·first | (cases h463; done) | (simp at h463; done) | (simp at h463; omega) | omega
set_option maxHeartbeats 1200000 in
theorem fits4 {w : World} (g o c : Nat) (x : Nat → Nat) (hx : Rd w g o 2 (ug x)) (hgl : g < w.heap.size) (hlt : ∀ i, i < 2 → x i < 18446744073709551616) (p s : Int) (hp : -9223372036854775808 ≤ p ∧ p ≤ 9223372036854775807) (hs0 : -9223372036854775808 ≤ s ∧ s ≤ 9223372036854775807) (hc : 1 ≤ p ∧ p ≤ 38 ∧ 0 ≤ s ∧ p < s) :
 Ret Tryz.prog 6 #[.int .i64 128, .slice (some ⟨g, o, none⟩) 2 c, .int .i64 p, .int .i64 s] w fun v w' => ∃ u, v = .tuple #[u, .bool false] ∧ Wz w' (fun g => w.heap.size ≤ g) u (sw x) ∧ Same [] w w' := by
 have hS := Same.refl [] w;obtain ⟨H, hH⟩ : ∃ H, H = w.heap.size := ⟨_, rfl⟩;have hw0 := Nat.le_of_eq hH;rw [← hH];refine aS f6 Tryz.ntmps6 rfl rfl (aD (aB (bF dJ rfl rfl ?_)));intro w1 hn hs;obtain ⟨bR, hbR⟩ : ∃ x, x = w.heap.size := ⟨_, rfl⟩
 have hR0 : Row w1 bR 29 2 (fun i => (#[.bool false, .slice none 0 0] : Array Value).getD i undef) := by
  rw [hn, hbR];exact Row.alloc _ _ _
 rw [← hbR];have hbRH : H ≤ bR := by omega
 replace hw0 := hs.le hw0;replace hS := hS.trans hs;replace hx := hx.same hs;replace hgl := hs.lt hgl;have hbRl := hR0.lt;clear hn hs;refine aF rfl rfl (aG (aE (aD (aB (aA rfl rfl (aA rfl rfl ?_))))));have hRl := hR0.lt;refine aR rfl rfl rM rfl rfl (gU g o c x hx hgl hlt) ?_;rintro _ w2 ⟨u, rfl, ⟨s9, rfl, hmz⟩, hs⟩;replace hmz := hmz.mono (J := fun g => bR < g) (fun g h _ => by omega);replace hw0 := hs.le hw0;replace hS := hS.trans hs;replace hR0 := hR0.same hs;replace hgl := hs.lt hgl;refine aA rfl rfl (aY rfl rfl rfl (aY rfl rfl rfl (bF dJ rfl rfl ?_)));intro w3 hn hs;obtain ⟨bT, hbT⟩ : ∃ x, x = w2.heap.size := ⟨_, rfl⟩
 have hT : Row w3 bT 29 2 (fun i => (#[.bool false, .slice none 0 0] : Array Value).getD i undef) := by
  rw [hn, hbT];exact Row.alloc _ _ _
 rw [← hbT];have hRlx := hR0.lt;have hbTR : bR < bT := by omega
 replace hmz := hmz.ne (b := bT) zw;replace hw0 := hs.le hw0;replace hS := hS.trans hs;replace hR0 := hR0.same hs;replace hmz := hmz.same hs;replace hgl := hs.lt hgl;have hTl0 := hT.lt;clear hn hs;refine aU (n := 2) rfl rfl cI rfl (bJ hmz.one) hT zo ?_;intro w4 hn hs;have hT : WB w4 bT (decide _) s9 := hn.congr fun i hi => aN (g := wF _ _) hi;replace hS := hS.trans hs;replace hw0 := hs.le hw0;clear hn;replace hR0 := hR0.same hs;replace hmz := hmz.same hs;refine aF rfl rfl (aG (aE (aD (aD (aB (aA rfl rfl (dL rfl rfl (aA rfl rfl (aJ rfl rfl rfl (aA rfl rfl (aJ rfl rfl rfl (aI rfl rfl rfl rfl (cE rfl rfl rfl rfl (aA rfl rfl (aJ rfl rfl zz (aA rfl rfl (aJ rfl rfl zz (aA rfl rfl (aJ rfl rfl zz (aR rfl rfl wH rfl rfl (fS) ?_))))))))))))))))))));rintro _ w5 ⟨rfl, hs⟩;replace hw0 := hs.le hw0;replace hS := hS.trans hs;replace hR0 := hR0.same hs;replace hT := hT.same hs;replace hmz := hmz.same hs;refine aJ rfl rfl zz (aI rfl rfl rfl rfl (cE rfl zz rfl rfl (aA rfl rfl (aJ rfl rfl zz (aA rfl rfl (aJ rfl rfl zz (aI rfl rfl rfl rfl (cE rfl zz rfl rfl (aA rfl rfl (aJ rfl rfl zz (aA rfl rfl (aJ rfl rfl zz (aA rfl rfl (aJ rfl rfl zz (aI rfl rfl rfl rfl (cE rfl zz rfl rfl (aA rfl rfl (aW rfl rfl rfl zz (aW rfl rfl rfl zz (aW rfl rfl rfl zz (aW rfl rfl rfl zz (cH rfl zz rfl rfl (aG (aE ?_))))))))))))))))))))))));refine aK rfl (fun h463 => ?_) (fun h463 => ?_)
 ·simp only at h463;refine aD (aB (aM rfl u29 rfl cI hT.rd rfl (aU (n := 2) rfl rfl cI rfl (bJ hmz.one) hR0 zo ?_)));intro w6 hn hs;have hR : WB w6 bR (decide _) s9 := hn.congr fun i hi => aN (g := wF _ _) hi;replace hS := hS.trans hs;replace hw0 := hs.le hw0;clear hn;replace hmz := hmz.same hs;exact aF rfl rfl (aG (aE (eO rfl rfl rfl u29 rfl cI hR.rd ⟨_, rfl, ⟨s9, rfl, hmz.mono fun g h _ => by omega⟩, hS⟩)))
 ·first | (cases h463; done) | (simp at h463; done) | (simp at h463; omega) | omega
set_option maxHeartbeats 1200000 in
theorem fits5 {w : World} (g o c : Nat) (x : Nat → Nat) (hx : Rd w g o 2 (ug x)) (hgl : g < w.heap.size) (hlt : ∀ i, i < 2 → x i < 18446744073709551616) (p s : Int) (hp : -9223372036854775808 ≤ p ∧ p ≤ 9223372036854775807) (hs0 : -9223372036854775808 ≤ s ∧ s ≤ 9223372036854775807) (hc : 1 ≤ p ∧ p ≤ 38 ∧ 0 ≤ s ∧ s ≤ p ∧ p < (Rd.digs (sw x).natAbs : Nat)) :
 Ret Tryz.prog 6 #[.int .i64 128, .slice (some ⟨g, o, none⟩) 2 c, .int .i64 p, .int .i64 s] w fun v w' => ∃ u, v = .tuple #[u, .bool false] ∧ Wz w' (fun g => w.heap.size ≤ g) u (sw x) ∧ Same [] w w' := by
 have hS := Same.refl [] w;obtain ⟨H, hH⟩ : ∃ H, H = w.heap.size := ⟨_, rfl⟩;have hw0 := Nat.le_of_eq hH;rw [← hH];refine aS f6 Tryz.ntmps6 rfl rfl (aD (aB (bF dJ rfl rfl ?_)));intro w1 hn hs;obtain ⟨bR, hbR⟩ : ∃ x, x = w.heap.size := ⟨_, rfl⟩
 have hR0 : Row w1 bR 29 2 (fun i => (#[.bool false, .slice none 0 0] : Array Value).getD i undef) := by
  rw [hn, hbR];exact Row.alloc _ _ _
 rw [← hbR];have hbRH : H ≤ bR := by omega
 replace hw0 := hs.le hw0;replace hS := hS.trans hs;replace hx := hx.same hs;replace hgl := hs.lt hgl;have hbRl := hR0.lt;clear hn hs;refine aF rfl rfl (aG (aE (aD (aB (aA rfl rfl (aA rfl rfl ?_))))));have hRl := hR0.lt;refine aR rfl rfl rM rfl rfl (gU g o c x hx hgl hlt) ?_;rintro _ w2 ⟨u, rfl, ⟨s9, rfl, hmz⟩, hs⟩;replace hmz := hmz.mono (J := fun g => bR < g) (fun g h _ => by omega);replace hw0 := hs.le hw0;replace hS := hS.trans hs;replace hR0 := hR0.same hs;replace hgl := hs.lt hgl;refine aA rfl rfl (aY rfl rfl rfl (aY rfl rfl rfl (bF dJ rfl rfl ?_)));intro w3 hn hs;obtain ⟨bT, hbT⟩ : ∃ x, x = w2.heap.size := ⟨_, rfl⟩
 have hT : Row w3 bT 29 2 (fun i => (#[.bool false, .slice none 0 0] : Array Value).getD i undef) := by
  rw [hn, hbT];exact Row.alloc _ _ _
 rw [← hbT];have hRlx := hR0.lt;have hbTR : bR < bT := by omega
 replace hmz := hmz.ne (b := bT) zw;replace hw0 := hs.le hw0;replace hS := hS.trans hs;replace hR0 := hR0.same hs;replace hmz := hmz.same hs;replace hgl := hs.lt hgl;have hTl0 := hT.lt;clear hn hs;refine aU (n := 2) rfl rfl cI rfl (bJ hmz.one) hT zo ?_;intro w4 hn hs;have hT : WB w4 bT (decide _) s9 := hn.congr fun i hi => aN (g := wF _ _) hi;replace hS := hS.trans hs;replace hw0 := hs.le hw0;clear hn;replace hR0 := hR0.same hs;replace hmz := hmz.same hs;refine aF rfl rfl (aG (aE (aD (aD (aB (aA rfl rfl (dL rfl rfl (aA rfl rfl (aJ rfl rfl rfl (aA rfl rfl (aJ rfl rfl rfl (aI rfl rfl rfl rfl (cE rfl rfl rfl rfl (aA rfl rfl (aJ rfl rfl zz (aA rfl rfl (aJ rfl rfl zz (aA rfl rfl (aJ rfl rfl zz (aR rfl rfl wH rfl rfl (fS) ?_))))))))))))))))))));rintro _ w5 ⟨rfl, hs⟩;replace hw0 := hs.le hw0;replace hS := hS.trans hs;replace hR0 := hR0.same hs;replace hT := hT.same hs;replace hmz := hmz.same hs;refine aJ rfl rfl zz (aI rfl rfl rfl rfl (cE rfl zz rfl rfl (aA rfl rfl (aJ rfl rfl zz (aA rfl rfl (aJ rfl rfl zz (aI rfl rfl rfl rfl (cE rfl zz rfl rfl (aA rfl rfl (aJ rfl rfl zz (aA rfl rfl (aJ rfl rfl zz (aA rfl rfl (aJ rfl rfl zz (aI rfl rfl rfl rfl (cE rfl zz rfl rfl (aA rfl rfl (aJ rfl rfl zz (aM rfl u29 rfl cI hT.rd rfl (aJ rfl rfl zz (aR rfl rfl cf20 rfl rfl (eP s9 (sw x) hmz.ins (iW (uJ hlt))) ?_)))))))))))))))))))));rintro _ w6 ⟨rfl, hs⟩;replace hw0 := hs.le hw0;replace hS := hS.trans hs;replace hR0 := hR0.same hs;replace hT := hT.same hs;replace hmz := hmz.same hs;refine aJ rfl rfl zz (aA rfl rfl (aJ rfl rfl zz (aI rfl rfl rfl rfl (cE rfl zz rfl rfl (aG (aE ?_))))));refine aK rfl (fun h463 => ?_) (fun h463 => ?_)
 ·simp only [gt_iff_lt, decide_eq_true_eq] at h463;refine aD (aB (aM rfl u29 rfl cI hT.rd rfl (aU (n := 2) rfl rfl cI rfl (bJ hmz.one) hR0 zo ?_)));intro w7 hn hs;have hR : WB w7 bR (decide _) s9 := hn.congr fun i hi => aN (g := wF _ _) hi;replace hS := hS.trans hs;replace hw0 := hs.le hw0;clear hn;replace hmz := hmz.same hs;exact aF rfl rfl (aG (aE (eO rfl rfl rfl u29 rfl cI hR.rd ⟨_, rfl, ⟨s9, rfl, hmz.mono fun g h _ => by omega⟩, hS⟩)))
 ·first | (cases h463; done) | (simp at h463; done) | (simp at h463; omega) | omega
set_option maxHeartbeats 1200000 in
theorem fits6 {w : World} (g o c : Nat) (x : Nat → Nat) (hx : Rd w g o 2 (ug x)) (hgl : g < w.heap.size) (hlt : ∀ i, i < 2 → x i < 18446744073709551616) (p s : Int) (hp : -9223372036854775808 ≤ p ∧ p ≤ 9223372036854775807) (hs0 : -9223372036854775808 ≤ s ∧ s ≤ 9223372036854775807) (hc : 1 ≤ p ∧ p ≤ 38 ∧ 0 ≤ s ∧ s ≤ p ∧ (Rd.digs (sw x).natAbs : Nat) ≤ p) :
 Ret Tryz.prog 6 #[.int .i64 128, .slice (some ⟨g, o, none⟩) 2 c, .int .i64 p, .int .i64 s] w fun v w' => ∃ u, v = .tuple #[u, .bool true] ∧ Wz w' (fun g => w.heap.size ≤ g) u (sw x) ∧ Same [] w w' := by
 have hS := Same.refl [] w;obtain ⟨H, hH⟩ : ∃ H, H = w.heap.size := ⟨_, rfl⟩;have hw0 := Nat.le_of_eq hH;rw [← hH];refine aS f6 Tryz.ntmps6 rfl rfl (aD (aB (bF dJ rfl rfl ?_)));intro w1 hn hs;obtain ⟨bR, hbR⟩ : ∃ x, x = w.heap.size := ⟨_, rfl⟩
 have hR0 : Row w1 bR 29 2 (fun i => (#[.bool false, .slice none 0 0] : Array Value).getD i undef) := by
  rw [hn, hbR];exact Row.alloc _ _ _
 rw [← hbR];have hbRH : H ≤ bR := by omega
 replace hw0 := hs.le hw0;replace hS := hS.trans hs;replace hx := hx.same hs;replace hgl := hs.lt hgl;have hbRl := hR0.lt;clear hn hs;refine aF rfl rfl (aG (aE (aD (aB (aA rfl rfl (aA rfl rfl ?_))))));have hRl := hR0.lt;refine aR rfl rfl rM rfl rfl (gU g o c x hx hgl hlt) ?_;rintro _ w2 ⟨u, rfl, ⟨s9, rfl, hmz⟩, hs⟩;replace hmz := hmz.mono (J := fun g => bR < g) (fun g h _ => by omega);replace hw0 := hs.le hw0;replace hS := hS.trans hs;replace hR0 := hR0.same hs;replace hgl := hs.lt hgl;refine aA rfl rfl (aY rfl rfl rfl (aY rfl rfl rfl (bF dJ rfl rfl ?_)));intro w3 hn hs;obtain ⟨bT, hbT⟩ : ∃ x, x = w2.heap.size := ⟨_, rfl⟩
 have hT : Row w3 bT 29 2 (fun i => (#[.bool false, .slice none 0 0] : Array Value).getD i undef) := by
  rw [hn, hbT];exact Row.alloc _ _ _
 rw [← hbT];have hRlx := hR0.lt;have hbTR : bR < bT := by omega
 replace hmz := hmz.ne (b := bT) zw;replace hw0 := hs.le hw0;replace hS := hS.trans hs;replace hR0 := hR0.same hs;replace hmz := hmz.same hs;replace hgl := hs.lt hgl;have hTl0 := hT.lt;clear hn hs;refine aU (n := 2) rfl rfl cI rfl (bJ hmz.one) hT zo ?_;intro w4 hn hs;have hT : WB w4 bT (decide _) s9 := hn.congr fun i hi => aN (g := wF _ _) hi;replace hS := hS.trans hs;replace hw0 := hs.le hw0;clear hn;replace hR0 := hR0.same hs;replace hmz := hmz.same hs;refine aF rfl rfl (aG (aE (aD (aD (aB (aA rfl rfl (dL rfl rfl (aA rfl rfl (aJ rfl rfl rfl (aA rfl rfl (aJ rfl rfl rfl (aI rfl rfl rfl rfl (cE rfl rfl rfl rfl (aA rfl rfl (aJ rfl rfl zz (aA rfl rfl (aJ rfl rfl zz (aA rfl rfl (aJ rfl rfl zz (aR rfl rfl wH rfl rfl (fS) ?_))))))))))))))))))));rintro _ w5 ⟨rfl, hs⟩;replace hw0 := hs.le hw0;replace hS := hS.trans hs;replace hR0 := hR0.same hs;replace hT := hT.same hs;replace hmz := hmz.same hs;refine aJ rfl rfl zz (aI rfl rfl rfl rfl (cE rfl zz rfl rfl (aA rfl rfl (aJ rfl rfl zz (aA rfl rfl (aJ rfl rfl zz (aI rfl rfl rfl rfl (cE rfl zz rfl rfl (aA rfl rfl (aJ rfl rfl zz (aA rfl rfl (aJ rfl rfl zz (aA rfl rfl (aJ rfl rfl zz (aI rfl rfl rfl rfl (cE rfl zz rfl rfl (aA rfl rfl (aJ rfl rfl zz (aM rfl u29 rfl cI hT.rd rfl (aJ rfl rfl zz (aR rfl rfl cf20 rfl rfl (eP s9 (sw x) hmz.ins (iW (uJ hlt))) ?_)))))))))))))))))))));rintro _ w6 ⟨rfl, hs⟩;replace hw0 := hs.le hw0;replace hS := hS.trans hs;replace hR0 := hR0.same hs;replace hT := hT.same hs;replace hmz := hmz.same hs;refine aJ rfl rfl zz (aA rfl rfl (aJ rfl rfl zz (aI rfl rfl rfl rfl (cE rfl zz rfl rfl (aG (aE ?_))))));refine aK rfl (fun h463 => ?_) (fun h463 => ?_)
 ·first | (cases h463; done) | (simp at h463; done) | (simp at h463; omega) | omega
 ·simp only [gt_iff_lt, decide_eq_false_iff_not, Int.not_lt] at h463;refine aX (aE (aD (aB (aM rfl u29 rfl cI hT.rd rfl (aU (n := 2) rfl rfl cI rfl (bJ hmz.one) hR0 zo ?_)))));intro w7 hn hs;have hR : WB w7 bR (decide _) s9 := hn.congr fun i hi => aN (g := wF _ _) hi;replace hS := hS.trans hs;replace hw0 := hs.le hw0;clear hn;replace hmz := hmz.same hs;exact aF rfl rfl (aG (aE (eO rfl rfl rfl u29 rfl cI hR.rd ⟨_, rfl, ⟨s9, rfl, hmz.mono fun g h _ => by omega⟩, hS⟩)))
set_option maxHeartbeats 800000 in
theorem roundsA {w : World} (s : Value) (x : Int) (h1 : Mz w (fun g => g < w.heap.size) s x.natAbs) (hx9 : x.natAbs < midN) (p : Int) (v : Value) (ok : Bool) (hf : ¬ (-((2 ^ 127 : Nat) : Int) ≤ x ∧ x < ((2 ^ 127 : Nat) : Int))) :
 Ret Tryz.prog 10 #[.int .i64 128, .agg #[.bool (decide (x < 0)), s], .int .i64 p, v, .bool ok] w fun v w' => v = .bool true ∧ Same [] w w' := by
 have hS := Same.refl [] w;obtain ⟨H, hH⟩ : ∃ H, H = w.heap.size := ⟨_, rfl⟩;have hw0 := Nat.le_of_eq hH;rw [← hH] at h1;refine aS Tryz.func10 Tryz.ntmps10 rfl rfl (aD (aB (cA rfl rfl rfl ?_)));intro w1 hn hs;replace hw0 := hs.le hw0;replace hS := hS.trans hs;replace h1 := h1.same hs;obtain ⟨bL, hbL⟩ : ∃ x, x = w.heap.size := ⟨_, rfl⟩
 have hL : WB w1 bL (decide (x < 0)) s := by rw [hn, hbL]; exact WB.box _ _ _
 rw [← hbL];have hbLH : H ≤ bL := by omega
 have hw01 := hw0;have hbLl := hL.lt;clear hn hs;refine aF rfl rfl (aG (aE (aD (aB (aA rfl rfl (aM rfl u29 rfl cI hL.rd rfl (aR rfl rfl cf24 rfl rfl (oD s x h1.ins hx9) ?_)))))));rintro _ w2 ⟨g2, b, rfl, hgb, hgl2, hrd, hb, hs⟩
 obtain rfl : b = false := by
  cases b
  ·rfl
  ·exact absurd (hb.1 rfl) hf
 replace hw0 := hs.le hw0;replace hS := hS.trans hs;refine aA rfl rfl (aY rfl rfl rfl (aY rfl rfl rfl (aF rfl rfl (aF rfl rfl (aG (aE (aD (aD (aB (aA rfl rfl (dL rfl rfl (aG (aE ?_)))))))))))));refine aK rfl (fun h472 => ?_) (fun h472 => ?_)
 ·exact aD (aB (aF rfl rfl (aG (aE (aZ rfl rfl ⟨rfl, hS⟩)))))
 ·first | (cases h472; done) | (simp at h472; done)
set_option maxHeartbeats 800000 in
theorem roundsB {w : World} (s : Value) (x : Int) (h1 : Mz w (fun g => g < w.heap.size) s x.natAbs) (hx9 : x.natAbs < midN) (p : Int) (v : Value) (hf : -((2 ^ 127 : Nat) : Int) ≤ x ∧ x < ((2 ^ 127 : Nat) : Int)) (hd : p < (Rd.digs x.natAbs : Nat)) :
 Ret Tryz.prog 10 #[.int .i64 128, .agg #[.bool (decide (x < 0)), s], .int .i64 p, v, .bool false] w fun v w' => v = .bool true ∧ Same [] w w' := by
 have hS := Same.refl [] w;obtain ⟨H, hH⟩ : ∃ H, H = w.heap.size := ⟨_, rfl⟩;have hw0 := Nat.le_of_eq hH;rw [← hH] at h1;refine aS Tryz.func10 Tryz.ntmps10 rfl rfl (aD (aB (cA rfl rfl rfl ?_)));intro w1 hn hs;replace hw0 := hs.le hw0;replace hS := hS.trans hs;replace h1 := h1.same hs;obtain ⟨bL, hbL⟩ : ∃ x, x = w.heap.size := ⟨_, rfl⟩
 have hL : WB w1 bL (decide (x < 0)) s := by rw [hn, hbL]; exact WB.box _ _ _
 rw [← hbL];have hbLH : H ≤ bL := by omega
 have hw01 := hw0;have hbLl := hL.lt;clear hn hs;refine aF rfl rfl (aG (aE (aD (aB (aA rfl rfl (aM rfl u29 rfl cI hL.rd rfl (aR rfl rfl cf24 rfl rfl (oD s x h1.ins hx9) ?_)))))));rintro _ w2 ⟨g2, b, rfl, hgb, hgl2, hrd, hb, hs⟩;obtain rfl : b = true := hb.2 hf;replace hw0 := hs.le hw0;replace hS := hS.trans hs;replace hL := hL.same hs;replace h1 := h1.same hs;refine aA rfl rfl (aY rfl rfl rfl (aY rfl rfl rfl (aF rfl rfl (aF rfl rfl (aG (aE (aD (aD (aB (aA rfl rfl (dL rfl rfl (aG (aE ?_)))))))))))));refine aK rfl (fun h472 => ?_) (fun h472 => ?_)
 ·first | (cases h472; done) | (simp at h472; done)
 ·refine aX (aE (aD (aD (aB (aM rfl u29 rfl cI hL.rd rfl (aR rfl rfl cf20 rfl rfl (eP s x h1.ins (iW hx9)) ?_))))));rintro _ w3 ⟨rfl, hs⟩;replace hw0 := hs.le hw0;replace hS := hS.trans hs;replace hgl2 := hs.lt hgl2;refine aA rfl rfl (aI rfl rfl rfl rfl (aG (aE ?_)));refine aK rfl (fun h476 => ?_) (fun h476 => ?_)
  ·simp only [gt_iff_lt, decide_eq_true_eq] at h476;exact aD (aB (aA rfl rfl (dL rfl rfl (aF rfl rfl (aG (aE (aZ rfl rfl ⟨rfl, hS⟩)))))))
  ·simp only [gt_iff_lt, decide_eq_false_iff_not, Int.not_lt] at h476;omega
set_option maxHeartbeats 800000 in
theorem roundsC {w : World} (s : Value) (x : Int) (h1 : Mz w (fun g => g < w.heap.size) s x.natAbs) (hx9 : x.natAbs < midN) (p : Int) (g o c : Nat) (y : Nat → Nat) (hf : -((2 ^ 127 : Nat) : Int) ≤ x ∧ x < ((2 ^ 127 : Nat) : Int)) (hd : (Rd.digs x.natAbs : Nat) ≤ p) (hx : Rd w g o 2 (ug y)) (hgl : g < w.heap.size) (he : y 0 = tw x 0 ∧ y 1 = tw x 1) :
 Ret Tryz.prog 10 #[.int .i64 128, .agg #[.bool (decide (x < 0)), s], .int .i64 p, .slice (some ⟨g, o, none⟩) 2 c, .bool true] w fun v w' => v = .bool true ∧ Same [] w w' := by
 have hS := Same.refl [] w;obtain ⟨H, hH⟩ : ∃ H, H = w.heap.size := ⟨_, rfl⟩;have hw0 := Nat.le_of_eq hH;rw [← hH] at h1;refine aS Tryz.func10 Tryz.ntmps10 rfl rfl (aD (aB (cA rfl rfl rfl ?_)));intro w1 hn hs;replace hw0 := hs.le hw0;replace hS := hS.trans hs;replace h1 := h1.same hs;replace hx := hx.same hs;replace hgl := hs.lt hgl;obtain ⟨bL, hbL⟩ : ∃ x, x = w.heap.size := ⟨_, rfl⟩
 have hL : WB w1 bL (decide (x < 0)) s := by rw [hn, hbL]; exact WB.box _ _ _
 rw [← hbL];have hbLH : H ≤ bL := by omega
 have hw01 := hw0;have hbLl := hL.lt;clear hn hs;refine aF rfl rfl (aG (aE (aD (aB (aA rfl rfl (aM rfl u29 rfl cI hL.rd rfl (aR rfl rfl cf24 rfl rfl (oD s x h1.ins hx9) ?_)))))));rintro _ w2 ⟨g2, b, rfl, hgb, hgl2, hrd, hb, hs⟩;obtain rfl : b = true := hb.2 hf;replace hw0 := hs.le hw0;replace hS := hS.trans hs;replace hL := hL.same hs;replace h1 := h1.same hs;replace hx := hx.same hs;replace hgl := hs.lt hgl;refine aA rfl rfl (aY rfl rfl rfl (aY rfl rfl rfl (aF rfl rfl (aF rfl rfl (aG (aE (aD (aD (aB (aA rfl rfl (dL rfl rfl (aG (aE ?_)))))))))))));refine aK rfl (fun h472 => ?_) (fun h472 => ?_)
 ·first | (cases h472; done) | (simp at h472; done)
 ·refine aX (aE (aD (aD (aB (aM rfl u29 rfl cI hL.rd rfl (aR rfl rfl cf20 rfl rfl (eP s x h1.ins (iW hx9)) ?_))))));rintro _ w3 ⟨rfl, hs⟩;replace hw0 := hs.le hw0;replace hS := hS.trans hs;replace hx := hx.same hs;replace hgl := hs.lt hgl;replace hrd := hrd.same hs;replace hgl2 := hs.lt hgl2;refine aA rfl rfl (aI rfl rfl rfl rfl (aG (aE ?_)));refine aK rfl (fun h476 => ?_) (fun h476 => ?_)
  ·simp only [gt_iff_lt, decide_eq_true_eq] at h476;omega
  ·simp only [gt_iff_lt, decide_eq_false_iff_not, Int.not_lt] at h476;refine aX (aE (aD (aB (aA rfl rfl (aA rfl rfl (aJ rfl rfl rfl (aA rfl rfl (aJ rfl rfl rfl (aA rfl rfl (aJ rfl rfl rfl (aR rfl rfl cf5 rfl rfl (lH g o c g2 0 2 y (tw x) hx hrd hgl hgl2) ?_)))))))))));rintro _ w4 ⟨rfl, hs⟩;rw [decide_eq_true he];replace hw0 := hs.le hw0;replace hS := hS.trans hs;replace hgl := hs.lt hgl;replace hgl2 := hs.lt hgl2;exact cH rfl rfl rfl rfl (aF rfl rfl (aG (aE (aZ rfl rfl ⟨rfl, hS⟩))))
end Go.Proofs.YtccicbpeajdjgaaGreatDoor.Vm
namespace Go.Proofs.YtccicbpeajdjgaaGreatDoor.Vm
open Go Mix Wd
/-- the cells of a number: the low word, the high word -/
def nF (lo hi : Int) : Nat → Value
 | 0 => .int .u64 lo
 | _ => .int .i64 hi
def NB (w : World) (b : Nat) (lo hi : Int) : Prop := Row w b 44 2 (nF lo hi)
/-- a number as a value -/
def nv (z : Int) : Value := .agg #[.int .u64 (z % 18446744073709551616), .int .i64 (z / 18446744073709551616)]
/-- the numbers that a decimal can hold -/
def N128 (z : Int) : Prop := -170141183460469231731687303715884105728 ≤ z ∧ z < 170141183460469231731687303715884105728
section
variable {w w' : World} {b : Nat} {lo hi : Int} {S : List Nat}
theorem NB.c0 (h : NB w b lo hi) : w.cell? ⟨b, 0, none⟩ = some (.int .u64 lo) := Row.cell (i := 0) h zo
theorem NB.c1 (h : NB w b lo hi) : w.cell? ⟨b, 1, none⟩ = some (.int .i64 hi) := Row.cell (i := 1) h zo
theorem NB.fz (h : NB w b lo hi) (i : Nat) : w.frozen? ⟨b, i, none⟩ = false := Row.fz h i
theorem NB.lt (h : NB w b lo hi) : b < w.heap.size := Row.lt h
theorem NB.same (h : NB w b lo hi) (hs : Same S w w') (hb : b ∉ S := by first | (simp; done) | (simp; omega)) : NB w' b lo hi := Row.same h hs hb
theorem NB.drew (h : NB w b lo hi) : NB w.drew b lo hi := h
theorem NB.rd (h : NB w b lo hi) : Rd w b 0 2 (nF lo hi) := (Row.rd h 0 2 zo).congr fun i _ => by rw [Nat.zero_add]
theorem NB.s0 (h : NB w b lo hi) {z : Int} (hw : w' = w.setCell ⟨b, 0, none⟩ (.int .u64 z)) : NB w' b z hi := (Row.set' h (i := 0) hw).congr fun i hi9 => by
 rcases (show i = 0 ∨ i = 1 by omega) with rfl | rfl <;> rfl
theorem NB.s1 (h : NB w b lo hi) {z : Int} (hw : w' = w.setCell ⟨b, 1, none⟩ (.int .i64 z)) : NB w' b lo z := (Row.set' h (i := 1) hw).congr fun i hi9 => by
 rcases (show i = 0 ∨ i = 1 by omega) with rfl | rfl <;> rfl
theorem NB.box (w : World) (lo hi : Int) : NB (w.alloc (.cells #[.int .u64 lo, .int .i64 hi] 44)) w.heap.size lo hi :=
 (Row.alloc w #[.int .u64 lo, .int .i64 hi] 44).congr fun i hi => by
  have hi : i < 2 := hi
  rcases (show i = 0 ∨ i = 1 by omega) with rfl | rfl <;> rfl
end
theorem bY (lo hi : Int) : ∀ v ∈ (#[.int .u64 lo, .int .i64 hi] : Array Value).toList, v.oneCell' = true := by
 intro v hv;simp at hv
 rcases hv with rfl | rfl <;> rfl
theorem dO (w : World) : (zeroValue 44).run Tryz.prog w = .ok (.agg #[.int .u64 0, .int .i64 0]) w := by kernel_rfl
end Go.Proofs.YtccicbpeajdjgaaGreatDoor.Vm
