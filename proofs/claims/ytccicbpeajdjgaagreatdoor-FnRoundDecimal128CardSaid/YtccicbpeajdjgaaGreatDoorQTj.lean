/- The program's tables of powers of ten, as the row gives them. -/
import Derived.Test.YtccicbpeajdjgaaGreatDoorQVm
import Derived.Test.YtccicbpeajdjgaaGreatDoorQTc
set_option linter.unusedVariables false
set_option linter.unusedSimpArgs false
namespace Go.Proofs.YtccicbpeajdjgaaGreatDoor.Vm
open Go Mix Wd
/-- cells of a table of numbers -/
def tabF (f : Nat → Nat) : Nat → Value := fun i => if i % 2 = 0 then .int .u64 (((f (i / 2) : Nat) : Int) % 18446744073709551616) else .int .i64 (((f (i / 2) : Nat) : Int) / 18446744073709551616)
/-- the package variables that the program reads -/
def Tab (w : World) : Prop := 14 ≤ w.heap.size ∧ Rd w 0 0 78 (tabF fun k => 10 ^ k) ∧ Rd w 1 0 78 (tabF fun k => 10 ^ k / 2) ∧ w.cell? ⟨2, 0, none⟩ = some (.int .i64 40) ∧ w.cell? ⟨5, 0, none⟩ = some (.int .i64 40)
section
variable {w w' : World} {S : List Nat}
theorem dI {b o : Nat} {v : Value} (h : w.cell? ⟨b, o, none⟩ = some v) (hs : Same S w w') (hb : b ∉ S := by first | (simp; done) | (simp; omega)) (hl : b < w.heap.size := by omega) : w'.cell? ⟨b, o, none⟩ = some v := by
 have h1 : Rd w b o 1 (fun _ => v) := fun i hi => by
  obtain rfl : i = 0 := by omega
  exact h
 exact h1.same hs hb hl 0 zo
theorem Tab.same (h : Tab w) (hs : Same S w w') (hS : ∀ g, g ∈ S → 14 ≤ g := by first | (simp; done) | (simp; omega) | (simp only [List.mem_singleton]; rintro g rfl hg; omega)) : Tab w' := by
 obtain ⟨h0, h1, h2, h3, h4⟩ := h
 have hn : ∀ b, b < 14 → b ∉ S := fun b hb hm => by have := hS b hm; omega
 exact ⟨hs.le h0, h1.same hs (hn _ zo) zw, h2.same hs (hn _ zo) zw, dI h3 hs (hn _ zo) zw, dI h4 hs (hn _ zo) zw⟩
theorem kP {b k : Nat} {f : Nat → Nat} (h : Rd w b 0 78 (tabF f)) (hk : k ≤ 38) : Rd w b (0 + Int.toNat ((k : Nat) : Int) * 2) 2 (nF (((f k : Nat) : Int) % 18446744073709551616) (((f k : Nat) : Int) / 18446744073709551616)) := fun i hi => by
 have h1 := h (0 + Int.toNat ((k : Nat) : Int) * 2 + i) (by rw [Int.toNat_natCast]; omega);rw [Nat.zero_add] at h1;rw [h1, Int.toNat_natCast];rcases (show i = 0 ∨ i = 1 by omega) with rfl | rfl
 ·unfold tabF;rw [if_pos zw, show (0 + k * 2 + 0) / 2 = k by omega];rfl
 ·unfold tabF;rw [if_neg zw, show (0 + k * 2 + 1) / 2 = k by omega];rfl
end
section
variable {X : Cx} {S : World → Prop} {ops : Array Oper} {ex : List Nat} {π : OT} {c : Bool} {k : Nat} {ks : List KI} {ds : List Deferred} {l : Kn} {w : World} {d ty : Nat} {pos : String} {aft : Array Edge} {g : Option (Nat × Bool)} {v : Value} {op : Op}
theorem WF.idxA {T E s n : Nat} {x i : Operand} {b o : Nat} {kd : IntKind} {j : Int} (ho : ops[k]? = some ⟨some d, .indexAddr T x i, ty, pos, aft, g⟩) (hg : Tk ops l g) (hx : ev l x = some (.pointer (some ⟨b, o, none⟩))) (hi : ev l i = some (.int kd j)) (hu : X.P.underlying T = some (.array n E)) (hs : (X.P.info? E).map (·.size) = some s)
 (h0 : 0 ≤ j) (h1 : j < (n : Int)) (hd : Nat.blt d X.n = true) (kk : WF X S ops ex π c ks ds ((d, .pointer (some ⟨b, o + j.toNat * s, none⟩)) :: l) w) : WF X S ops ex (.cons k π) c ks ds l w :=
 eJ ho hg rfl rfl hd (fun a ha w => by
  simp only [execOp, ha.ev hx, ha.ev hi, Instr.indexAt, asIntOf, Instr.sureAddr, Sem.run_bind, Sem.run_pure, Result.andThen_ok, run_underlying hu];rw [if_pos ⟨h0, h1⟩]
  simp [dP hs, eR]) kk
end
end Go.Proofs.YtccicbpeajdjgaaGreatDoor.Vm
namespace Go.Proofs.YtccicbpeajdjgaaGreatDoor.Vm
open Go Mix Go.RowKit Wd
abbrev u120 := @Tryz.underlying120
set_option maxRecDepth 20000
set_option maxHeartbeats 400000 in
theorem vP {w : World} (hT : Tab w) (k : Nat) (hk : k ≤ 38) :
 Ret Tryz.prog 44 #[.int .i64 (k : Nat)] w fun v w' => v = .agg #[.int .u64 (((10 ^ k : Nat) : Int) % 18446744073709551616), .int .i64 (((10 ^ k : Nat) : Int) / 18446744073709551616)] ∧ Same [] w w' := by
 have hS := Same.refl [] w;obtain ⟨H, hH⟩ : ∃ H, H = w.heap.size := ⟨_, rfl⟩;have hw0 := Nat.le_of_eq hH;have hT14 := hT.1;refine aS Tryz.func44 Tryz.ntmps44 rfl rfl (aD (aB (bF dO rfl rfl ?_)));intro w1 hn hs;obtain ⟨bR, hbR⟩ : ∃ x, x = w.heap.size := ⟨_, rfl⟩
 have hR : NB w1 bR 0 0 := by rw [hn, hbR]; exact NB.box _ _ _
 rw [← hbR];have hbRH : H ≤ bR := by omega
 replace hw0 := hs.le hw0;replace hS := hS.trans hs;replace hT := hT.same hs;clear hn hs;refine aG (aE (aD (aB (aA rfl rfl (mG rfl rfl u120 bC zw zw rfl (aM rfl u44 rfl bC (kP (f := fun k => 10 ^ k) hT.2.1 hk) rfl (aU (n := 2) rfl rfl bC rfl (bY _ _) hR zo ?_)))))));intro w2 hn9 hs;replace hR : NB w2 bR _ _ := hn9.congr fun i hi => aN (g := nF _ _) hi;replace hS := hS.trans hs;replace hw0 := hs.le hw0;clear hn9;exact aG (aE (cS rfl rfl u44 rfl bC hR.rd ⟨rfl, hS⟩))
set_option maxHeartbeats 400000 in
theorem getHalf {w : World} (hT : Tab w) (k : Nat) (hk : k ≤ 38) :
 Ret Tryz.prog 45 #[.int .i64 (k : Nat)] w fun v w' => v = .agg #[.int .u64 (((10 ^ k / 2 : Nat) : Int) % 18446744073709551616), .int .i64 (((10 ^ k / 2 : Nat) : Int) / 18446744073709551616)] ∧ Same [] w w' := by
 have hS := Same.refl [] w;obtain ⟨H, hH⟩ : ∃ H, H = w.heap.size := ⟨_, rfl⟩;have hw0 := Nat.le_of_eq hH;have hT14 := hT.1;refine aS Tryz.func45 Tryz.ntmps45 rfl rfl (aD (aB (bF dO rfl rfl ?_)));intro w1 hn hs;obtain ⟨bR, hbR⟩ : ∃ x, x = w.heap.size := ⟨_, rfl⟩
 have hR : NB w1 bR 0 0 := by rw [hn, hbR]; exact NB.box _ _ _
 rw [← hbR];have hbRH : H ≤ bR := by omega
 replace hw0 := hs.le hw0;replace hS := hS.trans hs;replace hT := hT.same hs;clear hn hs;refine aG (aE (aD (aB (aA rfl rfl (mG rfl rfl u120 bC zw zw rfl (aM rfl u44 rfl bC (kP (f := fun k => 10 ^ k / 2) hT.2.2.1 hk) rfl (aU (n := 2) rfl rfl bC rfl (bY _ _) hR zo ?_)))))));intro w2 hn9 hs;replace hR : NB w2 bR _ _ := hn9.congr fun i hi => aN (g := nF _ _) hi;replace hS := hS.trans hs;replace hw0 := hs.le hw0;clear hn9;exact aG (aE (cS rfl rfl u44 rfl bC hR.rd ⟨rfl, hS⟩))
end Go.Proofs.YtccicbpeajdjgaaGreatDoor.Vm
namespace Go.Proofs.YtccicbpeajdjgaaGreatDoor.Vm
open Go Mix Go.RowKit Wd
set_option maxRecDepth 20000
theorem mY (us : Array Value) (w : World) : (callFunc 15 us).run Tryz.prog w = .ok (.enter 15 us) w := by kernel_rfl
theorem cf51 (us : Array Value) (w : World) : (callFunc 51 us).run Tryz.prog w = .ok (.enter 51 us) w := by kernel_rfl
theorem cf81 (us : Array Value) (w : World) : (callFunc 81 us).run Tryz.prog w = .ok (.enter 81 us) w := by kernel_rfl
theorem tO (us : Array Value) (w : World) : (callFunc 89 us).run Tryz.prog w = .ok (.enter 89 us) w := by kernel_rfl
set_option maxHeartbeats 200000 in
theorem jV {w : World} (u v : Value) :
 Ret Tryz.prog 89 #[u, v] w fun _ w' => w' = w := by
 refine aS Tryz.func89 Tryz.ntmps89 rfl rfl (aX (pH rfl rfl ?_));rfl
set_option maxHeartbeats 400000 in
theorem fromI1 {w : World} (x : Int) (hx : -9223372036854775808 ≤ x ∧ x < 9223372036854775808) (hc : 0 < x) :
 Ret Tryz.prog 58 #[.int .i64 x] w fun v w' => v = .agg #[.int .u64 (x % 18446744073709551616), .int .i64 (x / 18446744073709551616)] ∧ Same [] w w' := by
 have hS := Same.refl [] w;obtain ⟨H, hH⟩ : ∃ H, H = w.heap.size := ⟨_, rfl⟩;have hw0 := Nat.le_of_eq hH;refine aS Tryz.func58 Tryz.ntmps58 rfl rfl (aD (aB (bF dO rfl rfl ?_)));intro w1 hn hs;obtain ⟨bR, hbR⟩ : ∃ x, x = w.heap.size := ⟨_, rfl⟩
 have hR : NB w1 bR 0 0 := by rw [hn, hbR]; exact NB.box _ _ _
 rw [← hbR];have hbRH : H ≤ bR := by omega
 replace hw0 := hs.le hw0;replace hS := hS.trans hs;clear hn hs;refine aG (aE (bN (aD (aB (aA rfl rfl (aI rfl rfl rfl rfl (aF rfl rfl (aG (aE ?_)))))))));refine aK rfl (fun h52 => ?_) (fun h52 => ?_)
 ·simp only [gt_iff_lt, decide_eq_true_eq] at h52;refine aD (aB (aA rfl rfl (cW rfl Tryz.underlying2 u25 (wU _) rfl (aR rfl rfl mY rfl rfl (gY _ _) ?_))));rintro _ w2 ⟨rfl, hs⟩;replace hw0 := hs.le hw0;replace hS := hS.trans hs;replace hR := hR.same hs;refine aU (n := 2) rfl rfl bC rfl (bY _ _) hR zo ?_;intro w3 hn9 hs;replace hR : NB w3 bR _ _ := hn9.congr fun i hi => aN (g := nF _ _) hi;replace hS := hS.trans hs;replace hw0 := hs.le hw0;clear hn9;refine aG (aE (cS rfl rfl u44 rfl bC hR.rd ?_));refine ⟨?_, hS⟩;exact iG zw zw
 ·simp only [gt_iff_lt, decide_eq_false_iff_not, Int.not_lt] at h52;omega
set_option maxHeartbeats 400000 in
theorem fromI2 {w : World} (x : Int) (hx : -9223372036854775808 ≤ x ∧ x < 9223372036854775808) (hc : x < 0) :
 Ret Tryz.prog 58 #[.int .i64 x] w fun v w' => v = .agg #[.int .u64 (x % 18446744073709551616), .int .i64 (x / 18446744073709551616)] ∧ Same [] w w' := by
 have hS := Same.refl [] w;obtain ⟨H, hH⟩ : ∃ H, H = w.heap.size := ⟨_, rfl⟩;have hw0 := Nat.le_of_eq hH;refine aS Tryz.func58 Tryz.ntmps58 rfl rfl (aD (aB (bF dO rfl rfl ?_)));intro w1 hn hs;obtain ⟨bR, hbR⟩ : ∃ x, x = w.heap.size := ⟨_, rfl⟩
 have hR : NB w1 bR 0 0 := by rw [hn, hbR]; exact NB.box _ _ _
 rw [← hbR];have hbRH : H ≤ bR := by omega
 replace hw0 := hs.le hw0;replace hS := hS.trans hs;clear hn hs;refine aG (aE (bN (aD (aB (aA rfl rfl (aI rfl rfl rfl rfl (aF rfl rfl (aG (aE ?_)))))))));refine aK rfl (fun h52 => ?_) (fun h52 => ?_)
 ·simp only [gt_iff_lt, decide_eq_true_eq] at h52;omega
 ·simp only [gt_iff_lt, decide_eq_false_iff_not, Int.not_lt] at h52;refine aD (aB (aA rfl rfl (aI rfl rfl rfl rfl (aF rfl rfl (aG (aE ?_))))));refine aK rfl (fun h54 => ?_) (fun h54 => ?_)
  ·simp only [decide_eq_true_eq] at h54;refine aD (aB (aA rfl rfl (cW rfl Tryz.underlying2 u25 (wU _) rfl (aR rfl rfl mY rfl rfl (gY _ _) ?_))));rintro _ w2 ⟨rfl, hs⟩;replace hw0 := hs.le hw0;replace hS := hS.trans hs;replace hR := hR.same hs;refine aU (n := 2) rfl rfl bC rfl (bY _ _) hR zo ?_;intro w3 hn9 hs;replace hR : NB w3 bR _ _ := hn9.congr fun i hi => aN (g := nF _ _) hi;replace hS := hS.trans hs;replace hw0 := hs.le hw0;clear hn9;refine aG (aE (cS rfl rfl u44 rfl bC hR.rd ?_));refine ⟨?_, hS⟩;exact iG zw zw
  ·simp only [decide_eq_false_iff_not, Int.not_lt] at h54;omega
set_option maxHeartbeats 400000 in
theorem fromI3 {w : World} (x : Int) (hx : -9223372036854775808 ≤ x ∧ x < 9223372036854775808) (hc : x = 0) :
 Ret Tryz.prog 58 #[.int .i64 x] w fun v w' => v = .agg #[.int .u64 (x % 18446744073709551616), .int .i64 (x / 18446744073709551616)] ∧ Same [] w w' := by
 have hS := Same.refl [] w;obtain ⟨H, hH⟩ : ∃ H, H = w.heap.size := ⟨_, rfl⟩;have hw0 := Nat.le_of_eq hH;refine aS Tryz.func58 Tryz.ntmps58 rfl rfl (aD (aB (bF dO rfl rfl ?_)));intro w1 hn hs;obtain ⟨bR, hbR⟩ : ∃ x, x = w.heap.size := ⟨_, rfl⟩
 have hR : NB w1 bR 0 0 := by rw [hn, hbR]; exact NB.box _ _ _
 rw [← hbR];have hbRH : H ≤ bR := by omega
 replace hw0 := hs.le hw0;replace hS := hS.trans hs;clear hn hs;refine aG (aE (bN (aD (aB (aA rfl rfl (aI rfl rfl rfl rfl (aF rfl rfl (aG (aE ?_)))))))));refine aK rfl (fun h52 => ?_) (fun h52 => ?_)
 ·simp only [gt_iff_lt, decide_eq_true_eq] at h52;omega
 ·simp only [gt_iff_lt, decide_eq_false_iff_not, Int.not_lt] at h52;refine aD (aB (aA rfl rfl (aI rfl rfl rfl rfl (aF rfl rfl (aG (aE ?_))))));refine aK rfl (fun h54 => ?_) (fun h54 => ?_)
  ·simp only [decide_eq_true_eq] at h54;omega
  ·simp only [decide_eq_false_iff_not, Int.not_lt] at h54;refine aD (aB (eH rfl rfl (v := .agg #[.int .u64 0, .int .i64 0]) (fun w => by kernel_rfl) rfl rfl (aU (n := 2) rfl rfl bC rfl (bY _ _) hR zo ?_)));intro w2 hn9 hs;replace hR : NB w2 bR _ _ := hn9.congr fun i hi => aN (g := nF _ _) hi;replace hS := hS.trans hs;replace hw0 := hs.le hw0;clear hn9;refine aG (aE (cS rfl rfl u44 rfl bC hR.rd ?_));refine ⟨?_, hS⟩;exact iG zw zw
set_option maxHeartbeats 800000 in
theorem fitsP {w : World} (hT : Tab w) (x : Int) (hx : N128 x) (hm : -170141183460469231731687303715884105728 < x) (p : Nat) (hp : 1 ≤ p ∧ p ≤ 38) :
 Ret Tryz.prog 49 #[.agg #[.int .u64 (x % 18446744073709551616), .int .i64 (x / 18446744073709551616)], .int .i32 (p : Nat)] w fun v w' => v = .bool (decide ((x.natAbs : Int) < ((10 ^ p : Nat) : Int))) ∧ Same [] w w' := by
 have hS := Same.refl [] w;obtain ⟨H, hH⟩ : ∃ H, H = w.heap.size := ⟨_, rfl⟩;have hw0 := Nat.le_of_eq hH;have hT14 := hT.1;refine aS Tryz.func49 Tryz.ntmps49 rfl rfl (aD (aB (cA rfl rfl rfl ?_)));intro w1 hn hs;replace hw0 := hs.le hw0;replace hS := hS.trans hs;replace hT := hT.same hs;obtain ⟨bL, hbL⟩ : ∃ x, x = w.heap.size := ⟨_, rfl⟩
 have hL : NB w1 bL (x % 18446744073709551616) (x / 18446744073709551616) := by rw [hn, hbL]; exact NB.box _ _ _
 rw [← hbL];have hbLH : H ≤ bL := by omega
 have hw0bL := hw0;have hbLl := hL.lt;clear hn hs;refine aF rfl rfl (aG (aE (aD (aB (aA rfl rfl (aI rfl rfl rfl rfl (fN rfl Tryz.underlying9 rfl rfl (aR rfl rfl tO rfl rfl (jV _ _) ?_))))))));rintro _ w99 hw99;replace hw99 := hw99.symm;subst hw99;refine aG (aE (aD (aB (aA rfl rfl (aI rfl rfl rfl rfl (fN rfl Tryz.underlying9 rfl rfl (aR rfl rfl tO rfl rfl (jV _ _) ?_)))))));rintro _ w99 hw99;replace hw99 := hw99.symm;subst hw99;refine aG (aE (aD ?_));replace hw0 := (aC _).le hw0;replace hS := hS.trans (aC _);replace hL := hL.same (aC _);replace hT := hT.same (aC _);refine cX (fun wS => NB wS bL (x % 18446744073709551616) (x / 18446744073709551616) ∧ Tab wS) [] (.cons 0 (.cons 2 (.cons 3 (.cons 4 (.cons 1 (.cons 5 (.cons 6 .nil))))))) cL zy ⟨hL, hT⟩ (cG rfl aH rfl u44 rfl bC (fun w9 h9 => h9.1.rd) rfl (bH rfl aH rfl rfl (WF.idxA rfl aH rfl rfl u120 bC zw zw rfl (cG rfl aH rfl u44 rfl bC (fun _ h9 => kP (f := fun k => 10 ^ k) h9.2.2.1 zw) rfl (bW rfl aH rfl rfl cf81 rfl rfl (absN x hx hm) ?_)))));rintro _ w2 ⟨rfl, hs⟩;replace hw0 := hs.le hw0;replace hS := hS.trans hs;replace hL := hL.same hs;replace hT := hT.same hs;refine aQ rfl ⟨hL, hT⟩ (bW rfl aH rfl rfl cf51 rfl rfl (less (x.natAbs : Int) ((10 ^ p : Nat) : Int)) ?_);rintro _ w3 ⟨rfl, hs⟩;replace hw0 := hs.le hw0;replace hS := hS.trans hs;replace hL := hL.same hs;replace hT := hT.same hs;exact aQ rfl ⟨hL, hT⟩ (dC rfl aH rfl rfl (cO (aE (aZ rfl rfl ⟨rfl, hS⟩))))
end Go.Proofs.YtccicbpeajdjgaaGreatDoor.Vm
namespace Go.Proofs.YtccicbpeajdjgaaGreatDoor.Vm
open Go Mix Wd
/-- the number that n words make -/
def un (a : Nat → Nat) : Nat → Nat
 | 0 => 0
 | n + 1 => un a n + a n * 18446744073709551616 ^ n
theorem gO (a : Nat → Nat) (n : Nat) : un a (n + 1) = un a n + a n * 18446744073709551616 ^ n := rfl
theorem pO {a b : Nat → Nat} : ∀ {n : Nat}, (∀ i, i < n → a i = b i) → un a n = un b n
 | 0, _ => rfl
 | n + 1, h => by rw [gO, gO, pO fun i hi => h i zw, h n zw]
theorem upos (n : Nat) : 0 < 18446744073709551616 ^ n := Nat.pow_pos zo
theorem un_lt {a : Nat → Nat} : ∀ {n : Nat}, (∀ i, i < n → a i < 18446744073709551616) → un a n < 18446744073709551616 ^ n
 | 0, _ => Nat.one_pos
 | n + 1, h => by
  have h1 := un_lt (a := a) (n := n) fun i hi => h i zw;have h2 : (a n + 1) * 18446744073709551616 ^ n ≤ 18446744073709551616 * 18446744073709551616 ^ n := Nat.mul_le_mul_right _ (h n zw);rw [gO, Nat.pow_succ];rw [Nat.add_mul, Nat.one_mul] at h2;omega
theorem qO {a : Nat → Nat} {k : Nat} : ∀ {n : Nat}, k ≤ n → (∀ i, k ≤ i → i < n → a i = 0) → un a n = un a k
 | 0, hk, _ => by rw [show k = 0 by omega]
 | n + 1, hk, h => by
  rcases Nat.lt_or_ge n k with h1 | h1
  ·rw [show k = n + 1 by omega]
  ·rw [gO, h n h1 zw, Nat.zero_mul, Nat.add_zero, qO h1 fun i h2 h3 => h i h2 zw]
/-- the slice v holds n words, in a block of kind I -/
def Ug (w : World) (I : Nat → Prop) (v : Value) (n : Nat) (a : Nat → Nat) : Prop :=
 v = .slice none 0 0 ∧ n = 0 ∨ ∃ g o c, v = .slice (some ⟨g, o, none⟩) n c ∧ I g ∧ g < w.heap.size ∧ n ≤ c ∧ Rd w g o n (ug a)
section
variable {w w' : World} {I J : Nat → Prop} {v : Value} {n k : Nat} {a b : Nat → Nat} {S : List Nat}
theorem Ug.same (h : Ug w I v n a) (hs : Same S w w') (hS : ∀ g, g ∈ S → ¬ I g := by first | (simp; done) | (simp; omega) | (simp only [List.mem_singleton]; rintro g rfl hg; omega)) : Ug w' I v n a := by
 rcases h with h | ⟨g, o, c, h1, hl, h2, h3, h4⟩
 ·exact .inl h
 ·exact .inr ⟨g, o, c, h1, hl, hs.lt h2, h3, h4.same hs (fun hm => hS g hm hl) h2⟩
theorem Ug.mono (h : Ug w I v n a) (hl : ∀ g, I g → g < w.heap.size → J g) : Ug w J v n a := by
 rcases h with h | ⟨g, o, c, h1, hi, h2, h3⟩
 ·exact .inl h
 ·exact .inr ⟨g, o, c, h1, hl g hi h2, h2, h3⟩
theorem Ug.shape (h : Ug w I v n a) : ∃ A c, v = .slice A n c := by
 rcases h with ⟨h, rfl⟩ | ⟨g, o, c, h, _⟩
 ·exact ⟨_, _, h⟩
 ·exact ⟨_, _, h⟩
theorem Ug.lit {A : Option Addr} {c : Nat} (h : Ug w I (.slice A n c) n a) (h0 : 0 < n) : ∃ g o, A = some ⟨g, o, none⟩ ∧ I g ∧ g < w.heap.size ∧ n ≤ c ∧ Rd w g o n (ug a) := by
 rcases h with ⟨_, rfl⟩ | ⟨g, o, c, h1, h⟩
 ·omega
 ·cases h1;exact ⟨g, o, rfl, h⟩
theorem Ug.one (h : Ug w I v n a) : v.oneCell' = true := by
 rcases h with ⟨rfl, _⟩ | ⟨g, o, c, rfl, _⟩ <;> rfl
end
/-- the top word is not zero -/
def Un (a : Nat → Nat) (n : Nat) : Prop := n = 0 ∨ a (n - 1) ≠ 0
end Go.Proofs.YtccicbpeajdjgaaGreatDoor.Vm
namespace Go.Proofs.YtccicbpeajdjgaaGreatDoor.Vm
open Go Mix Go.RowKit Wd
abbrev u126 := @Tryz.underlying126
abbrev u150 := @Tryz.underlying150
set_option maxRecDepth 20000
theorem cV : (Tryz.prog.info? 150).map (·.size) = some 1 := by kernel_rfl
set_option maxHeartbeats 400000 in
theorem rA {w : World} (g o n c : Nat) (a : Nat → Nat) (hra : Rd w g o n (ug a)) (hnc : n ≤ c) (hn : n ≤ 1048576) :
 Ret Tryz.prog 136 #[.slice (some ⟨g, o, none⟩) n c] w fun v w' => w' = w ∧ ∃ k, k ≤ n ∧ v = .slice (some ⟨g, o, none⟩) k c ∧ Un a k ∧ un a k = un a n := by
 refine aS Tryz.func136 Tryz.ntmps136 rfl rfl (aD (aB (aF rfl rfl (aG (aE (aD (aB (aA rfl rfl (bB rfl u126 rfl (aF rfl rfl (aG (aE (aD (bN (dR (fun k : Nat => [(0, .slice (some ⟨g, o, none⟩) n c), (3, .int .i64 (k : Nat))]) (fun m k w' => w' = w ∧ m = k ∧ k ≤ n ∧ ∀ i, k ≤ i → i < n → a i = 0) n n ⟨rfl, rfl, trivial⟩ ⟨rfl, rfl, Nat.le_refl _, fun i h1 h2 => by omega⟩ ?_)))))))))))))));rintro m k w9 ⟨hw9, hm, hk, hz⟩;dsimp only;replace hw9 := hw9.symm;subst hw9;rcases (show k = 0 ∨ 0 < k ∧ (a (k - 1) = 0 ∨ a (k - 1) ≠ 0) by omega) with hk0 | ⟨hk0, hc | hc⟩
 ·subst hk0;refine aD (aD (aB (aA rfl rfl (aI rfl rfl rfl rfl (aA rfl rfl (aW rfl rfl rfl rfl (aW rfl rfl rfl rfl (aW rfl rfl rfl rfl (aW rfl rfl rfl rfl (aW rfl rfl rfl rfl (aW rfl rfl rfl rfl (cE rfl rfl rfl rfl (aG (aE ?_))))))))))))));refine aK rfl (fun h38 => ?_) (fun h38 => ?_)
  ·first | (simp at h38; done) | (cases h38; done)
  ·simp only at h38;exact dG rfl (aE (aD (aB (aA rfl rfl (aA rfl rfl (gZ rfl u126 cV ⟨_, _, rfl, by decide, by omega, show 0 = Int.toNat _ by rfl⟩ ⟨_, _, rfl, by decide, by decide, show 0 = Int.toNat _ by rfl⟩ rfl (aF rfl rfl (aG (aE (aZ rfl rfl ⟨rfl, 0, hk, by simp [sl0]; rfl, .inl rfl, (qO hk hz).symm⟩))))))))))
 ·refine aD (aD (aB (aA rfl rfl (aI rfl rfl rfl rfl (aA rfl rfl (aJ rfl rfl zz (aA rfl rfl (aJ rfl rfl zz (aA rfl rfl (aJ rfl rfl zz ?_))))))))))
  (refine aI rfl rfl (cT (aV ?_ ?_)) rfl ?_; (omega); (omega))
  refine aJ rfl rfl zz (cC rfl rfl u126 cV zw zw rfl (aJ rfl rfl zz (aL rfl u150 rfl (show _ = some (Value.int .u64 (a (k - 1) : Nat)) by rw [Nat.mul_one, show Int.toNat _ = k - 1 by omega]; exact hra (k - 1) zw) rfl (aJ rfl rfl zz (aI rfl rfl rfl rfl (cH rfl zz rfl rfl (aG (aE ?_))))))));refine aK rfl (fun h38 => ?_) (fun h38 => ?_)
  ·simp only [beq_iff_eq] at h38;refine aX (aE (bN (aB (aA rfl rfl ?_))))
   (refine aI rfl rfl (cT (aV ?_ ?_)) rfl ?_; (omega); (omega))
   refine aF rfl rfl (aG (cQ ?_))
   exact bZ (k - 1) (k - 1) zw ⟨rfl, eF rfl zw, trivial⟩ ⟨rfl, rfl, by omega, fun i h1 h2 => by
    rcases Nat.lt_or_ge i k with h3 | h3
    ·rw [show i = k - 1 by omega]; exact hc
    ·exact hz i h3 h2⟩
  ·first | (simp [hc] at h38; done) | (simp at h38; omega)
 ·refine aD (aD (aB (aA rfl rfl (aI rfl rfl rfl rfl (aA rfl rfl (aJ rfl rfl zz (aA rfl rfl (aJ rfl rfl zz (aA rfl rfl (aJ rfl rfl zz ?_))))))))))
  (refine aI rfl rfl (cT (aV ?_ ?_)) rfl ?_; (omega); (omega))
  refine aJ rfl rfl zz (cC rfl rfl u126 cV zw zw rfl (aJ rfl rfl zz (aL rfl u150 rfl (show _ = some (Value.int .u64 (a (k - 1) : Nat)) by rw [Nat.mul_one, show Int.toNat _ = k - 1 by omega]; exact hra (k - 1) zw) rfl (aJ rfl rfl zz (aI rfl rfl rfl rfl (cH rfl zz rfl rfl (aG (aE ?_))))))));refine aK rfl (fun h38 => ?_) (fun h38 => ?_)
  ·first | (simp [hc] at h38; done) | (simp at h38; omega)
  ·simp only [beq_eq_false_iff_ne, ne_eq] at h38;exact dG rfl (aE (aD (aB (aA rfl rfl (aA rfl rfl (gZ rfl u126 cV ⟨_, _, rfl, by omega, by omega, show k = Int.toNat _ by omega⟩ ⟨_, _, rfl, by decide, by omega, show 0 = Int.toNat _ by rfl⟩ rfl (aF rfl rfl (aG (aE (aZ rfl rfl ⟨rfl, k, hk, by simp [sl0]; rfl, .inr hc, (qO hk hz).symm⟩))))))))))
end Go.Proofs.YtccicbpeajdjgaaGreatDoor.Vm
namespace Go.Proofs.YtccicbpeajdjgaaGreatDoor.Vm
open Go Mix Wd
/-- the cells of a whole number: its sign, its words -/
def iF (neg : Bool) (s : Value) : Nat → Value
 | 0 => .bool neg
 | _ => s
def IB (w : World) (b : Nat) (neg : Bool) (s : Value) : Prop := Row w b 128 2 (iF neg s)
section
variable {w w' : World} {b : Nat} {neg : Bool} {s : Value} {S : List Nat}
theorem IB.c0 (h : IB w b neg s) : w.cell? ⟨b, 0, none⟩ = some (.bool neg) := Row.cell (i := 0) h zo
theorem IB.c1 (h : IB w b neg s) : w.cell? ⟨b, 1, none⟩ = some s := Row.cell (i := 1) h zo
theorem IB.fz (h : IB w b neg s) (i : Nat) : w.frozen? ⟨b, i, none⟩ = false := Row.fz h i
theorem IB.lt (h : IB w b neg s) : b < w.heap.size := Row.lt h
theorem IB.same (h : IB w b neg s) (hs : Same S w w') (hb : b ∉ S := by first | (simp; done) | (simp; omega)) : IB w' b neg s := Row.same h hs hb
theorem IB.drew (h : IB w b neg s) : IB w.drew b neg s := h
theorem IB.rd (h : IB w b neg s) : Rd w b 0 2 (iF neg s) := (Row.rd h 0 2 zo).congr fun i _ => by rw [Nat.zero_add]
theorem IB.s0 (h : IB w b neg s) {z : Bool} (hw : w' = w.setCell ⟨b, 0, none⟩ (.bool z)) : IB w' b z s := (Row.set' h (i := 0) hw).congr fun i hi9 => by
 rcases (show i = 0 ∨ i = 1 by omega) with rfl | rfl <;> rfl
theorem IB.s1 (h : IB w b neg s) {z : Value} (hw : w' = w.setCell ⟨b, 1, none⟩ z) : IB w' b neg z := (Row.set' h (i := 1) hw).congr fun i hi9 => by
 rcases (show i = 0 ∨ i = 1 by omega) with rfl | rfl <;> rfl
theorem IB.box (w : World) (neg : Bool) (s : Value) : IB (w.alloc (.cells #[.bool neg, s] 128)) w.heap.size neg s :=
 (Row.alloc w #[.bool neg, s] 128).congr fun i hi => by
  have hi : i < 2 := hi
  rcases (show i = 0 ∨ i = 1 by omega) with rfl | rfl <;> rfl
end
theorem int_one {neg : Bool} {s : Value} (h : s.oneCell' = true) : ∀ v ∈ (#[.bool neg, s] : Array Value).toList, v.oneCell' = true := by
 intro v hv;simp at hv;rcases hv with rfl | rfl
 ·rfl
 ·exact h
theorem i_zv (w : World) : (zeroValue 128).run Tryz.prog w = .ok (.agg #[.bool false, .slice none 0 0]) w := by kernel_rfl
end Go.Proofs.YtccicbpeajdjgaaGreatDoor.Vm
namespace Go.Proofs.YtccicbpeajdjgaaGreatDoor.Vm
open Go Mix Go.RowKit Wd
set_option maxRecDepth 20000
theorem mZ (us : Array Value) (w : World) : (callFunc 136 us).run Tryz.prog w = .ok (.enter 136 us) w := by kernel_rfl
theorem eE (b o : Nat) (w : World) : (Instr.fieldAt 128 (.pointer (some ⟨b, o, none⟩)) 0).run Tryz.prog w = .ok (.pointer (some ⟨b, o + 0, none⟩)) w := by kernel_rfl
theorem dV (b o : Nat) (w : World) : (Instr.fieldAt 128 (.pointer (some ⟨b, o, none⟩)) 1).run Tryz.prog w = .ok (.pointer (some ⟨b, o + 1, none⟩)) w := by kernel_rfl
theorem rT : (Tryz.prog.info? 126).map (·.size) = some 1 := by kernel_rfl
theorem sz128 : (Tryz.prog.info? 128).map (·.size) = some 2 := by kernel_rfl
theorem rS : (Tryz.prog.info? 4).map (·.size) = some 1 := by kernel_rfl
set_option maxHeartbeats 400000 in
theorem setBits {w : World} (b : Nat) (neg : Bool) (s : Value) (hI : IB w b neg s) (g o n c : Nat) (a : Nat → Nat) (hra : Rd w g o n (ug a)) (hgl : g < w.heap.size) (hgb : g ≠ b) (hnc : n ≤ c) (hn : n ≤ 1048576) :
 Ret Tryz.prog 125 #[.pointer (some ⟨b, 0, none⟩), .slice (some ⟨g, o, none⟩) n c] w fun v w' => v = .pointer (some ⟨b, 0, none⟩) ∧ ∃ k, k ≤ n ∧ IB w' b false (.slice (some ⟨g, o, none⟩) k c) ∧ Un a k ∧ un a k = un a n ∧ Same [b] w w' := by
 have hS := Same.refl [b] w;refine aS Tryz.func125 Tryz.ntmps125 rfl rfl (aD (aB (aF rfl rfl (aG (aE (aD (aB (aA rfl rfl (aA rfl rfl (aR rfl rfl mZ rfl rfl (rA g o n c a hra hnc hn) ?_))))))))));rintro _ w9 ⟨hw9, k, hk, rfl, hU, hun⟩;replace hw9 := hw9.symm;subst hw9;refine aP rfl rfl (aO rfl dV rfl (cM rfl rfl rfl rT hI.c1 (hI.fz 1) ?_));intro w1 hn hs;replace hI := hI.s1 hn;replace hS := hS.trans hs;replace hgl := hs.lt hgl;clear hn hs;refine aG (aE (aD (aB (aA rfl rfl (aP rfl rfl (aO rfl eE rfl (cM rfl rfl rfl rS hI.c0 (hI.fz 0) ?_)))))));intro w2 hn hs;replace hI := hI.s0 hn;replace hS := hS.trans hs;replace hgl := hs.lt hgl;clear hn hs;exact aG (aE (aD (aB (aA rfl rfl (aF rfl rfl (aG (aE (aZ rfl rfl ⟨rfl, k, hk, hI, hU, hun, hS⟩))))))))
end Go.Proofs.YtccicbpeajdjgaaGreatDoor.Vm
namespace Go.Proofs.YtccicbpeajdjgaaGreatDoor.Vm
open Go Mix Go.RowKit Wd
set_option maxRecDepth 20000
/-- v is a whole number of value z, in blocks of kind I -/
def Zi (w : World) (I : Nat → Prop) (v : Value) (z : Int) : Prop := ∃ b neg s n a, v = .pointer (some ⟨b, 0, none⟩) ∧ I b ∧ IB w b neg s ∧ Ug w (fun g => I g ∧ g ≠ b) s n a ∧ (∀ i, i < n → a i < 18446744073709551616) ∧ Un a n ∧ z = (if neg then -((un a n : Nat) : Int) else ((un a n : Nat) : Int)) ∧ (neg = true → 0 < n)
/-- two words of a number -/
def two64 (x : Nat) : Nat → Nat := fun i => if i = 0 then x % 18446744073709551616 else x / 18446744073709551616
theorem jF (x : Nat) : un (two64 x) 2 = x := by
 simp only [un, two64, Nat.pow_zero, Nat.pow_one]
 simp
 omega
/-- how many words a number below 2^128 has -/
def wl (x : Nat) : Nat := if x = 0 then 0 else if x < 18446744073709551616 then 1 else 2
theorem nM (x : Nat) : wl x ≤ 2 := by
 unfold wl
 split <;> (try split) <;> omega
theorem tV {x : Nat} (h : 0 < x) : 0 < wl x := by
 unfold wl
 split <;> (try split) <;> omega
theorem wl_is {x k : Nat} (hk : k ≤ 2) (hU : Un (two64 x) k) (h : un (two64 x) k = x) : k = wl x := by
 rcases (show k = 0 ∨ k = 1 ∨ k = 2 by omega) with rfl | rfl | rfl
 ·have : x = 0 := by rw [← h]; rfl
  subst this;rfl
 ·have h1 : un (two64 x) 1 = x % 18446744073709551616 := by simp [un, two64]
  have h2 : x % 18446744073709551616 ≠ 0 := by
   rcases hU with hU | hU
   ·exact absurd hU zo
   ·exact hU
  unfold wl;rw [if_neg zw, if_pos zw]
 ·have h2 : x / 18446744073709551616 ≠ 0 := by
   rcases hU with hU | hU
   ·exact absurd hU zo
   ·exact hU
  unfold wl;rw [if_neg zw, if_neg zw]
/-- v points to a whole number x whose two words lie in a block of their own, ready to be written -/
def ZR (w : World) (I : Nat → Prop) (v : Value) (x : Int) : Prop := ∃ b g, v = .pointer (some ⟨b, 0, none⟩) ∧ I b ∧ I g ∧ g ≠ b ∧ IB w b (decide (x < 0)) (.slice (some ⟨g, 0, none⟩) (wl x.natAbs) 2) ∧ Row w g 150 2 (ug (two64 x.natAbs))
theorem ZR.mono {w : World} {I J : Nat → Prop} {v : Value} {x : Int} (h : ZR w I v x) (hJ : ∀ g, I g → J g) : ZR w J v x := by
 obtain ⟨b, g, h1, h2, h3, h4⟩ := h;exact ⟨b, g, h1, hJ b h2, hJ g h3, h4⟩
theorem cf125 (us : Array Value) (w : World) : (callFunc 125 us).run Tryz.prog w = .ok (.enter 125 us) w := by kernel_rfl
set_option maxHeartbeats 800000 in
theorem toBig {w : World} (x : Nat) (hx : x < 170141183460469231731687303715884105728) :
 Ret Tryz.prog 102 #[.agg #[.int .u64 (((x : Nat) : Int) % 18446744073709551616), .int .i64 (((x : Nat) : Int) / 18446744073709551616)]] w fun v w' => ZR w' (fun g => w.heap.size ≤ g) v x ∧ Same [] w w' := by
 have hS := Same.refl [] w;obtain ⟨H, hH⟩ : ∃ H, H = w.heap.size := ⟨_, rfl⟩;have hw0 := Nat.le_of_eq hH;rw [← hH];refine aS Tryz.func102 Tryz.ntmps102 rfl rfl (aD (aB (cA rfl rfl rfl ?_)));intro w1 hn hs;replace hw0 := hs.le hw0;replace hS := hS.trans hs;obtain ⟨bL, hbL⟩ : ∃ x, x = w.heap.size := ⟨_, rfl⟩
 have hL : NB w1 bL (((x : Nat) : Int) % 18446744073709551616) (((x : Nat) : Int) / 18446744073709551616) := by rw [hn, hbL]; exact NB.box _ _ _
 rw [← hbL];have hbLH : H ≤ bL := by omega
 have hw0bL := hw0;have hbLl := hL.lt;clear hn hs;refine aF rfl rfl (aG (aE (aD (aB (eH rfl rfl (v := .agg #[.bool false, .slice none 0 0]) (fun w => by kernel_rfl) rfl rfl (cA rfl rfl rfl ?_))))));intro w2 hn hs;replace hw0 := hs.le hw0;replace hS := hS.trans hs;replace hL := hL.same hs;obtain ⟨bI, hbI⟩ : ∃ x, x = w1.heap.size := ⟨_, rfl⟩
 have hI : IB w2 bI false (.slice none 0 0) := by rw [hn, hbI]; exact IB.box _ _ _
 rw [← hbI];have hbIH : H ≤ bI := by omega
 have hIl := hI.lt;clear hn hs;refine aO rfl fL rfl (aL rfl u25 rfl hL.c0 rfl (aO rfl eB rfl (aL rfl Tryz.underlying2 rfl hL.c1 rfl (cW rfl Tryz.underlying2 u150 (show _ = ((x / 18446744073709551616 : Nat) : Int) from (wU _).trans zw) rfl ?_))));obtain ⟨nz, hnz⟩ : ∃ x, x = w2.heap.size := ⟨_, rfl⟩;refine dS (E := 150) (cs := #[.int .u64 ((x % 18446744073709551616 : Nat) : Int), .int .u64 ((x / 18446744073709551616 : Nat) : Int)]) rfl rfl (fun w => by kernel_rfl) rfl rfl ?_;rw [← hnz];intro w3 hM hs;replace hw0 := hs.le hw0;replace hS := hS.trans hs;replace hI := hI.same hs;clear hs;have hnzI : bI < nz := by omega
 have hra : Rd w3 nz 0 2 (ug (two64 x)) := (Row.rd hM 0 2 (Nat.le_refl 2)).congr fun i hi => by
  rw [Nat.zero_add]
  rcases (show i = 0 ∨ i = 1 by omega) with rfl | rfl <;> rfl
 have hMl := hM.lt;have hnzH : H ≤ nz := by omega
 refine aR rfl rfl cf125 rfl rfl (setBits bI false (.slice none 0 0) hI nz 0 2 2 (two64 x) hra hMl zw zo zo) ?_;rintro _ w4 ⟨rfl, k, hk, hI2, hU, hun, hs⟩;replace hM := hM.same hs;rw [jF] at hun;have hk2 := wl_is hk hU hun;subst hk2;replace hS := hS.trans hs;exact aF rfl rfl (aG (aE (aZ rfl rfl ⟨⟨bI, nz, rfl, hbIH, hnzH, by omega, (by rw [show decide (((x : Nat) : Int) < 0) = false from decide_eq_false zw]; exact hI2), hM.congr fun i hi => (by have hi : i < 2 := hi; rcases (show i = 0 ∨ i = 1 by omega) with rfl | rfl <;> rfl)⟩, hS⟩)))
end Go.Proofs.YtccicbpeajdjgaaGreatDoor.Vm
namespace Go.Proofs.YtccicbpeajdjgaaGreatDoor.Vm
open Go Mix Go.RowKit Wd
set_option maxRecDepth 20000
theorem tA {P : Program} (b : Nat) (w : World) : (sameAddr ⟨b, 0, none⟩ ⟨b, 0, none⟩).run P w = .ok true w := by
 simp [sameAddr]
theorem cf102 (us : Array Value) (w : World) : (callFunc 102 us).run Tryz.prog w = .ok (.enter 102 us) w := by kernel_rfl
theorem cf108 (us : Array Value) (w : World) : (callFunc 108 us).run Tryz.prog w = .ok (.enter 108 us) w := by kernel_rfl
set_option maxHeartbeats 200000 in
theorem setSelf {w : World} (b : Nat) :
 Ret Tryz.prog 108 #[.pointer (some ⟨b, 0, none⟩), .pointer (some ⟨b, 0, none⟩)] w fun v w' => v = .pointer (some ⟨b, 0, none⟩) ∧ w' = w := by
 refine aS Tryz.func108 Tryz.ntmps108 rfl rfl (aD (aB (aF rfl rfl (aG (aE (aD (aD (aB (aA rfl rfl (aA rfl rfl (WR.neqP (c := true) rfl rfl Tryz.underlying121 (s := 1) sz128 (tA b w) rfl (aG (aE ?_)))))))))))));refine aK rfl (fun h90 => ?_) (fun h90 => ?_)
 ·(simp at h90)
 ·exact aX (aE (aD (aB (aA rfl rfl (aF rfl rfl (aG (aE (aZ rfl rfl ⟨rfl, rfl⟩))))))))
set_option maxHeartbeats 400000 in
theorem negSelf {w : World} (b : Nat) (A : Option Addr) (n c : Nat) (hI : IB w b false (.slice A n c)) (hn : 0 < n) :
 Ret Tryz.prog 103 #[.pointer (some ⟨b, 0, none⟩), .pointer (some ⟨b, 0, none⟩)] w fun v w' => v = .pointer (some ⟨b, 0, none⟩) ∧ IB w' b true (.slice A n c) ∧ Same [b] w w' := by
 have hS := Same.refl [b] w;refine aS Tryz.func103 Tryz.ntmps103 rfl rfl (aD (aB (aF rfl rfl (aG (aE (aD (aB (aA rfl rfl (aA rfl rfl (aR rfl rfl cf108 rfl rfl (setSelf b) ?_))))))))));rintro _ w99 ⟨rfl, hw99⟩;replace hw99 := hw99.symm;subst hw99;refine aG (aE (aD (aB (aA rfl rfl (aA rfl rfl (aP rfl rfl (aO rfl dV rfl (aL rfl u126 rfl hI.c1 rfl (bB rfl u126 rfl (aI rfl rfl rfl rfl (aA rfl rfl (aJ rfl rfl zz (aA rfl rfl (aJ rfl rfl zz (aP rfl rfl (aJ rfl rfl zz (aO rfl eE rfl (aJ rfl rfl zz (aL rfl u4 rfl hI.c0 rfl (aJ rfl rfl zz (dL rfl rfl (cH rfl zz rfl rfl (aP rfl rfl (aO rfl eE rfl (cM rfl rfl rfl rS hI.c0 (hI.fz 0) ?_)))))))))))))))))))))))));intro w1 hn hs;replace hI := hI.s0 hn;replace hS := hS.trans hs;clear hn hs;exact aG (aE (aD (aB (aA rfl rfl (aF rfl rfl (aG (aE (aZ rfl rfl ⟨rfl, hI, hS⟩))))))))
theorem uG {w : World} (x : Int) (h0 : 0 ≤ x) (hx : x < 170141183460469231731687303715884105728) : Ret Tryz.prog 102 #[.agg #[.int .u64 (x % 18446744073709551616), .int .i64 (x / 18446744073709551616)]] w fun v w' => ZR w' (fun g => w.heap.size ≤ g) v x ∧ Same [] w w' := by
 obtain ⟨n, rfl⟩ := Int.eq_ofNat_of_zero_le h0;exact toBig n zw
set_option maxHeartbeats 800000 in
theorem bigPos {w : World} (x : Int) (hx : N128 x) (hc : 0 ≤ x) :
 Ret Tryz.prog 86 #[.agg #[.int .u64 (x % 18446744073709551616), .int .i64 (x / 18446744073709551616)]] w fun v w' => ZR w' (fun g => w.heap.size ≤ g) v x ∧ Same [] w w' := by
 have hS := Same.refl [] w;obtain ⟨H, hH⟩ : ∃ H, H = w.heap.size := ⟨_, rfl⟩;have hw0 := Nat.le_of_eq hH;rw [← hH];have hx9 := hx;unfold N128 at hx9
 have hsg : 0 ≤ sgn x := by unfold sgn; split <;> (try split) <;> omega
 refine aS Tryz.func86 Tryz.ntmps86 rfl rfl (aD (aB (cA rfl rfl rfl ?_)));intro w1 hn hs;replace hw0 := hs.le hw0;replace hS := hS.trans hs;obtain ⟨bL, hbL⟩ : ∃ x, x = w.heap.size := ⟨_, rfl⟩
 have hL : NB w1 bL (x % 18446744073709551616) (x / 18446744073709551616) := by rw [hn, hbL]; exact NB.box _ _ _
 rw [← hbL];have hbLH : H ≤ bL := by omega
 have hw0bL := hw0;have hbLl := hL.lt;clear hn hs;refine aF rfl rfl (aG (aE (aD (aD (aB (aM rfl u44 rfl bC hL.rd rfl (aR rfl rfl wA rfl rfl (pR x hx) ?_)))))));rintro _ w2 ⟨rfl, hs⟩;replace hw0 := hs.le hw0;replace hS := hS.trans hs;replace hL := hL.same hs;refine aI rfl rfl rfl rfl (aG (aE ?_));refine aK rfl (fun h165 => ?_) (fun h165 => ?_)
 ·simp only [decide_eq_true_eq] at h165;omega
 ·simp only [decide_eq_false_iff_not, Int.not_lt] at h165;refine aX (aE (aD (aB (aM rfl u44 rfl bC hL.rd rfl ?_))));have hw02 := hw0;refine aR rfl rfl cf102 rfl rfl (uG x hc hx9.2) ?_;rintro v9 w3 ⟨hz, hs⟩;replace hw0 := hs.le hw0;replace hS := hS.trans hs;exact aF rfl rfl (aG (aE (aZ rfl rfl ⟨hz.mono fun g hg => zw, hS⟩)))
end Go.Proofs.YtccicbpeajdjgaaGreatDoor.Vm
namespace Go.Proofs.YtccicbpeajdjgaaGreatDoor.Vm
open Go Mix Go.RowKit Wd
set_option maxRecDepth 20000
theorem cf103 (us : Array Value) (w : World) : (callFunc 103 us).run Tryz.prog w = .ok (.enter 103 us) w := by kernel_rfl
set_option maxHeartbeats 800000 in
theorem bigNeg {w : World} (x : Int) (hx : N128 x) (hm : -170141183460469231731687303715884105728 < x) (hc : x < 0) :
 Ret Tryz.prog 86 #[.agg #[.int .u64 (x % 18446744073709551616), .int .i64 (x / 18446744073709551616)]] w fun v w' => ZR w' (fun g => w.heap.size ≤ g) v x ∧ Same [] w w' := by
 have hS := Same.refl [] w;obtain ⟨H, hH⟩ : ∃ H, H = w.heap.size := ⟨_, rfl⟩;have hw0 := Nat.le_of_eq hH;rw [← hH];have hsg : sgn x = -1 := qP hc;refine aS Tryz.func86 Tryz.ntmps86 rfl rfl (aD (aB (cA rfl rfl rfl ?_)));intro w1 hn hs;replace hw0 := hs.le hw0;replace hS := hS.trans hs;obtain ⟨bL, hbL⟩ : ∃ x, x = w.heap.size := ⟨_, rfl⟩
 have hL : NB w1 bL (x % 18446744073709551616) (x / 18446744073709551616) := by rw [hn, hbL]; exact NB.box _ _ _
 rw [← hbL];have hbLH : H ≤ bL := by omega
 have hw0bL := hw0;have hbLl := hL.lt;clear hn hs;refine aF rfl rfl (aG (aE (aD (aD (aB (aM rfl u44 rfl bC hL.rd rfl (aR rfl rfl wA rfl rfl (pR x hx) ?_)))))));rintro _ w2 ⟨rfl, hs⟩;replace hw0 := hs.le hw0;replace hS := hS.trans hs;replace hL := hL.same hs;refine aI rfl rfl rfl rfl (aG (aE ?_));refine aK rfl (fun h165 => ?_) (fun h165 => ?_)
 ·simp only [decide_eq_true_eq] at h165;refine aD (aB (aM rfl u44 rfl bC hL.rd rfl (aR rfl rfl wB rfl rfl (mP x hx hm) ?_)));rintro _ w3 ⟨rfl, hs⟩;replace hw0 := hs.le hw0;replace hS := hS.trans hs;have hw02 := hw0;refine aR rfl rfl cf102 rfl rfl (uG (-x) zw zw) ?_;rintro v9 w4 ⟨hz, hs⟩;obtain ⟨b, g, rfl, hb, hg, hgb, hI, hM⟩ := hz;have hbH : H ≤ b := by omega
  have hgH : H ≤ g := by omega
  have hn0 : 0 < wl (-x).natAbs := tV zw;rw [show decide (-x < 0) = false from decide_eq_false zw] at hI;replace hw0 := hs.le hw0;replace hS := hS.trans hs;refine aF rfl rfl (aG (aE (aD (aB (aA rfl rfl (aA rfl rfl (aR rfl rfl cf103 rfl rfl (negSelf b _ _ _ hI hn0) ?_)))))));rintro _ w5 ⟨rfl, hI2, hs⟩;replace hM := hM.same hs;replace hS := hS.trans hs;refine aF rfl rfl (aG (aE (aZ rfl rfl ?_)));rw [show (-x).natAbs = x.natAbs by omega] at hI2 hM;exact ⟨⟨b, g, rfl, hbH, hgH, hgb, (by rw [decide_eq_true hc]; exact hI2), hM⟩, hS⟩
 ·simp only [decide_eq_false_iff_not, Int.not_lt] at h165;omega
theorem lN {w : World} (x : Int) (hx : N128 x) (hm : -170141183460469231731687303715884105728 < x) : Ret Tryz.prog 86 #[.agg #[.int .u64 (x % 18446744073709551616), .int .i64 (x / 18446744073709551616)]] w (fun v w' => ZR w' (fun g => w.heap.size ≤ g) v x ∧ Same [] w w') := by
 rcases (show x < 0 ∨ 0 ≤ x by omega) with h | h
 ·exact bigNeg x hx hm h
 ·exact bigPos x hx h
end Go.Proofs.YtccicbpeajdjgaaGreatDoor.Vm
