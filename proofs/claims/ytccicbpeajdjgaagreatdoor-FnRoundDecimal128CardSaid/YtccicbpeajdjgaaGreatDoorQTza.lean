/- The tables of functions by which a kernel computes. -/
import Derived.Test.YtccicbpeajdjgaaGreatDoorQVm
import Derived.Test.YtccicbpeajdjgaaGreatDoorQTz
set_option linter.unusedVariables false
set_option linter.unusedSimpArgs false
namespace Go.Proofs.YtccicbpeajdjgaaGreatDoor.Vm
open Go Mix Go.RowKit Wd
set_option maxRecDepth 20000
def fv (f : Nat) : Value := .func (.func f) #[] #[]
/-- the functions for numbers -/
def deF : Nat → Value
 | 0 => fv 73
 | 1 => fv 75
 | 2 => fv 79
 | 3 => fv 77
 | 4 => fv 80
 | 5 => fv 82
 | _ => fv 84
/-- the functions for rounding -/
def opF (bD : Nat) : Nat → Value
 | 0 => .pointer (some ⟨bD, 0, none⟩)
 | 1 => fv 44
 | 2 => fv 45
 | 3 => fv 46
 | 4 => fv 48
 | 5 => fv 50
 | 6 => fv 52
 | 7 => fv 54
 | 8 => fv 56
 | 9 => fv 57
 | _ => fv 59
def DB (w : World) (b : Nat) : Prop := Row w b 105 7 deF
def OB (w : World) (b bD : Nat) : Prop := Row w b 100 11 (opF bD)
section
variable {w w' : World} {b bD : Nat} {S : List Nat}
theorem DB.lt (h : DB w b) : b < w.heap.size := Row.lt h
theorem DB.same (h : DB w b) (hs : Same S w w') (hb : b ∉ S := by first | (simp; done) | (simp; omega)) : DB w' b := Row.same h hs hb
theorem DB.c0 (h : DB w b) : w.cell? ⟨b, 0, none⟩ = some (deF 0) := Row.cell (i := 0) h zo
theorem DB.c1 (h : DB w b) : w.cell? ⟨b, 1, none⟩ = some (deF 1) := Row.cell (i := 1) h zo
theorem DB.c5 (h : DB w b) : w.cell? ⟨b, 5, none⟩ = some (deF 5) := Row.cell (i := 5) h zo
theorem DB.c6 (h : DB w b) : w.cell? ⟨b, 6, none⟩ = some (deF 6) := Row.cell (i := 6) h zo
theorem OB.lt (h : OB w b bD) : b < w.heap.size := Row.lt h
theorem OB.same (h : OB w b bD) (hs : Same S w w') (hb : b ∉ S := by first | (simp; done) | (simp; omega)) : OB w' b bD := Row.same h hs hb
theorem OB.c0 (h : OB w b bD) : w.cell? ⟨b, 0, none⟩ = some (.pointer (some ⟨bD, 0, none⟩)) := Row.cell (i := 0) h zo
theorem OB.c1 (h : OB w b bD) : w.cell? ⟨b, 1, none⟩ = some (opF bD 1) := Row.cell (i := 1) h zo
theorem OB.c2 (h : OB w b bD) : w.cell? ⟨b, 2, none⟩ = some (opF bD 2) := Row.cell (i := 2) h zo
theorem OB.c3 (h : OB w b bD) : w.cell? ⟨b, 3, none⟩ = some (opF bD 3) := Row.cell (i := 3) h zo
theorem OB.c4 (h : OB w b bD) : w.cell? ⟨b, 4, none⟩ = some (opF bD 4) := Row.cell (i := 4) h zo
theorem OB.c5 (h : OB w b bD) : w.cell? ⟨b, 5, none⟩ = some (opF bD 5) := Row.cell (i := 5) h zo
theorem OB.c6 (h : OB w b bD) : w.cell? ⟨b, 6, none⟩ = some (opF bD 6) := Row.cell (i := 6) h zo
theorem OB.c7 (h : OB w b bD) : w.cell? ⟨b, 7, none⟩ = some (opF bD 7) := Row.cell (i := 7) h zo
theorem OB.c8 (h : OB w b bD) : w.cell? ⟨b, 8, none⟩ = some (opF bD 8) := Row.cell (i := 8) h zo
theorem OB.c9 (h : OB w b bD) : w.cell? ⟨b, 9, none⟩ = some (opF bD 9) := Row.cell (i := 9) h zo
theorem OB.c10 (h : OB w b bD) : w.cell? ⟨b, 10, none⟩ = some (opF bD 10) := Row.cell (i := 10) h zo
end
theorem vV (w : World) : DB (w.alloc (.cells #[deF 0, deF 1, deF 2, deF 3, deF 4, deF 5, deF 6] 105)) w.heap.size :=
 (Row.alloc w #[deF 0, deF 1, deF 2, deF 3, deF 4, deF 5, deF 6] 105).congr fun i hi => by
  have hi : i < 7 := hi
  rcases (show i = 0 ∨ i = 1 ∨ i = 2 ∨ i = 3 ∨ i = 4 ∨ i = 5 ∨ i = 6 by omega) with rfl | rfl | rfl | rfl | rfl | rfl | rfl <;> rfl
theorem ops_box (w : World) (bD : Nat) : OB (w.alloc (.cells #[opF bD 0, opF bD 1, opF bD 2, opF bD 3, opF bD 4, opF bD 5, opF bD 6, opF bD 7, opF bD 8, opF bD 9, opF bD 10] 100)) w.heap.size bD :=
 (Row.alloc w #[opF bD 0, opF bD 1, opF bD 2, opF bD 3, opF bD 4, opF bD 5, opF bD 6, opF bD 7, opF bD 8, opF bD 9, opF bD 10] 100).congr fun i hi => by
  have hi : i < 11 := hi
  rcases (show i = 0 ∨ i = 1 ∨ i = 2 ∨ i = 3 ∨ i = 4 ∨ i = 5 ∨ i = 6 ∨ i = 7 ∨ i = 8 ∨ i = 9 ∨ i = 10 by omega) with rfl | rfl | rfl | rfl | rfl | rfl | rfl | rfl | rfl | rfl | rfl <;> rfl
theorem cf16 (us : Array Value) (w : World) : (callFunc 16 us).run Tryz.prog w = .ok (.enter 16 us) w := by kernel_rfl
theorem cf43 (us : Array Value) (w : World) : (callFunc 43 us).run Tryz.prog w = .ok (.enter 43 us) w := by kernel_rfl
theorem cf47 (us : Array Value) (w : World) : (callFunc 47 us).run Tryz.prog w = .ok (.enter 47 us) w := by kernel_rfl
theorem cf49 (us : Array Value) (w : World) : (callFunc 49 us).run Tryz.prog w = .ok (.enter 49 us) w := by kernel_rfl
theorem cf53 (us : Array Value) (w : World) : (callFunc 53 us).run Tryz.prog w = .ok (.enter 53 us) w := by kernel_rfl
theorem cf55 (us : Array Value) (w : World) : (callFunc 55 us).run Tryz.prog w = .ok (.enter 55 us) w := by kernel_rfl
theorem cf58 (us : Array Value) (w : World) : (callFunc 58 us).run Tryz.prog w = .ok (.enter 58 us) w := by kernel_rfl
theorem cf74 (us : Array Value) (w : World) : (callFunc 74 us).run Tryz.prog w = .ok (.enter 74 us) w := by kernel_rfl
theorem cf76 (us : Array Value) (w : World) : (callFunc 76 us).run Tryz.prog w = .ok (.enter 76 us) w := by kernel_rfl
set_option maxHeartbeats 400000 in
theorem kS {w : World} (x y : Int) (hx : N128 x) (hy : N128 y) (hz : N128 (x + y)) :
 Ret Tryz.prog 73 #[.agg #[.int .u64 (x % 18446744073709551616), .int .i64 (x / 18446744073709551616)], .agg #[.int .u64 (y % 18446744073709551616), .int .i64 (y / 18446744073709551616)]] w fun v w' => v = .agg #[.int .u64 ((x + y) % 18446744073709551616), .int .i64 ((x + y) / 18446744073709551616)] ∧ Same [] w w' := by
 have hS := Same.refl [] w;obtain ⟨H, hH⟩ : ∃ H, H = w.heap.size := ⟨_, rfl⟩;have hw0 := Nat.le_of_eq hH;refine aS Tryz.func73 Tryz.ntmps73 rfl rfl (aD (aB (cA rfl rfl rfl ?_)));intro w1 hn hs;replace hw0 := hs.le hw0;replace hS := hS.trans hs;obtain ⟨bL, hbL⟩ : ∃ x, x = w.heap.size := ⟨_, rfl⟩
 have hL : NB w1 bL (x % 18446744073709551616) (x / 18446744073709551616) := by rw [hn, hbL]; exact NB.box _ _ _
 rw [← hbL];have hbLH : H ≤ bL := by omega
 have hw0bL := hw0;have hbLl := hL.lt;clear hn hs;refine cA rfl rfl rfl ?_;intro w2 hn hs;replace hw0 := hs.le hw0;replace hS := hS.trans hs;replace hL := hL.same hs;obtain ⟨bQ, hbQ⟩ : ∃ x, x = w1.heap.size := ⟨_, rfl⟩
 have hQ : NB w2 bQ (y % 18446744073709551616) (y / 18446744073709551616) := by rw [hn, hbQ]; exact NB.box _ _ _
 rw [← hbQ];have hbQH : H ≤ bQ := by omega
 have hw0bQ := hw0;have hbQl := hQ.lt;have hbLQ : bL < bQ := by omega
 clear hn hs;refine bF dO rfl rfl ?_;intro w3 hn hs;obtain ⟨bR, hbR⟩ : ∃ x, x = w2.heap.size := ⟨_, rfl⟩
 have hR : NB w3 bR 0 0 := by rw [hn, hbR]; exact NB.box _ _ _
 rw [← hbR];have hbRH : H ≤ bR := by omega
 have hlthL := hL.lt;have hlthQ := hQ.lt;have hnebRbL : bL < bR := by omega
 have hnebRbQ : bQ < bR := by omega
 replace hw0 := hs.le hw0;replace hS := hS.trans hs;replace hL := hL.same hs;replace hQ := hQ.same hs;clear hn hs;refine aG (aE (aD (aB (aM rfl u44 rfl bC hL.rd rfl (aM rfl u44 rfl bC hQ.rd rfl (aR rfl rfl cf74 rfl rfl (addN x y hx hy hz) ?_))))));rintro _ w4 ⟨rfl, hs⟩;replace hw0 := hs.le hw0;replace hS := hS.trans hs;replace hR := hR.same hs;refine aU (n := 2) rfl rfl bC rfl (bY _ _) hR zo ?_;intro w5 hn9 hs;replace hR : NB w5 bR _ _ := hn9.congr fun i hi => aN (g := nF _ _) hi;replace hS := hS.trans hs;replace hw0 := hs.le hw0;clear hn9;exact aG (aE (cS rfl rfl u44 rfl bC hR.rd ⟨rfl, hS⟩))
set_option maxHeartbeats 400000 in
theorem fT {w : World} (x y : Int) (hx : N128 x) (hy : N128 y) (hz : N128 (x - y)) :
 Ret Tryz.prog 75 #[.agg #[.int .u64 (x % 18446744073709551616), .int .i64 (x / 18446744073709551616)], .agg #[.int .u64 (y % 18446744073709551616), .int .i64 (y / 18446744073709551616)]] w fun v w' => v = .agg #[.int .u64 ((x - y) % 18446744073709551616), .int .i64 ((x - y) / 18446744073709551616)] ∧ Same [] w w' := by
 have hS := Same.refl [] w;obtain ⟨H, hH⟩ : ∃ H, H = w.heap.size := ⟨_, rfl⟩;have hw0 := Nat.le_of_eq hH;refine aS Tryz.func75 Tryz.ntmps75 rfl rfl (aD (aB (cA rfl rfl rfl ?_)));intro w1 hn hs;replace hw0 := hs.le hw0;replace hS := hS.trans hs;obtain ⟨bL, hbL⟩ : ∃ x, x = w.heap.size := ⟨_, rfl⟩
 have hL : NB w1 bL (x % 18446744073709551616) (x / 18446744073709551616) := by rw [hn, hbL]; exact NB.box _ _ _
 rw [← hbL];have hbLH : H ≤ bL := by omega
 have hw0bL := hw0;have hbLl := hL.lt;clear hn hs;refine cA rfl rfl rfl ?_;intro w2 hn hs;replace hw0 := hs.le hw0;replace hS := hS.trans hs;replace hL := hL.same hs;obtain ⟨bQ, hbQ⟩ : ∃ x, x = w1.heap.size := ⟨_, rfl⟩
 have hQ : NB w2 bQ (y % 18446744073709551616) (y / 18446744073709551616) := by rw [hn, hbQ]; exact NB.box _ _ _
 rw [← hbQ];have hbQH : H ≤ bQ := by omega
 have hw0bQ := hw0;have hbQl := hQ.lt;have hbLQ : bL < bQ := by omega
 clear hn hs;refine bF dO rfl rfl ?_;intro w3 hn hs;obtain ⟨bR, hbR⟩ : ∃ x, x = w2.heap.size := ⟨_, rfl⟩
 have hR : NB w3 bR 0 0 := by rw [hn, hbR]; exact NB.box _ _ _
 rw [← hbR];have hbRH : H ≤ bR := by omega
 have hlthL := hL.lt;have hlthQ := hQ.lt;have hnebRbL : bL < bR := by omega
 have hnebRbQ : bQ < bR := by omega
 replace hw0 := hs.le hw0;replace hS := hS.trans hs;replace hL := hL.same hs;replace hQ := hQ.same hs;clear hn hs;refine aG (aE (aD (aB (aM rfl u44 rfl bC hL.rd rfl (aM rfl u44 rfl bC hQ.rd rfl (aR rfl rfl cf76 rfl rfl (subN x y hx hy hz) ?_))))));rintro _ w4 ⟨rfl, hs⟩;replace hw0 := hs.le hw0;replace hS := hS.trans hs;replace hR := hR.same hs;refine aU (n := 2) rfl rfl bC rfl (bY _ _) hR zo ?_;intro w5 hn9 hs;replace hR : NB w5 bR _ _ := hn9.congr fun i hi => aN (g := nF _ _) hi;replace hS := hS.trans hs;replace hw0 := hs.le hw0;clear hn9;exact aG (aE (cS rfl rfl u44 rfl bC hR.rd ⟨rfl, hS⟩))
set_option maxHeartbeats 400000 in
theorem opNeg {w : World} (x : Int) (hx : N128 x) (hm : -170141183460469231731687303715884105728 < x) :
 Ret Tryz.prog 82 #[.agg #[.int .u64 (x % 18446744073709551616), .int .i64 (x / 18446744073709551616)]] w fun v w' => v = .agg #[.int .u64 ((-x) % 18446744073709551616), .int .i64 ((-x) / 18446744073709551616)] ∧ Same [] w w' := by
 have hS := Same.refl [] w;obtain ⟨H, hH⟩ : ∃ H, H = w.heap.size := ⟨_, rfl⟩;have hw0 := Nat.le_of_eq hH;refine aS Tryz.func82 Tryz.ntmps82 rfl rfl (aD (aB (cA rfl rfl rfl ?_)));intro w1 hn hs;replace hw0 := hs.le hw0;replace hS := hS.trans hs;obtain ⟨bL, hbL⟩ : ∃ x, x = w.heap.size := ⟨_, rfl⟩
 have hL : NB w1 bL (x % 18446744073709551616) (x / 18446744073709551616) := by rw [hn, hbL]; exact NB.box _ _ _
 rw [← hbL];have hbLH : H ≤ bL := by omega
 have hw0bL := hw0;have hbLl := hL.lt;clear hn hs;refine bF dO rfl rfl ?_;intro w2 hn hs;obtain ⟨bR, hbR⟩ : ∃ x, x = w1.heap.size := ⟨_, rfl⟩
 have hR : NB w2 bR 0 0 := by rw [hn, hbR]; exact NB.box _ _ _
 rw [← hbR];have hbRH : H ≤ bR := by omega
 have hlthL := hL.lt;have hnebRbL : bL < bR := by omega
 replace hw0 := hs.le hw0;replace hS := hS.trans hs;replace hL := hL.same hs;clear hn hs;refine aG (aE (aD (aB (aM rfl u44 rfl bC hL.rd rfl (aR rfl rfl wB rfl rfl (mP x hx hm) ?_)))));rintro _ w3 ⟨rfl, hs⟩;replace hw0 := hs.le hw0;replace hS := hS.trans hs;replace hR := hR.same hs;refine aU (n := 2) rfl rfl bC rfl (bY _ _) hR zo ?_;intro w4 hn9 hs;replace hR : NB w4 bR _ _ := hn9.congr fun i hi => aN (g := nF _ _) hi;replace hS := hS.trans hs;replace hw0 := hs.le hw0;clear hn9;exact aG (aE (cS rfl rfl u44 rfl bC hR.rd ⟨rfl, hS⟩))
set_option maxHeartbeats 400000 in
theorem fK {w : World} (x : Int) (hx : N128 x) :
 Ret Tryz.prog 84 #[.agg #[.int .u64 (x % 18446744073709551616), .int .i64 (x / 18446744073709551616)]] w fun v w' => v = .int .i64 (sgn x) ∧ Same [] w w' := by
 have hS := Same.refl [] w;obtain ⟨H, hH⟩ : ∃ H, H = w.heap.size := ⟨_, rfl⟩;have hw0 := Nat.le_of_eq hH;refine aS Tryz.func84 Tryz.ntmps84 rfl rfl (aD (aB (cA rfl rfl rfl ?_)));intro w1 hn hs;replace hw0 := hs.le hw0;replace hS := hS.trans hs;obtain ⟨bL, hbL⟩ : ∃ x, x = w.heap.size := ⟨_, rfl⟩
 have hL : NB w1 bL (x % 18446744073709551616) (x / 18446744073709551616) := by rw [hn, hbL]; exact NB.box _ _ _
 rw [← hbL];have hbLH : H ≤ bL := by omega
 have hw0bL := hw0;have hbLl := hL.lt;clear hn hs;refine aF rfl rfl (aG (aE (aD (aB (aM rfl u44 rfl bC hL.rd rfl (aR rfl rfl wA rfl rfl (pR x hx) ?_))))));rintro _ w2 ⟨rfl, hs⟩;replace hw0 := hs.le hw0;replace hS := hS.trans hs;exact aF rfl rfl (aG (aE (aZ rfl rfl ⟨rfl, hS⟩)))
set_option maxHeartbeats 400000 in
theorem jH {w : World} (hT : Tab w) (x y : Int) (hx : N128 x) (hxm : -170141183460469231731687303715884105728 < x) (hy9 : N128 y) (hym : -170141183460469231731687303715884105728 < y) (hy0 : y ≠ 0) :
 Ret Tryz.prog 46 #[.agg #[.int .u64 (x % 18446744073709551616), .int .i64 (x / 18446744073709551616)], .agg #[.int .u64 (y % 18446744073709551616), .int .i64 (y / 18446744073709551616)]] w fun v w' => v = .tuple #[.agg #[.int .u64 ((x.tdiv y) % 18446744073709551616), .int .i64 ((x.tdiv y) / 18446744073709551616)], .agg #[.int .u64 ((x.tmod y) % 18446744073709551616), .int .i64 ((x.tmod y) / 18446744073709551616)]] ∧ Same [] w w' := by
 have hS := Same.refl [] w;obtain ⟨H, hH⟩ : ∃ H, H = w.heap.size := ⟨_, rfl⟩;have hw0 := Nat.le_of_eq hH;have hT14 := hT.1;refine aS Tryz.func46 Tryz.ntmps46 rfl rfl (aD (aB (cA rfl rfl rfl ?_)));intro w1 hn hs;replace hw0 := hs.le hw0;replace hS := hS.trans hs;replace hT := hT.same hs;obtain ⟨bL, hbL⟩ : ∃ x, x = w.heap.size := ⟨_, rfl⟩
 have hL : NB w1 bL (x % 18446744073709551616) (x / 18446744073709551616) := by rw [hn, hbL]; exact NB.box _ _ _
 rw [← hbL];have hbLH : H ≤ bL := by omega
 have hw0bL := hw0;have hbLl := hL.lt;clear hn hs;refine cA rfl rfl rfl ?_;intro w2 hn hs;replace hw0 := hs.le hw0;replace hS := hS.trans hs;replace hL := hL.same hs;replace hT := hT.same hs;obtain ⟨bQ, hbQ⟩ : ∃ x, x = w1.heap.size := ⟨_, rfl⟩
 have hQ : NB w2 bQ (y % 18446744073709551616) (y / 18446744073709551616) := by rw [hn, hbQ]; exact NB.box _ _ _
 rw [← hbQ];have hbQH : H ≤ bQ := by omega
 have hw0bQ := hw0;have hbQl := hQ.lt;have hbLQ : bL < bQ := by omega
 clear hn hs;refine bF dO rfl rfl ?_;intro w3 hn hs;obtain ⟨bR, hbR⟩ : ∃ x, x = w2.heap.size := ⟨_, rfl⟩
 have hR : NB w3 bR 0 0 := by rw [hn, hbR]; exact NB.box _ _ _
 rw [← hbR];have hbRH : H ≤ bR := by omega
 have hlthL := hL.lt;have hlthQ := hQ.lt;have hnebRbL : bL < bR := by omega
 have hnebRbQ : bQ < bR := by omega
 replace hw0 := hs.le hw0;replace hS := hS.trans hs;replace hL := hL.same hs;replace hQ := hQ.same hs;replace hT := hT.same hs;clear hn hs;refine bF dO rfl rfl ?_;intro w4 hn hs;obtain ⟨bP, hbP⟩ : ∃ x, x = w3.heap.size := ⟨_, rfl⟩
 have hP : NB w4 bP 0 0 := by rw [hn, hbP]; exact NB.box _ _ _
 rw [← hbP];have hbPH : H ≤ bP := by omega
 have hlthL := hL.lt;have hlthQ := hQ.lt;have hlthR := hR.lt;have hnebPbL : bL < bP := by omega
 have hnebPbQ : bQ < bP := by omega
 have hnebPbR : bR < bP := by omega
 replace hw0 := hs.le hw0;replace hS := hS.trans hs;replace hL := hL.same hs;replace hQ := hQ.same hs;replace hR := hR.same hs;replace hT := hT.same hs;clear hn hs;refine aG (aE (aD (aB (aM rfl u44 rfl bC hL.rd rfl (aM rfl u44 rfl bC hQ.rd rfl (aR rfl rfl cf47 rfl rfl (divNum hT x y hx hxm hy9 hym hy0) ?_))))));rintro _ w5 ⟨rfl, hs⟩;have hPl := hP.lt;have hRl := hR.lt;replace hw0 := hs.le hw0;replace hS := hS.trans hs;replace hR := hR.same hs;replace hP := hP.same hs;refine aY rfl rfl rfl (aY rfl rfl rfl (aU (n := 2) rfl rfl bC rfl (bY _ _) hR zo ?_));intro w6 hn9 hs;replace hR : NB w6 bR _ _ := hn9.congr fun i hi => aN (g := nF _ _) hi;replace hS := hS.trans hs;replace hw0 := hs.le hw0;clear hn9;replace hP := hP.same hs;refine aU (n := 2) rfl rfl bC rfl (bY _ _) hP zo ?_;intro w7 hn9 hs;replace hP : NB w7 bP _ _ := hn9.congr fun i hi => aN (g := nF _ _) hi;replace hS := hS.trans hs;replace hw0 := hs.le hw0;clear hn9;replace hR := hR.same hs;exact aG (aE (nG rfl rfl rfl u44 rfl bC hR.rd hP.rd ⟨rfl, hS⟩))
set_option maxHeartbeats 400000 in
theorem rdFits {w : World} (hT : Tab w) (x : Int) (hx : N128 x) (hm : -170141183460469231731687303715884105728 < x) (p : Nat) (hp : 1 ≤ p ∧ p ≤ 38) :
 Ret Tryz.prog 48 #[.agg #[.int .u64 (x % 18446744073709551616), .int .i64 (x / 18446744073709551616)], .int .i32 (p : Nat)] w fun v w' => v = .bool (decide ((x.natAbs : Int) < ((10 ^ p : Nat) : Int))) ∧ Same [] w w' := by
 have hS := Same.refl [] w;obtain ⟨H, hH⟩ : ∃ H, H = w.heap.size := ⟨_, rfl⟩;have hw0 := Nat.le_of_eq hH;have hT14 := hT.1;refine aS Tryz.func48 Tryz.ntmps48 rfl rfl (aD (aB (cA rfl rfl rfl ?_)));intro w1 hn hs;replace hw0 := hs.le hw0;replace hS := hS.trans hs;replace hT := hT.same hs;obtain ⟨bL, hbL⟩ : ∃ x, x = w.heap.size := ⟨_, rfl⟩
 have hL : NB w1 bL (x % 18446744073709551616) (x / 18446744073709551616) := by rw [hn, hbL]; exact NB.box _ _ _
 rw [← hbL];have hbLH : H ≤ bL := by omega
 have hw0bL := hw0;have hbLl := hL.lt;clear hn hs;refine aF rfl rfl (aG (aE (aD (aB (aM rfl u44 rfl bC hL.rd rfl (aA rfl rfl (aR rfl rfl cf49 rfl rfl (fitsP hT x hx hm p hp) ?_)))))));rintro _ w2 ⟨rfl, hs⟩;replace hw0 := hs.le hw0;replace hS := hS.trans hs;exact aF rfl rfl (aG (aE (aZ rfl rfl ⟨rfl, hS⟩)))
set_option maxHeartbeats 400000 in
theorem vA {w : World} (x y : Int) :
 Ret Tryz.prog 50 #[.agg #[.int .u64 (x % 18446744073709551616), .int .i64 (x / 18446744073709551616)], .agg #[.int .u64 (y % 18446744073709551616), .int .i64 (y / 18446744073709551616)]] w fun v w' => v = .bool (decide (x < y)) ∧ Same [] w w' := by
 have hS := Same.refl [] w;obtain ⟨H, hH⟩ : ∃ H, H = w.heap.size := ⟨_, rfl⟩;have hw0 := Nat.le_of_eq hH;refine aS Tryz.func50 Tryz.ntmps50 rfl rfl (aD (aB (cA rfl rfl rfl ?_)));intro w1 hn hs;replace hw0 := hs.le hw0;replace hS := hS.trans hs;obtain ⟨bL, hbL⟩ : ∃ x, x = w.heap.size := ⟨_, rfl⟩
 have hL : NB w1 bL (x % 18446744073709551616) (x / 18446744073709551616) := by rw [hn, hbL]; exact NB.box _ _ _
 rw [← hbL];have hbLH : H ≤ bL := by omega
 have hw0bL := hw0;have hbLl := hL.lt;clear hn hs;refine cA rfl rfl rfl ?_;intro w2 hn hs;replace hw0 := hs.le hw0;replace hS := hS.trans hs;replace hL := hL.same hs;obtain ⟨bQ, hbQ⟩ : ∃ x, x = w1.heap.size := ⟨_, rfl⟩
 have hQ : NB w2 bQ (y % 18446744073709551616) (y / 18446744073709551616) := by rw [hn, hbQ]; exact NB.box _ _ _
 rw [← hbQ];have hbQH : H ≤ bQ := by omega
 have hw0bQ := hw0;have hbQl := hQ.lt;have hbLQ : bL < bQ := by omega
 clear hn hs;refine aF rfl rfl (aG (aE (aD (aB (aM rfl u44 rfl bC hL.rd rfl (aM rfl u44 rfl bC hQ.rd rfl (aR rfl rfl cf51 rfl rfl (less x y) ?_)))))));rintro _ w3 ⟨rfl, hs⟩;replace hw0 := hs.le hw0;replace hS := hS.trans hs;exact aF rfl rfl (aG (aE (aZ rfl rfl ⟨rfl, hS⟩)))
set_option maxHeartbeats 400000 in
theorem kQ {w : World} (hT : Tab w) (x : Int) (hx : N128 x) (hxm : -170141183460469231731687303715884105728 < x) (k : Nat) (hk : k ≤ 38) (hk1 : 1 ≤ k) :
 Ret Tryz.prog 52 #[.agg #[.int .u64 (x % 18446744073709551616), .int .i64 (x / 18446744073709551616)], .int .i32 (k : Nat), .bool false] w fun v w' => v = .agg #[.int .u64 ((x.tdiv ((10 ^ k : Nat) : Int)) % 18446744073709551616), .int .i64 ((x.tdiv ((10 ^ k : Nat) : Int)) / 18446744073709551616)] ∧ Same [] w w' := by
 have hS := Same.refl [] w;obtain ⟨H, hH⟩ : ∃ H, H = w.heap.size := ⟨_, rfl⟩;have hw0 := Nat.le_of_eq hH;have hT14 := hT.1;refine aS Tryz.func52 Tryz.ntmps52 rfl rfl (aD (aB (cA rfl rfl rfl ?_)));intro w1 hn hs;replace hw0 := hs.le hw0;replace hS := hS.trans hs;replace hT := hT.same hs;obtain ⟨bL, hbL⟩ : ∃ x, x = w.heap.size := ⟨_, rfl⟩
 have hL : NB w1 bL (x % 18446744073709551616) (x / 18446744073709551616) := by rw [hn, hbL]; exact NB.box _ _ _
 rw [← hbL];have hbLH : H ≤ bL := by omega
 have hw0bL := hw0;have hbLl := hL.lt;clear hn hs;refine bF dO rfl rfl ?_;intro w2 hn hs;obtain ⟨bR, hbR⟩ : ∃ x, x = w1.heap.size := ⟨_, rfl⟩
 have hR : NB w2 bR 0 0 := by rw [hn, hbR]; exact NB.box _ _ _
 rw [← hbR];have hbRH : H ≤ bR := by omega
 have hlthL := hL.lt;have hnebRbL : bL < bR := by omega
 replace hw0 := hs.le hw0;replace hS := hS.trans hs;replace hL := hL.same hs;replace hT := hT.same hs;clear hn hs;refine aG (aE (aD (aB (aM rfl u44 rfl bC hL.rd rfl (aA rfl rfl (aA rfl rfl (aR rfl rfl cf53 rfl rfl (uX hT x hx hxm k hk hk1) ?_)))))));rintro _ w3 ⟨rfl, hs⟩;replace hw0 := hs.le hw0;replace hS := hS.trans hs;replace hR := hR.same hs;refine aU (n := 2) rfl rfl bC rfl (bY _ _) hR zo ?_;intro w4 hn9 hs;replace hR : NB w4 bR _ _ := hn9.congr fun i hi => aN (g := nF _ _) hi;replace hS := hS.trans hs;replace hw0 := hs.le hw0;clear hn9;exact aG (aE (cS rfl rfl u44 rfl bC hR.rd ⟨rfl, hS⟩))
set_option maxHeartbeats 400000 in
theorem fX {w : World} (hT : Tab w) (x : Int) (hx : N128 x) (hxm : -170141183460469231731687303715884105728 < x) (k : Nat) (hk : k ≤ 38) (hp1 : -170141183460469231731687303715884105728 < x * ((10 ^ k : Nat) : Int)) (hp2 : x * ((10 ^ k : Nat) : Int) < 170141183460469231731687303715884105728) :
 Ret Tryz.prog 54 #[.agg #[.int .u64 (x % 18446744073709551616), .int .i64 (x / 18446744073709551616)], .int .i32 (k : Nat)] w fun v w' => v = .agg #[.int .u64 ((x * ((10 ^ k : Nat) : Int)) % 18446744073709551616), .int .i64 ((x * ((10 ^ k : Nat) : Int)) / 18446744073709551616)] ∧ Same [] w w' := by
 have hS := Same.refl [] w;obtain ⟨H, hH⟩ : ∃ H, H = w.heap.size := ⟨_, rfl⟩;have hw0 := Nat.le_of_eq hH;have hT14 := hT.1;refine aS Tryz.func54 Tryz.ntmps54 rfl rfl (aD (aB (cA rfl rfl rfl ?_)));intro w1 hn hs;replace hw0 := hs.le hw0;replace hS := hS.trans hs;replace hT := hT.same hs;obtain ⟨bL, hbL⟩ : ∃ x, x = w.heap.size := ⟨_, rfl⟩
 have hL : NB w1 bL (x % 18446744073709551616) (x / 18446744073709551616) := by rw [hn, hbL]; exact NB.box _ _ _
 rw [← hbL];have hbLH : H ≤ bL := by omega
 have hw0bL := hw0;have hbLl := hL.lt;clear hn hs;refine bF dO rfl rfl ?_;intro w2 hn hs;obtain ⟨bR, hbR⟩ : ∃ x, x = w1.heap.size := ⟨_, rfl⟩
 have hR : NB w2 bR 0 0 := by rw [hn, hbR]; exact NB.box _ _ _
 rw [← hbR];have hbRH : H ≤ bR := by omega
 have hlthL := hL.lt;have hnebRbL : bL < bR := by omega
 replace hw0 := hs.le hw0;replace hS := hS.trans hs;replace hL := hL.same hs;replace hT := hT.same hs;clear hn hs;refine aG (aE (aD (aB (aM rfl u44 rfl bC hL.rd rfl (aA rfl rfl (aR rfl rfl cf55 rfl rfl (vJ hT x hx hxm k hk hp1 hp2) ?_))))));rintro _ w3 ⟨rfl, hs⟩;replace hw0 := hs.le hw0;replace hS := hS.trans hs;replace hR := hR.same hs;refine aU (n := 2) rfl rfl bC rfl (bY _ _) hR zo ?_;intro w4 hn9 hs;replace hR : NB w4 bR _ _ := hn9.congr fun i hi => aN (g := nF _ _) hi;replace hS := hS.trans hs;replace hw0 := hs.le hw0;clear hn9;exact aG (aE (cS rfl rfl u44 rfl bC hR.rd ⟨rfl, hS⟩))
set_option maxHeartbeats 400000 in
theorem rdLow {w : World} (x : Int) :
 Ret Tryz.prog 56 #[.agg #[.int .u64 (x % 18446744073709551616), .int .i64 (x / 18446744073709551616)]] w fun v w' => v = .int .u64 (x % 18446744073709551616) ∧ Same [] w w' := by
 have hS := Same.refl [] w;obtain ⟨H, hH⟩ : ∃ H, H = w.heap.size := ⟨_, rfl⟩;have hw0 := Nat.le_of_eq hH;refine aS Tryz.func56 Tryz.ntmps56 rfl rfl (aD (aB (cA rfl rfl rfl ?_)));intro w1 hn hs;replace hw0 := hs.le hw0;replace hS := hS.trans hs;obtain ⟨bL, hbL⟩ : ∃ x, x = w.heap.size := ⟨_, rfl⟩
 have hL : NB w1 bL (x % 18446744073709551616) (x / 18446744073709551616) := by rw [hn, hbL]; exact NB.box _ _ _
 rw [← hbL];have hbLH : H ≤ bL := by omega
 have hw0bL := hw0;have hbLl := hL.lt;clear hn hs;refine aF rfl rfl (aG (aE (aD (aB (aM rfl u44 rfl bC hL.rd rfl (aR rfl rfl cf16 rfl rfl (sC x) ?_))))));rintro _ w2 ⟨rfl, hs⟩;replace hw0 := hs.le hw0;replace hS := hS.trans hs;exact aF rfl rfl (aG (aE (aZ rfl rfl ⟨rfl, hS⟩)))
theorem fromI {w : World} (x : Int) (hx : -9223372036854775808 ≤ x ∧ x < 9223372036854775808) : Ret Tryz.prog 58 #[.int .i64 x] w (fun v w' => v = .agg #[.int .u64 ((x) % 18446744073709551616), .int .i64 ((x) / 18446744073709551616)] ∧ Same [] w w') := by
 rcases (show 0 < x ∨ x < 0 ∨ x = 0 by omega) with h | h | h
 ·exact fromI1 x hx h
 ·exact fromI2 x hx h
 ·exact fromI3 x hx h
set_option maxHeartbeats 400000 in
theorem vB {w : World} (x : Int) (hx : -9223372036854775808 ≤ x ∧ x < 9223372036854775808) :
 Ret Tryz.prog 57 #[.int .i64 x] w fun v w' => v = .agg #[.int .u64 ((x) % 18446744073709551616), .int .i64 ((x) / 18446744073709551616)] ∧ Same [] w w' := by
 have hS := Same.refl [] w;obtain ⟨H, hH⟩ : ∃ H, H = w.heap.size := ⟨_, rfl⟩;have hw0 := Nat.le_of_eq hH;refine aS Tryz.func57 Tryz.ntmps57 rfl rfl (aD (aB (bF dO rfl rfl ?_)));intro w1 hn hs;obtain ⟨bR, hbR⟩ : ∃ x, x = w.heap.size := ⟨_, rfl⟩
 have hR : NB w1 bR 0 0 := by rw [hn, hbR]; exact NB.box _ _ _
 rw [← hbR];have hbRH : H ≤ bR := by omega
 replace hw0 := hs.le hw0;replace hS := hS.trans hs;clear hn hs;refine aG (aE (aD (aB (aA rfl rfl (aR rfl rfl cf58 rfl rfl (fromI x hx) ?_)))));rintro _ w2 ⟨rfl, hs⟩;replace hw0 := hs.le hw0;replace hS := hS.trans hs;replace hR := hR.same hs;refine aU (n := 2) rfl rfl bC rfl (bY _ _) hR zo ?_;intro w3 hn9 hs;replace hR : NB w3 bR _ _ := hn9.congr fun i hi => aN (g := nF _ _) hi;replace hS := hS.trans hs;replace hw0 := hs.le hw0;clear hn9;exact aG (aE (cS rfl rfl u44 rfl bC hR.rd ⟨rfl, hS⟩))
set_option maxHeartbeats 400000 in
theorem decOps {w : World} :
 Ret Tryz.prog 43 #[] w fun v w' => v = .pointer (some ⟨w.heap.size, 0, none⟩) ∧ DB w' w.heap.size ∧ Same [] w w' := by
 have hS := Same.refl [] w;refine aS Tryz.func43 Tryz.ntmps43 rfl rfl (aD (aB (aF rfl rfl (aG (aE (aD (aB (eH rfl rfl (v := .agg #[deF 0, deF 1, deF 2, deF 3, deF 4, deF 5, deF 6]) (fun w => by kernel_rfl) rfl rfl (cA rfl rfl rfl ?_)))))))));intro w1 hn hs;replace hS := hS.trans hs
 have hD : DB w1 w.heap.size := by rw [hn]; exact vV w
 clear hn hs;exact aF rfl rfl (aG (aE (aZ rfl rfl ⟨rfl, hD, hS⟩)))
set_option maxHeartbeats 400000 in
theorem rdOps {w : World} :
 Ret Tryz.prog 31 #[] w fun v w' => ∃ bO bD, v = .pointer (some ⟨bO, 0, none⟩) ∧ OB w' bO bD ∧ DB w' bD ∧ w.heap.size ≤ bD ∧ bD < bO ∧ Same [] w w' := by
 have hS := Same.refl [] w;obtain ⟨H, hH⟩ : ∃ H, H = w.heap.size := ⟨_, rfl⟩;have hw0 := Nat.le_of_eq hH;rw [← hH];refine aS Tryz.func31 Tryz.ntmps31 rfl rfl (aD (aB (aF rfl rfl (aG (aE (aD (aB ?_)))))));obtain ⟨bD, hbD⟩ : ∃ z, z = w.heap.size := ⟨_, rfl⟩;refine aR rfl rfl cf43 rfl rfl (decOps) ?_;rw [← hbD];rintro _ w1 ⟨rfl, hD, hs⟩;have hDl := hD.lt;replace hw0 := hs.le hw0;replace hS := hS.trans hs;refine eH rfl rfl (v := .agg #[opF bD 0, opF bD 1, opF bD 2, opF bD 3, opF bD 4, opF bD 5, opF bD 6, opF bD 7, opF bD 8, opF bD 9, opF bD 10]) (fun w => by kernel_rfl) rfl rfl (cA rfl rfl rfl ?_);intro w2 hn hs;replace hw0 := hs.le hw0;replace hS := hS.trans hs;replace hD := hD.same hs;obtain ⟨bO, hbO⟩ : ∃ z, z = w1.heap.size := ⟨_, rfl⟩
 have hO : OB w2 bO bD := by rw [hn, hbO]; exact ops_box _ _
 rw [← hbO];clear hn hs;exact aF rfl rfl (aG (aE (aZ rfl rfl ⟨bO, bD, rfl, hO, hD, by omega, by omega, hS⟩)))
end Go.Proofs.YtccicbpeajdjgaaGreatDoor.Vm
