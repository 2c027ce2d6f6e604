/- laws.FnDictionaryInt64Read answers true, whatever the input. -/
import Derived.Test.YthmknddfkmklfaaGreatDoorVmLaw
namespace Go.Proofs.YthmknddfkmklfaaGreatDoor.Vm
open Go Mix Go.RowKit Num
set_option maxRecDepth 20000
set_option linter.unusedSimpArgs false
theorem luV_one {w : World} {b E : Nat} {x : VS} (h : Row w b E (#[vC x 0, vC x 1, vC x 2, vC x 3] : Array Value).size (fun i => (#[vC x 0, vC x 1, vC x 2, vC x 3] : Array Value).getD i undef)) : LuV w (b + 1) (.slice (some ⟨b, 0, none⟩) 1 1) ([x].map vC) :=
  .inr ⟨b, 0, 1, rfl, Nat.lt_succ_self _, h.lt, fun i hi => by
    have hi : i < 4 := hi
    refine (h.cell (i := 0 + i) (by rw [Nat.zero_add]; exact hi)).trans (congrArg some ?_)
    rw [Nat.zero_add]
    have h2 := fl_getD (xs := [x].map vC) (j := 0) (i := i) (by simp) hi
    rw [Nat.mul_zero, Nat.zero_add] at h2
    exact (vC4_at x i hi).trans h2.symm⟩
theorem ls_try {w : World} {b E : Nat} (h : Row w b E (#[Value.int .u8 1, .int .u8 2, .int .u8 0] : Array Value).size (fun i => (#[Value.int .u8 1, .int .u8 2, .int .u8 0] : Array Value).getD i undef)) : Ls w 0 (.slice (some ⟨b, 0, none⟩) 3 3) (u8s (1 :: Rl.enc 1 [⟨false, 1, [0]⟩])) := by
  rw [enc_try]
  exact Row.ls (o := 0) h rfl (by decide) (Nat.zero_le _) fun i hi => by
    rcases (show i = 0 ∨ i = 1 ∨ i = 2 by omega) with rfl | rfl | rfl <;> rfl
theorem lu_try {w : World} {b E : Nat} (h : Row w b E (#[Value.int .i64 1] : Array Value).size (fun i => (#[Value.int .i64 1] : Array Value).getD i undef)) : Lu w (b + 1) (.slice (some ⟨b, 0, none⟩) 1 1) (i64s [1]) :=
  .inr ⟨b, 0, 1, rfl, Nat.lt_succ_self _, h.lt, fun i hi => by
    have hi : i < 1 := hi
    obtain rfl : i = 0 := by omega
    exact h.cell (i := 0) (by decide)⟩
theorem vals_try : (tout (fun j => (Rl.exp [⟨false, 1, [0]⟩]).getD j 0) (fun i => [(1 : Int)].getD i 0) 1).map (fun x => vF (n8 (fun i => (pb [VS.num 5]).getD i 0) x)) = [vC (VS.num 5)] := by
  rw [gotV_vC]
  have h : tout (fun j => (Rl.exp [⟨false, 1, [0]⟩]).getD j 0) (fun i => [(1 : Int)].getD i 0) 1 = [0] := rfl
  unfold gotV
  rw [h]
  simp only [List.map_cons, List.map_nil]
  rw [n8_pb (ds := [VS.num 5]) (j := 0) (by decide) (by decide)]
  rfl
theorem cf10 (us : Array Value) (w : World) : (callFunc 10 us).run Tryz.prog w = .ok (.enter 10 us) w := by kernel_rfl
theorem cf11 (us : Array Value) (w : World) : (callFunc 11 us).run Tryz.prog w = .ok (.enter 11 us) w := by kernel_rfl
theorem cf12 (us : Array Value) (w : World) : (callFunc 12 us).run Tryz.prog w = .ok (.enter 12 us) w := by kernel_rfl
theorem cf4 (us : Array Value) (w : World) : (callFunc 4 us).run Tryz.prog w = .ok (.enter 4 us) w := by kernel_rfl
theorem cf5 (us : Array Value) (w : World) : (callFunc 5 us).run Tryz.prog w = .ok (.enter 5 us) w := by kernel_rfl
theorem cf6 (us : Array Value) (w : World) : (callFunc 6 us).run Tryz.prog w = .ok (.enter 6 us) w := by kernel_rfl
theorem cf8 (us : Array Value) (w : World) : (callFunc 8 us).run Tryz.prog w = .ok (.enter 8 us) w := by kernel_rfl
theorem cf9 (us : Array Value) (w : World) : (callFunc 9 us).run Tryz.prog w = .ok (.enter 9 us) w := by kernel_rfl
set_option maxHeartbeats 200000 in
theorem lawBig {w : World} {aE aU aP : Addr} (hg : Glob w aE aU aP) (ds : List VS) (rs : List RR) (zs : List Int) (wd : Int) (A Ar Az : Option Addr) (N c n cl m cz H : Nat) (hH : H = w.heap.size) (hd : LuV w H (.slice A N c) (ds.map vC)) (hN : N = ds.length) (hN63 : N ≤ 9223372036854775807) (hok : ∀ j, j < ds.length → (ds.getD j default).OK) (hrs : RS w H (.slice Ar n cl) rs) (hn : n = rs.length) (hn63 : n ≤ 9223372036854775807) (hz : Lu w H (.slice Az m cz) (i64s zs)) (hm0 : m = (i64s zs).length) (hm63 : m ≤ 9223372036854775807) (hzr : ∀ i, -9223372036854775808 ≤ zs.getD i 0 ∧ zs.getD i 0 ≤ 9223372036854775807) (hbig : 2147483647 < N) :
    Ret Tryz.prog 3 #[.slice A N c, .int .i64 wd, .slice Ar n cl, .slice Az m cz] w fun v w' => v = .bool true ∧ Same [] w w' := by
  have hS := Same.refl [] w
  refine Ret.enter (vs := [.slice A N c, .int .i64 wd, .slice Ar n cl, .slice Az m cz]) Tryz.func3 Tryz.ntmps3 rfl rfl ?_
  refine WC.seq (WC.region ?_)
  refine WR.assign rfl rfl ?_
  refine WR.nil (WN.seq ?_)
  refine WC.seq (WC.seq (WC.region ?_))
  refine WR.move rfl rfl ?_
  refine WR.lenS rfl Tryz.underlying22 rfl ?_
  refine WR.bin rfl rfl rfl rfl ?_
  refine WR.move rfl rfl ?_
  refine WR.pass rfl rfl rfl (by first | rfl | assumption | (simp only [Bool.not_true, Bool.not_false, decide_eq_true_eq, decide_eq_false_iff_not, beq_iff_eq, bne_iff_ne, beq_eq_false_iff_ne, bne_eq_false_iff_eq, gt_iff_lt, ge_iff_le]; omega) | simp_all) ?_
  refine WR.pass rfl rfl rfl (by first | rfl | assumption | (simp only [Bool.not_true, Bool.not_false, decide_eq_true_eq, decide_eq_false_iff_not, beq_iff_eq, bne_iff_ne, beq_eq_false_iff_ne, bne_eq_false_iff_eq, gt_iff_lt, ge_iff_le]; omega) | simp_all) ?_
  refine WR.pass rfl rfl rfl (by first | rfl | assumption | (simp only [Bool.not_true, Bool.not_false, decide_eq_true_eq, decide_eq_false_iff_not, beq_iff_eq, bne_iff_ne, beq_eq_false_iff_ne, bne_eq_false_iff_eq, gt_iff_lt, ge_iff_le]; omega) | simp_all) ?_
  refine WR.pickT rfl (by first | rfl | assumption | (simp only [Bool.not_true, Bool.not_false, decide_eq_true_eq, decide_eq_false_iff_not, beq_iff_eq, bne_iff_ne, beq_eq_false_iff_ne, bne_eq_false_iff_eq, gt_iff_lt, ge_iff_le]; omega) | simp_all) rfl rfl ?_
  refine WR.move rfl rfl ?_
  refine WR.pass rfl rfl rfl rfl ?_
  refine WR.pass rfl rfl rfl rfl ?_
  refine WR.pass rfl rfl rfl rfl ?_
  refine WR.pickT rfl rfl rfl rfl ?_
  refine WR.nil (WN.seq ?_)
  refine WC.cond rfl (fun h664 => ?_) (fun h664 => ?_)
  · skip
    simp only at h664
    refine WC.seq (WC.region ?_)
    refine WR.assign rfl rfl ?_
    refine WR.nil (WN.seq ?_)
    refine WC.retR rfl rfl ?_
    exact ⟨rfl, hS⟩
  · skip
    first | (cases h664; done) | (simp at h664; done) | (simp at h664; omega) | omega

set_option maxHeartbeats 800000 in
theorem lawWide {w : World} {aE aU aP : Addr} (hg : Glob w aE aU aP) (ds : List VS) (rs : List RR) (zs : List Int) (wd : Int) (A Ar Az : Option Addr) (N c n cl m cz H : Nat) (hH : H = w.heap.size) (hd : LuV w H (.slice A N c) (ds.map vC)) (hN : N = ds.length) (hN63 : N ≤ 9223372036854775807) (hok : ∀ j, j < ds.length → (ds.getD j default).OK) (hrs : RS w H (.slice Ar n cl) rs) (hn : n = rs.length) (hn63 : n ≤ 9223372036854775807) (hz : Lu w H (.slice Az m cz) (i64s zs)) (hm0 : m = (i64s zs).length) (hm63 : m ≤ 9223372036854775807) (hzr : ∀ i, -9223372036854775808 ≤ zs.getD i 0 ∧ zs.getD i 0 ≤ 9223372036854775807) (hsm : N ≤ 2147483647) (hbig : 2147483647 < m) :
    Ret Tryz.prog 3 #[.slice A N c, .int .i64 wd, .slice Ar n cl, .slice Az m cz] w fun v w' => v = .bool true ∧ Same [] w w' := by
  have hS := Same.refl [] w
  have hw0 := Nat.le_of_eq hH
  have hgs := hg.size
  refine Ret.enter (vs := [.slice A N c, .int .i64 wd, .slice Ar n cl, .slice Az m cz]) Tryz.func3 Tryz.ntmps3 rfl rfl ?_
  refine WC.seq (WC.region ?_)
  refine WR.assign rfl rfl ?_
  refine WR.nil (WN.seq ?_)
  refine WC.seq (WC.seq (WC.region ?_))
  refine WR.move rfl rfl ?_
  refine WR.lenS rfl Tryz.underlying22 rfl ?_
  refine WR.bin rfl rfl rfl rfl ?_
  refine WR.move rfl rfl ?_
  refine WR.take rfl rfl (by first | rfl | assumption | (simp only [Bool.not_true, Bool.not_false, decide_eq_true_eq, decide_eq_false_iff_not, beq_iff_eq, bne_iff_ne, beq_eq_false_iff_ne, bne_eq_false_iff_eq, gt_iff_lt, ge_iff_le]; omega) | simp_all) ?_
  refine WR.move rfl rfl ?_
  refine WR.take rfl rfl (by first | rfl | assumption | (simp only [Bool.not_true, Bool.not_false, decide_eq_true_eq, decide_eq_false_iff_not, beq_iff_eq, bne_iff_ne, beq_eq_false_iff_ne, bne_eq_false_iff_eq, gt_iff_lt, ge_iff_le]; omega) | simp_all) ?_
  refine WR.callF rfl rfl cf4 rfl rfl (zfits5 rs n cl H Ar hH hrs hn hn63) ?_
  rintro _ w1 ⟨bz, rfl, hbz, hs⟩
  replace hw0 := Nat.le_trans hw0 hs.size
  replace hS := hS.trans hs (by simp <;> omega)
  replace hg := hg.same hs (by simp <;> omega)
  replace hd := hd.same hs (by simp <;> omega)
  replace hrs := hrs.same hs (by simp <;> omega)
  replace hz := hz.same hs (by simp <;> omega)
  cases bz
  · skip
    refine WR.take rfl rfl (by first | rfl | assumption | (simp only [Bool.not_true, Bool.not_false, decide_eq_true_eq, decide_eq_false_iff_not, beq_iff_eq, bne_iff_ne, beq_eq_false_iff_ne, bne_eq_false_iff_eq, gt_iff_lt, ge_iff_le]; omega) | simp_all) ?_
    refine WR.notOp rfl rfl ?_
    refine WR.pickF rfl (by first | rfl | assumption | (simp only [Bool.not_true, Bool.not_false, decide_eq_true_eq, decide_eq_false_iff_not, beq_iff_eq, bne_iff_ne, beq_eq_false_iff_ne, bne_eq_false_iff_eq, gt_iff_lt, ge_iff_le]; omega) | simp_all) rfl rfl ?_
    refine WR.move rfl rfl ?_
    refine WR.pass rfl rfl rfl rfl ?_
    refine WR.pass rfl rfl rfl rfl ?_
    refine WR.pass rfl rfl rfl rfl ?_
    refine WR.pickT rfl rfl rfl rfl ?_
    refine WR.nil (WN.seq ?_)
    refine WC.cond rfl (fun h664 => ?_) (fun h664 => ?_)
    · skip
      simp only at h664
      refine WC.seq (WC.region ?_)
      refine WR.assign rfl rfl ?_
      refine WR.nil (WN.seq ?_)
      refine WC.retR rfl rfl ?_
      exact ⟨rfl, hS⟩
    · skip
      first | (cases h664; done) | (simp at h664; done) | (simp at h664; omega) | omega
  · skip
    refine WR.take rfl rfl (by first | rfl | assumption | (simp only [Bool.not_true, Bool.not_false, decide_eq_true_eq, decide_eq_false_iff_not, beq_iff_eq, bne_iff_ne, beq_eq_false_iff_ne, bne_eq_false_iff_eq, gt_iff_lt, ge_iff_le]; omega) | simp_all) ?_
    refine WR.notOp rfl rfl ?_
    refine WR.pickF rfl (by first | rfl | assumption | (simp only [Bool.not_true, Bool.not_false, decide_eq_true_eq, decide_eq_false_iff_not, beq_iff_eq, bne_iff_ne, beq_eq_false_iff_ne, bne_eq_false_iff_eq, gt_iff_lt, ge_iff_le]; omega) | simp_all) rfl rfl ?_
    refine WR.move rfl rfl ?_
    refine WR.take rfl rfl rfl ?_
    refine WR.move rfl rfl ?_
    refine WR.take rfl rfl rfl ?_
    refine WR.lenS rfl Tryz.underlying24 rfl ?_
    refine WR.take rfl rfl rfl ?_
    refine WR.bin rfl rfl rfl rfl ?_
    refine WR.pickF rfl rfl rfl rfl ?_
    refine WR.nil (WN.seq ?_)
    refine WC.cond rfl (fun h664 => ?_) (fun h664 => ?_)
    · skip
      simp only [gt_iff_lt, decide_eq_true_eq] at h664
      refine WC.seq (WC.region ?_)
      refine WR.assign rfl rfl ?_
      refine WR.nil (WN.seq ?_)
      refine WC.retR rfl rfl ?_
      exact ⟨rfl, hS⟩
    · skip
      first | (cases h664; done) | (simp at h664; done) | (simp at h664; omega) | omega

set_option maxHeartbeats 800000 in
theorem lawTrue {w : World} {aE aU aP : Addr} (hg : Glob w aE aU aP) (ds : List VS) (rs : List RR) (zs : List Int) (wd : Int) (A Ar Az : Option Addr) (N c n cl m cz H : Nat) (hH : H = w.heap.size) (hd : LuV w H (.slice A N c) (ds.map vC)) (hN : N = ds.length) (hN63 : N ≤ 9223372036854775807) (hok : ∀ j, j < ds.length → (ds.getD j default).OK) (hrs : RS w H (.slice Ar n cl) rs) (hn : n = rs.length) (hn63 : n ≤ 9223372036854775807) (hz : Lu w H (.slice Az m cz) (i64s zs)) (hm0 : m = (i64s zs).length) (hm63 : m ≤ 9223372036854775807) (hzr : ∀ i, -9223372036854775808 ≤ zs.getD i 0 ∧ zs.getD i 0 ≤ 9223372036854775807) (hsm : N ≤ 2147483647) (hsm2 : m ≤ 2147483647) :
    Ret Tryz.prog 3 #[.slice A N c, .int .i64 wd, .slice Ar n cl, .slice Az m cz] w fun v w' => v = .bool true ∧ Same [] w w' := by
  have hS := Same.refl [] w
  have hw0 := Nat.le_of_eq hH
  have hgs := hg.size
  refine Ret.enter (vs := [.slice A N c, .int .i64 wd, .slice Ar n cl, .slice Az m cz]) Tryz.func3 Tryz.ntmps3 rfl rfl ?_
  refine WC.seq (WC.region ?_)
  refine WR.assign rfl rfl ?_
  refine WR.nil (WN.seq ?_)
  refine WC.seq (WC.seq (WC.region ?_))
  refine WR.move rfl rfl ?_
  refine WR.lenS rfl Tryz.underlying22 rfl ?_
  refine WR.bin rfl rfl rfl rfl ?_
  refine WR.move rfl rfl ?_
  refine WR.take rfl rfl (by first | rfl | assumption | (simp only [Bool.not_true, Bool.not_false, decide_eq_true_eq, decide_eq_false_iff_not, beq_iff_eq, bne_iff_ne, beq_eq_false_iff_ne, bne_eq_false_iff_eq, gt_iff_lt, ge_iff_le]; omega) | simp_all) ?_
  refine WR.move rfl rfl ?_
  refine WR.take rfl rfl (by first | rfl | assumption | (simp only [Bool.not_true, Bool.not_false, decide_eq_true_eq, decide_eq_false_iff_not, beq_iff_eq, bne_iff_ne, beq_eq_false_iff_ne, bne_eq_false_iff_eq, gt_iff_lt, ge_iff_le]; omega) | simp_all) ?_
  refine WR.callF rfl rfl cf4 rfl rfl (zfits5 rs n cl H Ar hH hrs hn hn63) ?_
  rintro _ w1 ⟨bz, rfl, hbz, hs⟩
  replace hw0 := Nat.le_trans hw0 hs.size
  replace hS := hS.trans hs (by simp <;> omega)
  replace hg := hg.same hs (by simp <;> omega)
  replace hd := hd.same hs (by simp <;> omega)
  replace hrs := hrs.same hs (by simp <;> omega)
  replace hz := hz.same hs (by simp <;> omega)
  cases bz
  · skip
    refine WR.take rfl rfl (by first | rfl | assumption | (simp only [Bool.not_true, Bool.not_false, decide_eq_true_eq, decide_eq_false_iff_not, beq_iff_eq, bne_iff_ne, beq_eq_false_iff_ne, bne_eq_false_iff_eq, gt_iff_lt, ge_iff_le]; omega) | simp_all) ?_
    refine WR.notOp rfl rfl ?_
    refine WR.pickF rfl (by first | rfl | assumption | (simp only [Bool.not_true, Bool.not_false, decide_eq_true_eq, decide_eq_false_iff_not, beq_iff_eq, bne_iff_ne, beq_eq_false_iff_ne, bne_eq_false_iff_eq, gt_iff_lt, ge_iff_le]; omega) | simp_all) rfl rfl ?_
    refine WR.move rfl rfl ?_
    refine WR.pass rfl rfl rfl rfl ?_
    refine WR.pass rfl rfl rfl rfl ?_
    refine WR.pass rfl rfl rfl rfl ?_
    refine WR.pickT rfl rfl rfl rfl ?_
    refine WR.nil (WN.seq ?_)
    refine WC.cond rfl (fun h664 => ?_) (fun h664 => ?_)
    · skip
      simp only at h664
      refine WC.seq (WC.region ?_)
      refine WR.assign rfl rfl ?_
      refine WR.nil (WN.seq ?_)
      refine WC.retR rfl rfl ?_
      exact ⟨rfl, hS⟩
    · skip
      first | (cases h664; done) | (simp at h664; done) | (simp at h664; omega) | omega
  · skip
    have hn31 := hbz rfl
    refine WR.take rfl rfl (by first | rfl | assumption | (simp only [Bool.not_true, Bool.not_false, decide_eq_true_eq, decide_eq_false_iff_not, beq_iff_eq, bne_iff_ne, beq_eq_false_iff_ne, bne_eq_false_iff_eq, gt_iff_lt, ge_iff_le]; omega) | simp_all) ?_
    refine WR.notOp rfl rfl ?_
    refine WR.pickF rfl (by first | rfl | assumption | (simp only [Bool.not_true, Bool.not_false, decide_eq_true_eq, decide_eq_false_iff_not, beq_iff_eq, bne_iff_ne, beq_eq_false_iff_ne, bne_eq_false_iff_eq, gt_iff_lt, ge_iff_le]; omega) | simp_all) rfl rfl ?_
    refine WR.move rfl rfl ?_
    refine WR.take rfl rfl rfl ?_
    refine WR.move rfl rfl ?_
    refine WR.take rfl rfl rfl ?_
    refine WR.lenS rfl Tryz.underlying24 rfl ?_
    refine WR.take rfl rfl rfl ?_
    refine WR.bin rfl rfl rfl rfl ?_
    refine WR.pickF rfl rfl rfl rfl ?_
    refine WR.nil (WN.seq ?_)
    refine WC.cond rfl (fun h664 => ?_) (fun h664 => ?_)
    · skip
      first | (cases h664; done) | (simp at h664; done) | (simp at h664; omega) | omega
    · skip
      simp only [gt_iff_lt, decide_eq_false_iff_not, Int.not_lt] at h664
      refine WC.skip (WN.seq ?_)
      refine WC.seq (WC.region ?_)
      refine WR.build rfl rfl (v := .agg tyA) (fun w => by kernel_rfl) rfl rfl ?_
      refine WR.build rfl rfl (v := .agg ((List.range 4).map (vC (VS.num 5))).toArray) (fun w => by kernel_rfl) rfl rfl ?_
      obtain ⟨nA, hnA⟩ : ∃ x, x = w1.heap.size := ⟨_, rfl⟩
      refine WR.buildSl (E := 35) (cs := #[vC (VS.num 5) 0, vC (VS.num 5) 1, vC (VS.num 5) 2, vC (VS.num 5) 3]) rfl rfl (fun w => by kernel_rfl) rfl rfl ?_
      rw [← hnA]
      intro w2 hM hs
      replace hw0 := Nat.le_trans hw0 hs.size
      replace hS := hS.trans hs (by simp <;> omega)
      replace hg := hg.same hs (by simp <;> omega)
      replace hd := hd.same hs (by simp <;> omega)
      replace hrs := hrs.same hs (by simp <;> omega)
      replace hz := hz.same hs (by simp <;> omega)
      clear hs
      obtain ⟨H1, hH1⟩ : ∃ x, x = w2.heap.size := ⟨_, rfl⟩
      refine WR.callF rfl rfl cf6 rfl rfl (plainly [VS.num 5] (some ⟨nA, 0, none⟩) 1 1 H1 hH1 ((luV_one hM).more (by have := hM.lt; omega)) rfl (fun j hj => by obtain rfl : j = 0 := (by simpa using hj); exact ⟨by decide, by decide⟩) (by decide)) ?_
      rintro vp w3 ⟨hP, hs⟩
      replace hw0 := Nat.le_trans hw0 hs.size
      replace hS := hS.trans hs (by simp <;> omega)
      replace hg := hg.same hs (by simp <;> omega)
      replace hd := hd.same hs (by simp <;> omega)
      replace hrs := hrs.same hs (by simp <;> omega)
      replace hz := hz.same hs (by simp <;> omega)
      replace hM := hM.same hs (by simp <;> omega)
      obtain ⟨nQ, hnQ⟩ : ∃ x, x = w3.heap.size := ⟨_, rfl⟩
      refine WR.buildSl (E := 5) (cs := #[.int .u8 1, .int .u8 2, .int .u8 0]) rfl rfl (fun w => by kernel_rfl) rfl rfl ?_
      rw [← hnQ]
      intro w4 hQ hs
      replace hw0 := Nat.le_trans hw0 hs.size
      replace hS := hS.trans hs (by simp <;> omega)
      replace hg := hg.same hs (by simp <;> omega)
      replace hd := hd.same hs (by simp <;> omega)
      replace hrs := hrs.same hs (by simp <;> omega)
      replace hz := hz.same hs (by simp <;> omega)
      replace hM := hM.same hs (by simp <;> omega)
      replace hP := hP.same hs (by simp <;> omega)
      clear hs
      obtain ⟨nT, hnT⟩ : ∃ x, x = w4.heap.size := ⟨_, rfl⟩
      refine WR.buildSl (E := 3) (cs := #[.int .i64 1]) rfl rfl (fun w => by kernel_rfl) rfl rfl ?_
      rw [← hnT]
      intro w5 hT hs
      replace hw0 := Nat.le_trans hw0 hs.size
      replace hS := hS.trans hs (by simp <;> omega)
      replace hg := hg.same hs (by simp <;> omega)
      replace hd := hd.same hs (by simp <;> omega)
      replace hrs := hrs.same hs (by simp <;> omega)
      replace hz := hz.same hs (by simp <;> omega)
      replace hM := hM.same hs (by simp <;> omega)
      replace hP := hP.same hs (by simp <;> omega)
      replace hQ := hQ.same hs (by simp <;> omega)
      clear hs
      obtain ⟨Ap, cp, rfl⟩ := hP.shape
      refine WR.callF rfl rfl cf5 rfl rfl (dictRead hg (pb [VS.num 5]) [⟨false, 1, [0]⟩] [1] Ap (some ⟨nQ, 0, none⟩) (some ⟨nT, 0, none⟩) _ cp 3 3 1 1 1 1 _ 0 hP.ls (by rw [pb_len]; rfl) (by rw [u8s_length, pb_len]; rfl) (pb_byte _) (by decide) (by decide) (ls_try hQ) (by rw [enc_try]; rfl) (by decide) (by decide) (dat_byte (by decide) fit_try) fit_try (by decide) (by decide) ((lu_try hT).more hT.lt) rfl (by decide) (by decide) (by decide) (fun j hj => by obtain rfl : j = 0 := (by simpa [exp_try] using hj); decide)) ?_
      rintro _ w6 ⟨u, rfl, hu, hs⟩
      rw [vals_try] at hu
      clear hM hP hQ hT
      obtain ⟨gu, ou, cu, rfl, hgu, hru⟩ := hu.at (j := 0) (by decide)
      rw [show ou + 4 * 0 = ou + Int.toNat 0 * 4 by rfl] at hru
      replace hw0 := Nat.le_trans hw0 hs.size
      replace hS := hS.trans hs (by simp <;> omega)
      replace hg := hg.same hs (by simp <;> omega)
      replace hd := hd.same hs (by simp <;> omega)
      replace hrs := hrs.same hs (by simp <;> omega)
      replace hz := hz.same hs (by simp <;> omega)
      refine WR.move rfl rfl ?_
      refine WR.extract rfl rfl rfl ?_
      refine WR.extract rfl rfl rfl ?_
      refine WR.assign rfl rfl ?_
      refine WR.assign rfl rfl ?_
      refine WR.nil (WN.seq ?_)
      refine WC.seq (WC.region ?_)
      refine WR.move rfl rfl ?_
      refine WR.move rfl rfl ?_
      refine WR.take rfl rfl rfl ?_
      refine WR.move rfl rfl ?_
      refine WR.take rfl rfl rfl ?_
      refine WR.lenS rfl Tryz.underlying22 rfl ?_
      refine WR.take rfl rfl rfl ?_
      refine WR.bin rfl rfl rfl rfl ?_
      refine WR.pickT rfl rfl rfl rfl ?_
      refine WR.move rfl rfl ?_
      refine WR.take rfl rfl rfl ?_
      refine WR.move rfl rfl ?_
      refine WR.take rfl rfl rfl ?_
      refine WR.idx rfl rfl Tryz.underlying22 sz35 (by decide) (by simp) rfl ?_
      refine WR.take rfl rfl rfl ?_
      refine WR.loadAgg rfl Tryz.underlying35 rfl sz35 (show Rd _ gu (ou + Int.toNat 0 * 4) 4 (vC (VS.num 5)) from hru) rfl ?_
      refine WR.take rfl rfl rfl ?_
      refine WR.build rfl rfl (v := .agg ((List.range 4).map (vC (VS.num 5))).toArray) (fun w => by kernel_rfl) rfl rfl ?_
      refine WR.take rfl rfl rfl ?_
      refine WR.callF rfl rfl cf7 rfl rfl (sameValue (VS.num 5) (VS.num 5) rfl rfl rfl rfl rfl rfl) ?_
      rintro _ w7 ⟨rfl, hs⟩
      clear hu hru
      replace hw0 := Nat.le_trans hw0 hs.size
      replace hS := hS.trans hs (by simp <;> omega)
      replace hg := hg.same hs (by simp <;> omega)
      replace hd := hd.same hs (by simp <;> omega)
      replace hrs := hrs.same hs (by simp <;> omega)
      replace hz := hz.same hs (by simp <;> omega)
      refine WR.pickT rfl rfl rfl rfl ?_
      refine WR.assign rfl rfl ?_
      refine WR.nil (WN.seq ?_)
      refine WC.seq (WC.region ?_)
      refine WR.move rfl rfl ?_
      refine WR.move rfl rfl ?_
      obtain ⟨H2, hH2⟩ : ∃ x, x = w7.heap.size := ⟨_, rfl⟩
      refine WR.callF rfl rfl cf8 rfl rfl (byIndex rs wd n cl H2 Ar hH2 (hrs.more (by omega)) hn) ?_
      rintro _ w8 ⟨u1, u2, bi, rfl, hB, hBf, hs⟩
      replace hw0 := Nat.le_trans hw0 hs.size
      replace hS := hS.trans hs (by simp <;> omega)
      replace hg := hg.same hs (by simp <;> omega)
      replace hd := hd.same hs (by simp <;> omega)
      replace hrs := hrs.same hs (by simp <;> omega)
      replace hz := hz.same hs (by simp <;> omega)
      cases bi
      · skip
        obtain rfl := hBf rfl
        clear hB hBf
        refine WR.move rfl rfl ?_
        refine WR.extract rfl rfl rfl ?_
        refine WR.extract rfl rfl rfl ?_
        refine WR.extract rfl rfl rfl ?_
        refine WR.assign rfl rfl ?_
        refine WR.assign rfl rfl ?_
        refine WR.assign rfl rfl ?_
        refine WR.nil (WN.seq ?_)
        refine WC.seq (WC.region ?_)
        refine WR.move rfl rfl ?_
        refine WR.move rfl rfl ?_
        obtain ⟨H3, hH3⟩ : ∃ x, x = w8.heap.size := ⟨_, rfl⟩
        refine WR.callF rfl rfl cf9 rfl rfl (indexed ds [] A none N c 0 0 H3 hH3 (hd.more (by omega)) hN (by omega) (.inl ⟨rfl, rfl⟩) rfl (by decide)) ?_
        rintro _ w9 ⟨ua, ba, rfl, -, hs⟩
        replace hw0 := Nat.le_trans hw0 hs.size
        replace hS := hS.trans hs (by simp <;> omega)
        replace hg := hg.same hs (by simp <;> omega)
        replace hd := hd.same hs (by simp <;> omega)
        replace hrs := hrs.same hs (by simp <;> omega)
        replace hz := hz.same hs (by simp <;> omega)
        refine WR.move rfl rfl ?_
        refine WR.extract rfl rfl rfl ?_
        refine WR.extract rfl rfl rfl ?_
        refine WR.assign rfl rfl ?_
        refine WR.assign rfl rfl ?_
        refine WR.nil (WN.seq ?_)
        refine WC.seq (WC.seq (WC.region ?_))
        refine WR.move rfl rfl ?_
        refine WR.notOp rfl rfl ?_
        refine WR.move rfl rfl ?_
        refine WR.pass rfl rfl rfl rfl ?_
        refine WR.pass rfl rfl rfl rfl ?_
        refine WR.pickT rfl rfl rfl rfl ?_
        refine WR.move rfl rfl ?_
        refine WR.pass rfl rfl rfl rfl ?_
        refine WR.pass rfl rfl rfl rfl ?_
        refine WR.pass rfl rfl rfl rfl ?_
        refine WR.pickT rfl rfl rfl rfl ?_
        refine WR.move rfl rfl ?_
        refine WR.pass rfl rfl rfl rfl ?_
        refine WR.pass rfl rfl rfl rfl ?_
        refine WR.pass rfl rfl rfl rfl ?_
        refine WR.pickT rfl rfl rfl rfl ?_
        refine WR.move rfl rfl ?_
        refine WR.pass rfl rfl rfl rfl ?_
        refine WR.pass rfl rfl rfl rfl ?_
        refine WR.pass rfl rfl rfl rfl ?_
        refine WR.pass rfl rfl rfl rfl ?_
        refine WR.pickT rfl rfl rfl rfl ?_
        refine WR.move rfl rfl ?_
        refine WR.pass rfl rfl rfl rfl ?_
        refine WR.pass rfl rfl rfl rfl ?_
        refine WR.pass rfl rfl rfl rfl ?_
        refine WR.pass rfl rfl rfl rfl ?_
        refine WR.pickT rfl rfl rfl rfl ?_
        refine WR.nil (WN.seq ?_)
        refine WC.cond rfl (fun h671 => ?_) (fun h671 => ?_)
        · skip
          simp only at h671
          refine WC.seq (WC.region ?_)
          refine WR.move rfl rfl ?_
          refine WR.assign rfl rfl ?_
          refine WR.nil (WN.seq ?_)
          refine WC.retR rfl rfl ?_
          exact ⟨rfl, hS⟩
        · skip
          first | (cases h671; done) | (simp at h671; done) | (simp at h671; omega) | omega
      · skip
        obtain ⟨V, rfl, hV1, hV2, hn40, hfit, hX, hV⟩ := hB rfl
        clear hB hBf
        have hfi : ∀ r, r ∈ rs.map RR.run → Rl.Fit V r := fun r hr => by
          obtain ⟨x, hx, rfl⟩ := List.mem_map.1 hr
          obtain ⟨j, hj, rfl⟩ := List.getElem_of_mem hx
          have := hfit j hj
          rwa [List.getD_eq_getElem?_getD, List.getElem?_eq_getElem hj] at this
        have hel := Rl.enc_len hV2 hfi
        have hxl := Rl.exp_len hfi
        rw [List.length_map] at hel hxl
        obtain ⟨Ax, cx, rfl⟩ := hX.shape
        obtain ⟨Av, cv, rfl⟩ := hV.shape
        have hVl : (u64s (Rl.exp (rs.map RR.run))).length = (Rl.exp (rs.map RR.run)).length := u64s_length _
        rw [hVl] at hV ⊢
        refine WR.move rfl rfl ?_
        refine WR.extract rfl rfl rfl ?_
        refine WR.extract rfl rfl rfl ?_
        refine WR.extract rfl rfl rfl ?_
        refine WR.assign rfl rfl ?_
        refine WR.assign rfl rfl ?_
        refine WR.assign rfl rfl ?_
        refine WR.nil (WN.seq ?_)
        refine WC.seq (WC.region ?_)
        refine WR.move rfl rfl ?_
        refine WR.move rfl rfl ?_
        obtain ⟨H3, hH3⟩ : ∃ x, x = w8.heap.size := ⟨_, rfl⟩
        refine WR.callF rfl rfl cf9 rfl rfl (indexed ds (Rl.exp (rs.map RR.run)) A Av N c (Rl.exp (rs.map RR.run)).length cv H3 hH3 (hd.more (by omega)) hN (by omega) (by rw [hH3]; exact hV.ls.lu) rfl (by omega)) ?_
        rintro _ w9 ⟨ua, ba, rfl, hA, hs⟩
        clear hV
        replace hw0 := Nat.le_trans hw0 hs.size
        replace hS := hS.trans hs (by simp <;> omega)
        replace hg := hg.same hs (by simp <;> omega)
        replace hd := hd.same hs (by simp <;> omega)
        replace hrs := hrs.same hs (by simp <;> omega)
        replace hz := hz.same hs (by simp <;> omega)
        replace hX := hX.same hs (by simp <;> omega)
        cases ba
        · skip
          refine WR.move rfl rfl ?_
          refine WR.extract rfl rfl rfl ?_
          refine WR.extract rfl rfl rfl ?_
          refine WR.assign rfl rfl ?_
          refine WR.assign rfl rfl ?_
          refine WR.nil (WN.seq ?_)
          refine WC.seq (WC.seq (WC.region ?_))
          refine WR.move rfl rfl ?_
          refine WR.notOp rfl rfl ?_
          refine WR.move rfl rfl ?_
          refine WR.take rfl rfl rfl ?_
          refine WR.move rfl rfl ?_
          refine WR.take rfl rfl rfl ?_
          refine WR.notOp rfl rfl ?_
          refine WR.pickF rfl rfl rfl rfl ?_
          refine WR.move rfl rfl ?_
          refine WR.pass rfl rfl rfl rfl ?_
          refine WR.pass rfl rfl rfl rfl ?_
          refine WR.pass rfl rfl rfl rfl ?_
          refine WR.pickT rfl rfl rfl rfl ?_
          refine WR.move rfl rfl ?_
          refine WR.pass rfl rfl rfl rfl ?_
          refine WR.pass rfl rfl rfl rfl ?_
          refine WR.pass rfl rfl rfl rfl ?_
          refine WR.pickT rfl rfl rfl rfl ?_
          refine WR.move rfl rfl ?_
          refine WR.pass rfl rfl rfl rfl ?_
          refine WR.pass rfl rfl rfl rfl ?_
          refine WR.pass rfl rfl rfl rfl ?_
          refine WR.pass rfl rfl rfl rfl ?_
          refine WR.pickT rfl rfl rfl rfl ?_
          refine WR.move rfl rfl ?_
          refine WR.pass rfl rfl rfl rfl ?_
          refine WR.pass rfl rfl rfl rfl ?_
          refine WR.pass rfl rfl rfl rfl ?_
          refine WR.pass rfl rfl rfl rfl ?_
          refine WR.pickT rfl rfl rfl rfl ?_
          refine WR.nil (WN.seq ?_)
          refine WC.cond rfl (fun h671 => ?_) (fun h671 => ?_)
          · skip
            simp only at h671
            refine WC.seq (WC.region ?_)
            refine WR.move rfl rfl ?_
            refine WR.assign rfl rfl ?_
            refine WR.nil (WN.seq ?_)
            refine WC.retR rfl rfl ?_
            exact ⟨rfl, hS⟩
          · skip
            first | (cases h671; done) | (simp at h671; done) | (simp at h671; omega) | omega
        · skip
          obtain ⟨hE, hO⟩ := hA rfl
          clear hA
          rw [allV_vC] at hO
          obtain ⟨Aa, ca, rfl⟩ := hO.ls.shape
          have hal : ((allV ds (Rl.exp (rs.map RR.run))).map vC).length = (Rl.exp (rs.map RR.run)).length := by rw [List.length_map, allV_len]
          rw [hal] at hO ⊢
          rcases (show (Rl.exp (rs.map RR.run)).length = 0 ∨ (Rl.exp (rs.map RR.run)).length ≠ 0 ∧ 100 < N ∨ (Rl.exp (rs.map RR.run)).length ≠ 0 ∧ N ≤ 100 by omega) with h0 | ⟨h0, h100⟩ | ⟨h0, h100⟩
          · skip
            refine WR.move rfl rfl ?_
            refine WR.extract rfl rfl rfl ?_
            refine WR.extract rfl rfl rfl ?_
            refine WR.assign rfl rfl ?_
            refine WR.assign rfl rfl ?_
            refine WR.nil (WN.seq ?_)
            refine WC.seq (WC.seq (WC.region ?_))
            refine WR.move rfl rfl ?_
            refine WR.notOp rfl rfl ?_
            refine WR.move rfl rfl ?_
            refine WR.take rfl rfl rfl ?_
            refine WR.move rfl rfl ?_
            refine WR.take rfl rfl rfl ?_
            refine WR.notOp rfl rfl ?_
            refine WR.pickF rfl rfl rfl rfl ?_
            refine WR.move rfl rfl ?_
            refine WR.take rfl rfl rfl ?_
            refine WR.move rfl rfl ?_
            refine WR.take rfl rfl rfl ?_
            refine WR.lenS rfl Tryz.underlying22 rfl ?_
            refine WR.take rfl rfl rfl ?_
            refine WR.bin rfl rfl rfl rfl ?_
            refine WR.pickF rfl rfl rfl rfl ?_
            refine WR.move rfl rfl ?_
            refine WR.pass rfl rfl rfl (by first | rfl | assumption | (simp only [Bool.not_true, Bool.not_false, decide_eq_true_eq, decide_eq_false_iff_not, beq_iff_eq, bne_iff_ne, beq_eq_false_iff_ne, bne_eq_false_iff_eq, gt_iff_lt, ge_iff_le]; omega) | simp_all) ?_
            refine WR.pass rfl rfl rfl (by first | rfl | assumption | (simp only [Bool.not_true, Bool.not_false, decide_eq_true_eq, decide_eq_false_iff_not, beq_iff_eq, bne_iff_ne, beq_eq_false_iff_ne, bne_eq_false_iff_eq, gt_iff_lt, ge_iff_le]; omega) | simp_all) ?_
            refine WR.pass rfl rfl rfl (by first | rfl | assumption | (simp only [Bool.not_true, Bool.not_false, decide_eq_true_eq, decide_eq_false_iff_not, beq_iff_eq, bne_iff_ne, beq_eq_false_iff_ne, bne_eq_false_iff_eq, gt_iff_lt, ge_iff_le]; omega) | simp_all) ?_
            refine WR.pickT rfl (by first | rfl | assumption | (simp only [Bool.not_true, Bool.not_false, decide_eq_true_eq, decide_eq_false_iff_not, beq_iff_eq, bne_iff_ne, beq_eq_false_iff_ne, bne_eq_false_iff_eq, gt_iff_lt, ge_iff_le]; omega) | simp_all) rfl rfl ?_
            refine WR.move rfl rfl ?_
            refine WR.pass rfl rfl rfl rfl ?_
            refine WR.pass rfl rfl rfl rfl ?_
            refine WR.pass rfl rfl rfl rfl ?_
            refine WR.pass rfl rfl rfl rfl ?_
            refine WR.pickT rfl rfl rfl rfl ?_
            refine WR.move rfl rfl ?_
            refine WR.pass rfl rfl rfl rfl ?_
            refine WR.pass rfl rfl rfl rfl ?_
            refine WR.pass rfl rfl rfl rfl ?_
            refine WR.pass rfl rfl rfl rfl ?_
            refine WR.pickT rfl rfl rfl rfl ?_
            refine WR.nil (WN.seq ?_)
            refine WC.cond rfl (fun h671 => ?_) (fun h671 => ?_)
            · skip
              simp only at h671
              refine WC.seq (WC.region ?_)
              refine WR.move rfl rfl ?_
              refine WR.assign rfl rfl ?_
              refine WR.nil (WN.seq ?_)
              refine WC.retR rfl rfl ?_
              exact ⟨rfl, hS⟩
            · skip
              first | (cases h671; done) | (simp at h671; done) | (simp at h671; omega) | omega
          · skip
            refine WR.move rfl rfl ?_
            refine WR.extract rfl rfl rfl ?_
            refine WR.extract rfl rfl rfl ?_
            refine WR.assign rfl rfl ?_
            refine WR.assign rfl rfl ?_
            refine WR.nil (WN.seq ?_)
            refine WC.seq (WC.seq (WC.region ?_))
            refine WR.move rfl rfl ?_
            refine WR.notOp rfl rfl ?_
            refine WR.move rfl rfl ?_
            refine WR.take rfl rfl rfl ?_
            refine WR.move rfl rfl ?_
            refine WR.take rfl rfl rfl ?_
            refine WR.notOp rfl rfl ?_
            refine WR.pickF rfl rfl rfl rfl ?_
            refine WR.move rfl rfl ?_
            refine WR.take rfl rfl rfl ?_
            refine WR.move rfl rfl ?_
            refine WR.take rfl rfl rfl ?_
            refine WR.lenS rfl Tryz.underlying22 rfl ?_
            refine WR.take rfl rfl rfl ?_
            refine WR.bin rfl rfl rfl rfl ?_
            refine WR.pickF rfl rfl rfl rfl ?_
            refine WR.move rfl rfl ?_
            refine WR.take rfl rfl (by first | rfl | assumption | (simp only [Bool.not_true, Bool.not_false, decide_eq_true_eq, decide_eq_false_iff_not, beq_iff_eq, bne_iff_ne, beq_eq_false_iff_ne, bne_eq_false_iff_eq, gt_iff_lt, ge_iff_le]; omega) | simp_all) ?_
            refine WR.move rfl rfl ?_
            refine WR.take rfl rfl (by first | rfl | assumption | (simp only [Bool.not_true, Bool.not_false, decide_eq_true_eq, decide_eq_false_iff_not, beq_iff_eq, bne_iff_ne, beq_eq_false_iff_ne, bne_eq_false_iff_eq, gt_iff_lt, ge_iff_le]; omega) | simp_all) ?_
            refine WR.lenS rfl Tryz.underlying22 rfl ?_
            refine WR.take rfl rfl (by first | rfl | assumption | (simp only [Bool.not_true, Bool.not_false, decide_eq_true_eq, decide_eq_false_iff_not, beq_iff_eq, bne_iff_ne, beq_eq_false_iff_ne, bne_eq_false_iff_eq, gt_iff_lt, ge_iff_le]; omega) | simp_all) ?_
            refine WR.bin rfl rfl rfl rfl ?_
            refine WR.pickF rfl (by first | rfl | assumption | (simp only [Bool.not_true, Bool.not_false, decide_eq_true_eq, decide_eq_false_iff_not, beq_iff_eq, bne_iff_ne, beq_eq_false_iff_ne, bne_eq_false_iff_eq, gt_iff_lt, ge_iff_le]; omega) | simp_all) rfl rfl ?_
            refine WR.move rfl rfl ?_
            refine WR.pass rfl rfl rfl (by first | rfl | assumption | (simp only [Bool.not_true, Bool.not_false, decide_eq_true_eq, decide_eq_false_iff_not, beq_iff_eq, bne_iff_ne, beq_eq_false_iff_ne, bne_eq_false_iff_eq, gt_iff_lt, ge_iff_le]; omega) | simp_all) ?_
            refine WR.pass rfl rfl rfl (by first | rfl | assumption | (simp only [Bool.not_true, Bool.not_false, decide_eq_true_eq, decide_eq_false_iff_not, beq_iff_eq, bne_iff_ne, beq_eq_false_iff_ne, bne_eq_false_iff_eq, gt_iff_lt, ge_iff_le]; omega) | simp_all) ?_
            refine WR.pass rfl rfl rfl (by first | rfl | assumption | (simp only [Bool.not_true, Bool.not_false, decide_eq_true_eq, decide_eq_false_iff_not, beq_iff_eq, bne_iff_ne, beq_eq_false_iff_ne, bne_eq_false_iff_eq, gt_iff_lt, ge_iff_le]; omega) | simp_all) ?_
            refine WR.pass rfl rfl rfl (by first | rfl | assumption | (simp only [Bool.not_true, Bool.not_false, decide_eq_true_eq, decide_eq_false_iff_not, beq_iff_eq, bne_iff_ne, beq_eq_false_iff_ne, bne_eq_false_iff_eq, gt_iff_lt, ge_iff_le]; omega) | simp_all) ?_
            refine WR.pickT rfl (by first | rfl | assumption | (simp only [Bool.not_true, Bool.not_false, decide_eq_true_eq, decide_eq_false_iff_not, beq_iff_eq, bne_iff_ne, beq_eq_false_iff_ne, bne_eq_false_iff_eq, gt_iff_lt, ge_iff_le]; omega) | simp_all) rfl rfl ?_
            refine WR.move rfl rfl ?_
            refine WR.pass rfl rfl rfl rfl ?_
            refine WR.pass rfl rfl rfl rfl ?_
            refine WR.pass rfl rfl rfl rfl ?_
            refine WR.pass rfl rfl rfl rfl ?_
            refine WR.pickT rfl rfl rfl rfl ?_
            refine WR.nil (WN.seq ?_)
            refine WC.cond rfl (fun h671 => ?_) (fun h671 => ?_)
            · skip
              simp only at h671
              refine WC.seq (WC.region ?_)
              refine WR.move rfl rfl ?_
              refine WR.assign rfl rfl ?_
              refine WR.nil (WN.seq ?_)
              refine WC.retR rfl rfl ?_
              exact ⟨rfl, hS⟩
            · skip
              first | (cases h671; done) | (simp at h671; done) | (simp at h671; omega) | omega
          · skip
            have hD1 : 1 ≤ N := by have := hE 0 (by omega); omega
            refine WR.move rfl rfl ?_
            refine WR.extract rfl rfl rfl ?_
            refine WR.extract rfl rfl rfl ?_
            refine WR.assign rfl rfl ?_
            refine WR.assign rfl rfl ?_
            refine WR.nil (WN.seq ?_)
            refine WC.seq (WC.seq (WC.region ?_))
            refine WR.move rfl rfl ?_
            refine WR.notOp rfl rfl ?_
            refine WR.move rfl rfl ?_
            refine WR.take rfl rfl rfl ?_
            refine WR.move rfl rfl ?_
            refine WR.take rfl rfl rfl ?_
            refine WR.notOp rfl rfl ?_
            refine WR.pickF rfl rfl rfl rfl ?_
            refine WR.move rfl rfl ?_
            refine WR.take rfl rfl rfl ?_
            refine WR.move rfl rfl ?_
            refine WR.take rfl rfl rfl ?_
            refine WR.lenS rfl Tryz.underlying22 rfl ?_
            refine WR.take rfl rfl rfl ?_
            refine WR.bin rfl rfl rfl rfl ?_
            refine WR.pickF rfl rfl rfl rfl ?_
            refine WR.move rfl rfl ?_
            refine WR.take rfl rfl (by first | rfl | assumption | (simp only [Bool.not_true, Bool.not_false, decide_eq_true_eq, decide_eq_false_iff_not, beq_iff_eq, bne_iff_ne, beq_eq_false_iff_ne, bne_eq_false_iff_eq, gt_iff_lt, ge_iff_le]; omega) | simp_all) ?_
            refine WR.move rfl rfl ?_
            refine WR.take rfl rfl (by first | rfl | assumption | (simp only [Bool.not_true, Bool.not_false, decide_eq_true_eq, decide_eq_false_iff_not, beq_iff_eq, bne_iff_ne, beq_eq_false_iff_ne, bne_eq_false_iff_eq, gt_iff_lt, ge_iff_le]; omega) | simp_all) ?_
            refine WR.lenS rfl Tryz.underlying22 rfl ?_
            refine WR.take rfl rfl (by first | rfl | assumption | (simp only [Bool.not_true, Bool.not_false, decide_eq_true_eq, decide_eq_false_iff_not, beq_iff_eq, bne_iff_ne, beq_eq_false_iff_ne, bne_eq_false_iff_eq, gt_iff_lt, ge_iff_le]; omega) | simp_all) ?_
            refine WR.bin rfl rfl rfl rfl ?_
            refine WR.pickF rfl (by first | rfl | assumption | (simp only [Bool.not_true, Bool.not_false, decide_eq_true_eq, decide_eq_false_iff_not, beq_iff_eq, bne_iff_ne, beq_eq_false_iff_ne, bne_eq_false_iff_eq, gt_iff_lt, ge_iff_le]; omega) | simp_all) rfl rfl ?_
            refine WR.move rfl rfl ?_
            refine WR.take rfl rfl (by first | rfl | assumption | (simp only [Bool.not_true, Bool.not_false, decide_eq_true_eq, decide_eq_false_iff_not, beq_iff_eq, bne_iff_ne, beq_eq_false_iff_ne, bne_eq_false_iff_eq, gt_iff_lt, ge_iff_le]; omega) | simp_all) ?_
            refine WR.build rfl rfl (v := .agg tyA) (fun w => by kernel_rfl) rfl rfl ?_
            refine WR.take rfl rfl (by first | rfl | assumption | (simp only [Bool.not_true, Bool.not_false, decide_eq_true_eq, decide_eq_false_iff_not, beq_iff_eq, bne_iff_ne, beq_eq_false_iff_ne, bne_eq_false_iff_eq, gt_iff_lt, ge_iff_le]; omega) | simp_all) ?_
            refine WR.move rfl rfl ?_
            refine WR.take rfl rfl (by first | rfl | assumption | (simp only [Bool.not_true, Bool.not_false, decide_eq_true_eq, decide_eq_false_iff_not, beq_iff_eq, bne_iff_ne, beq_eq_false_iff_ne, bne_eq_false_iff_eq, gt_iff_lt, ge_iff_le]; omega) | simp_all) ?_
            obtain ⟨H4, hH4⟩ : ∃ x, x = w9.heap.size := ⟨_, rfl⟩
            refine WR.callF rfl rfl cf10 rfl rfl (plainAll ds A N c H4 hH4 (hd.more (by omega)) hN hok hN63) ?_
            rintro _ w10 ⟨bp, rfl, hp, hs⟩
            replace hw0 := Nat.le_trans hw0 hs.size
            replace hS := hS.trans hs (by simp <;> omega)
            replace hg := hg.same hs (by simp <;> omega)
            replace hd := hd.same hs (by simp <;> omega)
            replace hrs := hrs.same hs (by simp <;> omega)
            replace hz := hz.same hs (by simp <;> omega)
            replace hX := hX.same hs (by simp <;> omega)
            replace hO := hO.same hs (by simp <;> omega)
            cases bp
            · skip
              refine WR.take rfl rfl (by first | rfl | assumption | (simp only [Bool.not_true, Bool.not_false, decide_eq_true_eq, decide_eq_false_iff_not, beq_iff_eq, bne_iff_ne, beq_eq_false_iff_ne, bne_eq_false_iff_eq, gt_iff_lt, ge_iff_le]; omega) | simp_all) ?_
              refine WR.notOp rfl rfl ?_
              refine WR.pickF rfl (by first | rfl | assumption | (simp only [Bool.not_true, Bool.not_false, decide_eq_true_eq, decide_eq_false_iff_not, beq_iff_eq, bne_iff_ne, beq_eq_false_iff_ne, bne_eq_false_iff_eq, gt_iff_lt, ge_iff_le]; omega) | simp_all) rfl rfl ?_
              refine WR.move rfl rfl ?_
              refine WR.pass rfl rfl rfl rfl ?_
              refine WR.pass rfl rfl rfl rfl ?_
              refine WR.pass rfl rfl rfl rfl ?_
              refine WR.pass rfl rfl rfl rfl ?_
              refine WR.pickT rfl rfl rfl rfl ?_
              refine WR.nil (WN.seq ?_)
              refine WC.cond rfl (fun h671 => ?_) (fun h671 => ?_)
              · skip
                simp only at h671
                refine WC.seq (WC.region ?_)
                refine WR.move rfl rfl ?_
                refine WR.assign rfl rfl ?_
                refine WR.nil (WN.seq ?_)
                refine WC.retR rfl rfl ?_
                exact ⟨rfl, hS⟩
              · skip
                first | (cases h671; done) | (simp at h671; done) | (simp at h671; omega) | omega
            · skip
              replace hp := hp rfl
              refine WR.take rfl rfl (by first | rfl | assumption | (simp only [Bool.not_true, Bool.not_false, decide_eq_true_eq, decide_eq_false_iff_not, beq_iff_eq, bne_iff_ne, beq_eq_false_iff_ne, bne_eq_false_iff_eq, gt_iff_lt, ge_iff_le]; omega) | simp_all) ?_
              refine WR.notOp rfl rfl ?_
              refine WR.pickF rfl (by first | rfl | assumption | (simp only [Bool.not_true, Bool.not_false, decide_eq_true_eq, decide_eq_false_iff_not, beq_iff_eq, bne_iff_ne, beq_eq_false_iff_ne, bne_eq_false_iff_eq, gt_iff_lt, ge_iff_le]; omega) | simp_all) rfl rfl ?_
              refine WR.move rfl rfl ?_
              refine WR.take rfl rfl rfl ?_
              refine WR.build rfl rfl (v := .agg tyA) (fun w => by kernel_rfl) rfl rfl ?_
              refine WR.take rfl rfl rfl ?_
              refine WR.move rfl rfl ?_
              refine WR.take rfl rfl rfl ?_
              obtain ⟨H5, hH5⟩ : ∃ x, x = w10.heap.size := ⟨_, rfl⟩
              refine WR.callF rfl rfl cf11 rfl rfl (plainFloats ds A N c H5 hH5 (hd.more (by omega)) hN hok hN63) ?_
              rintro _ w11 ⟨rfl, hs⟩
              replace hw0 := Nat.le_trans hw0 hs.size
              replace hS := hS.trans hs (by simp <;> omega)
              replace hg := hg.same hs (by simp <;> omega)
              replace hd := hd.same hs (by simp <;> omega)
              replace hrs := hrs.same hs (by simp <;> omega)
              replace hz := hz.same hs (by simp <;> omega)
              replace hX := hX.same hs (by simp <;> omega)
              replace hO := hO.same hs (by simp <;> omega)
              refine WR.take rfl rfl rfl ?_
              refine WR.notOp rfl rfl ?_
              refine WR.pickF rfl rfl rfl rfl ?_
              refine WR.nil (WN.seq ?_)
              refine WC.cond rfl (fun h671 => ?_) (fun h671 => ?_)
              · skip
                first | (cases h671; done) | (simp at h671; done) | (simp at h671; omega) | omega
              · skip
                refine WC.skip (WN.seq ?_)
                refine WC.seq (WC.region ?_)
                refine WR.move rfl rfl ?_
                refine WR.move rfl rfl ?_
                obtain ⟨H6, hH6⟩ : ∃ x, x = w11.heap.size := ⟨_, rfl⟩
                have hOl := hO.ls.lu
                rw [← hH6] at hOl
                refine WR.callF rfl rfl cf12 rfl rfl (batchedValues (allV ds (Rl.exp (rs.map RR.run))) zs Aa Az (Rl.exp (rs.map RR.run)).length ca m cz H6 hH6 hOl (allV_len _ _).symm (by omega) (hz.more (by omega)) hm0 hzr hm63) ?_
                rintro _ w12 ⟨uw, bw, rfl, hbw, hs⟩
                replace hw0 := Nat.le_trans hw0 hs.size
                replace hS := hS.trans hs (by simp <;> omega)
                replace hg := hg.same hs (by simp <;> omega)
                replace hd := hd.same hs (by simp <;> omega)
                replace hrs := hrs.same hs (by simp <;> omega)
                replace hz := hz.same hs (by simp <;> omega)
                replace hX := hX.same hs (by simp <;> omega)
                replace hO := hO.same hs (by simp <;> omega)
                cases bw
                · skip
                  refine WR.move rfl rfl ?_
                  refine WR.extract rfl rfl rfl ?_
                  refine WR.extract rfl rfl rfl ?_
                  refine WR.assign rfl rfl ?_
                  refine WR.assign rfl rfl ?_
                  refine WR.nil (WN.seq ?_)
                  refine WC.seq (WC.seq (WC.region ?_))
                  refine WR.move rfl rfl ?_
                  refine WR.notOp rfl rfl ?_
                  refine WR.nil (WN.seq ?_)
                  refine WC.cond rfl (fun h675 => ?_) (fun h675 => ?_)
                  · skip
                    refine WC.seq (WC.region ?_)
                    refine WR.move rfl rfl ?_
                    refine WR.assign rfl rfl ?_
                    refine WR.nil (WN.seq ?_)
                    refine WC.retR rfl rfl ?_
                    exact ⟨rfl, hS⟩
                  · skip
                    first | (cases h675; done) | (simp at h675; done) | (simp at h675; omega) | omega
                · skip
                  obtain ⟨hm50, htp, hW⟩ := hbw rfl
                  clear hbw
                  rw [dueV_vC] at hW
                  obtain ⟨Aw, cw, rfl⟩ := hW.ls.shape
                  refine WR.move rfl rfl ?_
                  refine WR.extract rfl rfl rfl ?_
                  refine WR.extract rfl rfl rfl ?_
                  refine WR.assign rfl rfl ?_
                  refine WR.assign rfl rfl ?_
                  refine WR.nil (WN.seq ?_)
                  refine WC.seq (WC.seq (WC.region ?_))
                  refine WR.move rfl rfl ?_
                  refine WR.notOp rfl rfl ?_
                  refine WR.nil (WN.seq ?_)
                  refine WC.cond rfl (fun h675 => ?_) (fun h675 => ?_)
                  · skip
                    first | (cases h675; done) | (simp at h675; done) | (simp at h675; omega) | omega
                  · skip
                    refine WC.skip (WN.seq ?_)
                    refine WC.seq (WC.region ?_)
                    refine WR.build rfl rfl (v := .agg tyA) (fun w => by kernel_rfl) rfl rfl ?_
                    refine WR.move rfl rfl ?_
                    obtain ⟨H7, hH7⟩ : ∃ x, x = w12.heap.size := ⟨_, rfl⟩
                    refine WR.callF rfl rfl cf6 rfl rfl (plainly ds A N c H7 hH7 (hd.more (by omega)) hN hok (by omega)) ?_
                    rintro vp w13 ⟨hP, hs⟩
                    replace hw0 := Nat.le_trans hw0 hs.size
                    replace hS := hS.trans hs (by simp <;> omega)
                    replace hg := hg.same hs (by simp <;> omega)
                    replace hd := hd.same hs (by simp <;> omega)
                    replace hrs := hrs.same hs (by simp <;> omega)
                    replace hz := hz.same hs (by simp <;> omega)
                    replace hX := hX.same hs (by simp <;> omega)
                    replace hO := hO.same hs (by simp <;> omega)
                    replace hW := hW.same hs (by simp <;> omega)
                    refine WR.move rfl rfl ?_
                    refine WR.lenS rfl Tryz.underlying22 rfl ?_
                    refine WR.move rfl rfl ?_
                    refine WR.move rfl rfl ?_
                    refine WR.lenS rfl Tryz.underlying22 rfl ?_
                    refine WR.move rfl rfl ?_
                    obtain ⟨Ap, cp, rfl⟩ := hP.shape
                    have hpl : (pb ds).length = 8 * N := by rw [pb_len, hN]
                    have hen := enc_some (W := V) (l := rs.map RR.run) (by omega)
                    have hxc : (u8s (V :: Rl.enc V (rs.map RR.run))).length = (Rl.enc V (rs.map RR.run)).length + 1 := by rw [u8s_length]; rfl
                    refine WR.callF rfl rfl cf5 rfl rfl (dictRead hg (pb ds) (rs.map RR.run) zs Ap Ax Az _ cp _ cx m cz N V _ _ hP.ls hpl (by rw [u8s_length, hpl]) (pb_byte _) hD1 (by omega) hX.ls hxc (by omega) (by omega) (dat_byte hV2 hfi) hfi hV1 hV2 (hz.more (by omega)) hm0 (by omega) (by omega) htp (fun j hj => by rw [hN] at hE ⊢; exact hE j hj)) ?_
                    rintro _ w14 ⟨ug, rfl, hG, hs⟩
                    rw [gotV_vC] at hG
                    obtain ⟨Ag, cg, rfl⟩ := hG.shape
                    replace hw0 := Nat.le_trans hw0 hs.size
                    replace hS := hS.trans hs (by simp <;> omega)
                    replace hg := hg.same hs (by simp <;> omega)
                    replace hd := hd.same hs (by simp <;> omega)
                    replace hrs := hrs.same hs (by simp <;> omega)
                    replace hz := hz.same hs (by simp <;> omega)
                    replace hP := hP.same hs (by simp <;> omega)
                    replace hX := hX.same hs (by simp <;> omega)
                    replace hO := hO.same hs (by simp <;> omega)
                    replace hW := hW.same hs (by simp <;> omega)
                    refine WR.move rfl rfl ?_
                    refine WR.extract rfl rfl rfl ?_
                    refine WR.extract rfl rfl rfl ?_
                    refine WR.assign rfl rfl ?_
                    refine WR.assign rfl rfl ?_
                    refine WR.nil (WN.seq ?_)
                    refine WC.seq (WC.region ?_)
                    refine WR.move rfl rfl ?_
                    refine WR.move rfl rfl ?_
                    refine WR.take rfl rfl rfl ?_
                    refine WR.move rfl rfl ?_
                    refine WR.take rfl rfl rfl ?_
                    refine WR.move rfl rfl ?_
                    refine WR.take rfl rfl rfl ?_
                    obtain ⟨H8, hH8⟩ : ∃ x, x = w14.heap.size := ⟨_, rfl⟩
                    have hGl := hG.lu
                    have hWl := hW.ls.lu
                    rw [← hH8] at hGl hWl
                    have hgw := got_due_len ds (Rl.exp (rs.map RR.run)) (fun i => zs.getD i 0) m
                    have hdl : (dueV (allV ds (Rl.exp (rs.map RR.run))) (fun i => zs.getD i 0) m).length ≤ (Rl.exp (rs.map RR.run)).length := by
                      unfold dueV
                      rw [List.length_map]
                      exact Nat.le_trans (tout_length _ _ _) htp
                    rw [List.length_map] at hGl hWl ⊢
                    rw [List.length_map]
                    rw [hgw] at hGl ⊢
                    refine WR.callF rfl rfl cf13 rfl rfl (sameValues _ _ Ag Aw _ cg cw H8 hH8 hGl hWl hgw.symm rfl (by omega) (fun j hj => got_due hok (by rw [← hN]; exact hE) htp hp hj)) ?_
                    rintro _ w15 ⟨rfl, hs⟩
                    replace hw0 := Nat.le_trans hw0 hs.size
                    replace hS := hS.trans hs (by simp <;> omega)
                    replace hg := hg.same hs (by simp <;> omega)
                    replace hd := hd.same hs (by simp <;> omega)
                    replace hrs := hrs.same hs (by simp <;> omega)
                    replace hz := hz.same hs (by simp <;> omega)
                    replace hP := hP.same hs (by simp <;> omega)
                    replace hX := hX.same hs (by simp <;> omega)
                    replace hO := hO.same hs (by simp <;> omega)
                    replace hW := hW.same hs (by simp <;> omega)
                    replace hG := hG.same hs (by simp <;> omega)
                    refine WR.pickT rfl rfl rfl rfl ?_
                    refine WR.move rfl rfl ?_
                    refine WR.take rfl rfl rfl ?_
                    refine WR.move rfl rfl ?_
                    refine WR.pickT rfl rfl rfl rfl ?_
                    refine WR.assign rfl rfl ?_
                    refine WR.nil (WN.seq ?_)
                    refine WC.retR rfl rfl ?_
                    exact ⟨rfl, hS⟩

theorem law {w : World} {aE aU aP : Addr} (hg : Glob w aE aU aP) (ds : List VS) (rs : List RR) (zs : List Int) (wd : Int) (A Ar Az : Option Addr) (N c n cl m cz H : Nat) (hH : H = w.heap.size) (hd : LuV w H (.slice A N c) (ds.map vC)) (hN : N = ds.length) (hN63 : N ≤ 9223372036854775807) (hok : ∀ j, j < ds.length → (ds.getD j default).OK) (hrs : RS w H (.slice Ar n cl) rs) (hn : n = rs.length) (hn63 : n ≤ 9223372036854775807) (hz : Lu w H (.slice Az m cz) (i64s zs)) (hm0 : m = (i64s zs).length) (hm63 : m ≤ 9223372036854775807) (hzr : ∀ i, -9223372036854775808 ≤ zs.getD i 0 ∧ zs.getD i 0 ≤ 9223372036854775807) : Ret Tryz.prog 3 #[.slice A N c, .int .i64 wd, .slice Ar n cl, .slice Az m cz] w fun v w' => v = .bool true ∧ Same [] w w' := by
  rcases Nat.lt_or_ge 2147483647 N with h | h
  · exact lawBig hg ds rs zs wd A Ar Az N c n cl m cz H hH hd hN hN63 hok hrs hn hn63 hz hm0 hm63 hzr h
  rcases Nat.lt_or_ge 2147483647 m with h2 | h2
  · exact lawWide hg ds rs zs wd A Ar Az N c n cl m cz H hH hd hN hN63 hok hrs hn hn63 hz hm0 hm63 hzr h h2
  · exact lawTrue hg ds rs zs wd A Ar Az N c n cl m cz H hH hd hN hN63 hok hrs hn hn63 hz hm0 hm63 hzr h h2

end Go.Proofs.YthmknddfkmklfaaGreatDoor.Vm
