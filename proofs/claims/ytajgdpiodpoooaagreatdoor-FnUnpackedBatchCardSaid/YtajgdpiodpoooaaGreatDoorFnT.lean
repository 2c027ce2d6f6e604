/- laws.FnUnpackedBatch answers true, whatever the input. -/
import Derived.Test.YtajgdpiodpoooaaGreatDoorFnS
namespace Go.Proofs.YtajgdpiodpoooaaGreatDoor.Vm
open Go Mix Go.RowKit Num Sp
set_option maxRecDepth 20000
set_option linter.unusedSimpArgs false
theorem awake_list : tout (fun q => bts (num (fun _ => 5) 1) (4 * q) 4) (fun i => [(2 : Int)].getD i 0) 1 = [5, 0] := by
  have h : ∀ p, bts (num (fun _ => 5) 1) p 4 = 5 / 2 ^ p % 16 := fun p => by
    unfold bts
    rw [num_succ]
    simp [num]
  simp only [h]
  rfl
theorem lu_two {w : World} {b E : Nat} (h : Row w b E (#[Value.int .i64 2] : Array Value).size (fun i => (#[Value.int .i64 2] : Array Value).getD i undef)) : Lu w (b + 1) (.slice (some ⟨b, 0, none⟩) 1 1) (i64s [2]) :=
  .inr ⟨b, 0, 1, rfl, Nat.lt_succ_self _, h.lt, fun i hi => by
    have hi : i < 1 := hi
    obtain rfl : i = 0 := by omega
    exact h.cell (i := 0) (by decide)⟩
theorem src_five {w : World} {b E : Nat} (h : Row w b E (#[Value.int .u8 5] : Array Value).size (fun i => (#[Value.int .u8 5] : Array Value).getD i undef)) : Src2 w 0 b 1 1 1 (fun _ => 5) :=
  ⟨fun i hi => by
    obtain rfl : i = 0 := by omega
    exact h.cell (i := 0) (by decide), fun _ _ => by decide, Nat.le_refl _, by decide, h.lt, fun _ => by decide⟩
theorem ls_awake {w : World} {b E : Nat} (h : Row w b E (#[Value.int .u64 5, .int .u64 0] : Array Value).size (fun i => (#[Value.int .u64 5, .int .u64 0] : Array Value).getD i undef)) : Ls w 0 (.slice (some ⟨b, 0, none⟩) 2 2) (u64s [5, 0]) :=
  Row.ls (o := 0) h rfl (by decide) (Nat.zero_le _) fun i hi => by
    rcases (show i = 0 ∨ i = 1 by omega) with rfl | rfl <;> rfl
theorem cf4 (us : Array Value) (w : World) : (callFunc 4 us).run Tryz.prog w = .ok (.enter 4 us) w := by kernel_rfl
theorem cf5 (us : Array Value) (w : World) : (callFunc 5 us).run Tryz.prog w = .ok (.enter 5 us) w := by kernel_rfl
theorem cf6 (us : Array Value) (w : World) : (callFunc 6 us).run Tryz.prog w = .ok (.enter 6 us) w := by kernel_rfl
theorem cf7 (us : Array Value) (w : World) : (callFunc 7 us).run Tryz.prog w = .ok (.enter 7 us) w := by kernel_rfl
theorem cf8 (us : Array Value) (w : World) : (callFunc 8 us).run Tryz.prog w = .ok (.enter 8 us) w := by kernel_rfl
set_option maxHeartbeats 400000 in
theorem lawBig {w : World} {aE aU aP : Addr} (hg : Glob w aE aU aP) (tb : Tab w) (db dO len cap m cz lz : Nat) (wd : Int) (how : Int) (zs : List Int) (Az : Option Addr) (d : Nat → Nat) (hd : len ≤ 4096 → Src2 w 0 db dO len cap d) (hz : Lu w lz (.slice Az m cz) (i64s zs)) (hlz : lz ≤ w.heap.size) (hm0 : m = (i64s zs).length) (hzr : ∀ i, -9223372036854775808 ≤ zs.getD i 0 ∧ zs.getD i 0 ≤ 9223372036854775807) (hlen : 2147483647 < len) :
    Ret Tryz.prog 3 #[.slice (ad db dO) len cap, .int .i64 (wd), .int .i64 (how), .slice Az m cz] w fun v w' => v = .bool true ∧ Same [] w w' := by
  have hS := Same.refl [] w
  have hgs := hg.size
  have hc0 : decide ((len : Int) > 2147483647) = true := by simp; omega
  refine Ret.enter (vs := [.slice (ad db dO) len cap, .int .i64 (wd), .int .i64 (how), .slice Az m cz]) Tryz.func3 Tryz.ntmps3 rfl rfl ?_
  refine WC.seq ?_
  refine WC.region ?_
  refine WR.assign rfl rfl ?_
  refine WR.nil ?_
  refine WN.seq ?_
  refine WC.seq ?_
  refine WC.seq ?_
  refine WC.region ?_
  refine WR.move rfl rfl ?_
  refine WR.lenS rfl Tryz.underlying22 rfl ?_
  refine WR.bin rfl rfl rfl rfl ?_
  refine WR.move rfl rfl ?_
  refine WR.pass rfl rfl rfl (by first | rfl | assumption | simp_all) ?_
  refine WR.pass rfl rfl rfl (by first | rfl | assumption | simp_all) ?_
  refine WR.pass rfl rfl rfl (by first | rfl | assumption | simp_all) ?_
  refine WR.pickT rfl (by first | rfl | assumption | simp_all) rfl rfl ?_
  refine WR.nil ?_
  refine WN.seq ?_
  refine WC.cond rfl (fun h80 => ?_) (fun h80 => ?_)
  · skip
    (try simp only [decide_eq_true_eq, decide_eq_false_iff_not, beq_iff_eq, beq_eq_false_iff_ne, bne_iff_ne, bne_eq_false_iff_eq, gt_iff_lt, ge_iff_le, Int.not_lt, Int.not_le, ne_eq, Bool.not_eq_true, Bool.not_eq_false, Bool.and_eq_true, Bool.and_eq_false_iff, Bool.or_eq_true, Bool.or_eq_false_iff] at h80)
    refine WC.seq ?_
    refine WC.region ?_
    refine WR.assign rfl rfl ?_
    refine WR.nil ?_
    refine WN.seq ?_
    refine WC.retR rfl rfl ?_
    exact ⟨rfl, hS⟩
  · skip
    cases h80

set_option maxHeartbeats 400000 in
theorem lawA {w : World} {aE aU aP : Addr} (hg : Glob w aE aU aP) (tb : Tab w) (db dO len cap m cz lz : Nat) (wd : Int) (how : Int) (zs : List Int) (Az : Option Addr) (d : Nat → Nat) (hd : len ≤ 4096 → Src2 w 0 db dO len cap d) (hz : Lu w lz (.slice Az m cz) (i64s zs)) (hlz : lz ≤ w.heap.size) (hm0 : m = (i64s zs).length) (hzr : ∀ i, -9223372036854775808 ≤ zs.getD i 0 ∧ zs.getD i 0 ≤ 9223372036854775807) (hlen : len ≤ 2147483647) (hc : 4096 < len) :
    Ret Tryz.prog 3 #[.slice (ad db dO) len cap, .int .i64 (wd), .int .i64 (how), .slice Az m cz] w fun v w' => v = .bool true ∧ Same [] w w' := by
  have hS := Same.refl [] w
  have hgs := hg.size
  have hc0 : decide ((len : Int) > 2147483647) = false := by simp; omega
  have hc1 : decide ((len : Int) > 4096) = true := by first | (simp; omega) | simp
  refine Ret.enter (vs := [.slice (ad db dO) len cap, .int .i64 (wd), .int .i64 (how), .slice Az m cz]) Tryz.func3 Tryz.ntmps3 rfl rfl ?_
  refine WC.seq ?_
  refine WC.region ?_
  refine WR.assign rfl rfl ?_
  refine WR.nil ?_
  refine WN.seq ?_
  refine WC.seq ?_
  refine WC.seq ?_
  refine WC.region ?_
  refine WR.move rfl rfl ?_
  refine WR.lenS rfl Tryz.underlying22 rfl ?_
  refine WR.bin rfl rfl rfl rfl ?_
  refine WR.move rfl rfl ?_
  refine WR.take rfl rfl (by first | rfl | assumption | simp_all) ?_
  refine WR.move rfl rfl ?_
  refine WR.take rfl rfl (by first | rfl | assumption | simp_all) ?_
  refine WR.lenS rfl Tryz.underlying23 rfl ?_
  refine WR.take rfl rfl (by first | rfl | assumption | simp_all) ?_
  refine WR.bin rfl rfl rfl rfl ?_
  refine WR.pickF rfl (by first | rfl | assumption | simp_all) rfl rfl ?_
  refine WR.nil ?_
  refine WN.seq ?_
  refine WC.cond rfl (fun h80 => ?_) (fun h80 => ?_)
  · skip
    (try simp only [decide_eq_true_eq, decide_eq_false_iff_not, beq_iff_eq, beq_eq_false_iff_ne, bne_iff_ne, bne_eq_false_iff_eq, gt_iff_lt, ge_iff_le, Int.not_lt, Int.not_le, ne_eq, Bool.not_eq_true, Bool.not_eq_false, Bool.and_eq_true, Bool.and_eq_false_iff, Bool.or_eq_true, Bool.or_eq_false_iff] at h80)
    refine WC.seq ?_
    refine WC.region ?_
    refine WR.assign rfl rfl ?_
    refine WR.nil ?_
    refine WN.seq ?_
    refine WC.retR rfl rfl ?_
    exact ⟨rfl, hS⟩
  · skip
    (try simp only [decide_eq_true_eq, decide_eq_false_iff_not, beq_iff_eq, beq_eq_false_iff_ne, bne_iff_ne, bne_eq_false_iff_eq, gt_iff_lt, ge_iff_le, Int.not_lt, Int.not_le, ne_eq, Bool.not_eq_true, Bool.not_eq_false, Bool.and_eq_true, Bool.and_eq_false_iff, Bool.or_eq_true, Bool.or_eq_false_iff] at h80)
    refine WC.skip ?_
    refine WN.seq ?_
    refine WC.seq ?_
    refine WC.region ?_
    obtain ⟨bA, hbA⟩ : ∃ x, x = w.heap.size := ⟨_, rfl⟩
    refine WR.buildSl (E := 5) (cs := #[.int .u8 5]) rfl rfl (fun w => by kernel_rfl) rfl rfl ?_
    rw [← hbA]
    intro w1 hA hs
    replace hS := hS.trans hs (by simp <;> omega)
    replace hg := hg.same hs (by simp <;> omega)
    replace tb := tb.same hs (by simp <;> omega)
    replace hz := hz.same hs (by simp <;> omega)
    replace hd := (fun h9 => (hd h9).same hs (by simp <;> omega))
    (try replace hu := hu.same hs (by simp <;> omega))
    (try replace hall := hall.same hs (by simp <;> omega))
    (try replace hw := hw.same hs (by simp <;> omega))
    clear hs
    obtain ⟨bB, hbB⟩ : ∃ x, x = w1.heap.size := ⟨_, rfl⟩
    refine WR.buildSl (E := 3) (cs := #[.int .i64 2]) rfl rfl (fun w => by kernel_rfl) rfl rfl ?_
    rw [← hbB]
    intro w2 hB hs
    replace hS := hS.trans hs (by simp <;> omega)
    replace hg := hg.same hs (by simp <;> omega)
    replace tb := tb.same hs (by simp <;> omega)
    replace hz := hz.same hs (by simp <;> omega)
    replace hd := (fun h9 => (hd h9).same hs (by simp <;> omega))
    (try replace hA := hA.same hs (by simp <;> omega))
    (try replace hu := hu.same hs (by simp <;> omega))
    (try replace hall := hall.same hs (by simp <;> omega))
    (try replace hw := hw.same hs (by simp <;> omega))
    clear hs
    refine WR.callF rfl rfl cf4 rfl rfl (unpackedBatch hg tb bA 1 1 1 4 0 1 1 (bB + 1) [2] _ (fun _ => 5) (src_five hA) (by decide) (by decide) (by decide) (by decide) (by decide) (lu_two hB) hB.lt rfl (by decide) (by decide)) ?_
    rintro _ w3 ⟨u, rfl, hu, hs⟩
    rw [awake_list] at hu
    obtain ⟨Au, cu, rfl⟩ := hu.shape
    clear hA hB
    replace hS := hS.trans hs (by simp <;> omega)
    replace hg := hg.same hs (by simp <;> omega)
    replace tb := tb.same hs (by simp <;> omega)
    replace hz := hz.same hs (by simp <;> omega)
    replace hd := (fun h9 => (hd h9).same hs (by simp <;> omega))
    (try replace hA := hA.same hs (by simp <;> omega))
    (try replace hall := hall.same hs (by simp <;> omega))
    (try replace hw := hw.same hs (by simp <;> omega))
    refine WR.move rfl rfl ?_
    refine WR.extract rfl rfl rfl ?_
    refine WR.extract rfl rfl rfl ?_
    refine WR.assign rfl rfl ?_
    refine WR.assign rfl rfl ?_
    refine WR.nil ?_
    refine WN.seq ?_
    refine WC.seq ?_
    refine WC.region ?_
    refine WR.move rfl rfl ?_
    refine WR.move rfl rfl ?_
    refine WR.take rfl rfl (by first | rfl | assumption | simp_all) ?_
    refine WR.move rfl rfl ?_
    refine WR.take rfl rfl (by first | rfl | assumption | simp_all) ?_
    obtain ⟨bC, hbC⟩ : ∃ x, x = w3.heap.size := ⟨_, rfl⟩
    refine WR.buildSl (E := 28) (cs := #[.int .u64 5, .int .u64 0]) rfl rfl (fun w => by kernel_rfl) rfl rfl ?_
    rw [← hbC]
    intro w4 hC hs
    replace hS := hS.trans hs (by simp <;> omega)
    replace hg := hg.same hs (by simp <;> omega)
    replace tb := tb.same hs (by simp <;> omega)
    replace hz := hz.same hs (by simp <;> omega)
    replace hd := (fun h9 => (hd h9).same hs (by simp <;> omega))
    (try replace hA := hA.same hs (by simp <;> omega))
    (try replace hu := hu.same hs (by simp <;> omega))
    (try replace hall := hall.same hs (by simp <;> omega))
    (try replace hw := hw.same hs (by simp <;> omega))
    clear hs
    refine WR.take rfl rfl (by first | rfl | assumption | simp_all) ?_
    refine WR.callF rfl rfl cf5 rfl rfl (sameNumbers [5, 0] _ _ 2 _ _ _ _ hu (ls_awake hC) rfl (by decide)) ?_
    rintro _ w5 ⟨rfl, hs⟩
    clear hu hC
    replace hS := hS.trans hs (by simp <;> omega)
    replace hg := hg.same hs (by simp <;> omega)
    replace tb := tb.same hs (by simp <;> omega)
    replace hz := hz.same hs (by simp <;> omega)
    replace hd := (fun h9 => (hd h9).same hs (by simp <;> omega))
    (try replace hA := hA.same hs (by simp <;> omega))
    (try replace hu := hu.same hs (by simp <;> omega))
    (try replace hall := hall.same hs (by simp <;> omega))
    (try replace hw := hw.same hs (by simp <;> omega))
    refine WR.pickT rfl (by first | rfl | assumption | simp_all) rfl rfl ?_
    refine WR.assign rfl rfl ?_
    refine WR.nil ?_
    refine WN.seq ?_
    refine WC.seq ?_
    refine WC.seq ?_
    refine WC.region ?_
    refine WR.move rfl rfl ?_
    refine WR.lenS rfl Tryz.underlying22 rfl ?_
    refine WR.bin rfl rfl rfl rfl ?_
    refine WR.move rfl rfl ?_
    refine WR.pass rfl rfl rfl (by first | rfl | assumption | simp_all) ?_
    refine WR.pass rfl rfl rfl (by first | rfl | assumption | simp_all) ?_
    refine WR.pickT rfl (by first | rfl | assumption | simp_all) rfl rfl ?_
    refine WR.move rfl rfl ?_
    refine WR.pass rfl rfl rfl (by first | rfl | assumption | simp_all) ?_
    refine WR.pass rfl rfl rfl (by first | rfl | assumption | simp_all) ?_
    refine WR.pickT rfl (by first | rfl | assumption | simp_all) rfl rfl ?_
    refine WR.move rfl rfl ?_
    refine WR.pass rfl rfl rfl (by first | rfl | assumption | simp_all) ?_
    refine WR.pass rfl rfl rfl (by first | rfl | assumption | simp_all) ?_
    refine WR.pickT rfl (by first | rfl | assumption | simp_all) rfl rfl ?_
    refine WR.move rfl rfl ?_
    refine WR.pass rfl rfl rfl (by first | rfl | assumption | simp_all) ?_
    refine WR.pass rfl rfl rfl (by first | rfl | assumption | simp_all) ?_
    refine WR.pass rfl rfl rfl (by first | rfl | assumption | simp_all) ?_
    refine WR.pass rfl rfl rfl (by first | rfl | assumption | simp_all) ?_
    refine WR.pickT rfl (by first | rfl | assumption | simp_all) rfl rfl ?_
    refine WR.move rfl rfl ?_
    refine WR.pass rfl rfl rfl (by first | rfl | assumption | simp_all) ?_
    refine WR.pass rfl rfl rfl (by first | rfl | assumption | simp_all) ?_
    refine WR.pass rfl rfl rfl (by first | rfl | assumption | simp_all) ?_
    refine WR.pass rfl rfl rfl (by first | rfl | assumption | simp_all) ?_
    refine WR.passU rfl rfl rfl ?_
    refine WR.passU rfl rfl rfl ?_
    refine WR.pass rfl rfl rfl (by first | rfl | assumption | simp_all) ?_
    refine WR.pickT rfl (by first | rfl | assumption | simp_all) rfl rfl ?_
    refine WR.nil ?_
    refine WN.seq ?_
    refine WC.cond rfl (fun h85 => ?_) (fun h85 => ?_)
    · skip
      (try simp only [decide_eq_true_eq, decide_eq_false_iff_not, beq_iff_eq, beq_eq_false_iff_ne, bne_iff_ne, bne_eq_false_iff_eq, gt_iff_lt, ge_iff_le, Int.not_lt, Int.not_le, ne_eq, Bool.not_eq_true, Bool.not_eq_false, Bool.and_eq_true, Bool.and_eq_false_iff, Bool.or_eq_true, Bool.or_eq_false_iff] at h85)
      refine WC.seq ?_
      refine WC.region ?_
      refine WR.move rfl rfl ?_
      refine WR.assign rfl rfl ?_
      refine WR.nil ?_
      refine WN.seq ?_
      refine WC.retR rfl rfl ?_
      exact ⟨rfl, hS⟩
    · skip
      first | (exact absurd h85 (by simp)) | (simp at h85; omega)

set_option maxHeartbeats 400000 in
theorem lawB {w : World} {aE aU aP : Addr} (hg : Glob w aE aU aP) (tb : Tab w) (db dO len cap m cz lz : Nat) (wd : Int) (how : Int) (zs : List Int) (Az : Option Addr) (d : Nat → Nat) (hd : len ≤ 4096 → Src2 w 0 db dO len cap d) (hz : Lu w lz (.slice Az m cz) (i64s zs)) (hlz : lz ≤ w.heap.size) (hm0 : m = (i64s zs).length) (hzr : ∀ i, -9223372036854775808 ≤ zs.getD i 0 ∧ zs.getD i 0 ≤ 9223372036854775807) (hlen : len ≤ 4096) (hc : how < 0) :
    Ret Tryz.prog 3 #[.slice (ad db dO) len cap, .int .i64 (wd), .int .i64 (how), .slice Az m cz] w fun v w' => v = .bool true ∧ Same [] w w' := by
  have hS := Same.refl [] w
  have hgs := hg.size
  have hc0 : decide ((len : Int) > 2147483647) = false := by simp; omega
  have hc1 : decide ((len : Int) > 4096) = false := by first | (simp; omega) | simp
  have hc2 : decide ((how : Int) < 0) = true := by first | (simp; omega) | simp
  refine Ret.enter (vs := [.slice (ad db dO) len cap, .int .i64 (wd), .int .i64 (how), .slice Az m cz]) Tryz.func3 Tryz.ntmps3 rfl rfl ?_
  refine WC.seq ?_
  refine WC.region ?_
  refine WR.assign rfl rfl ?_
  refine WR.nil ?_
  refine WN.seq ?_
  refine WC.seq ?_
  refine WC.seq ?_
  refine WC.region ?_
  refine WR.move rfl rfl ?_
  refine WR.lenS rfl Tryz.underlying22 rfl ?_
  refine WR.bin rfl rfl rfl rfl ?_
  refine WR.move rfl rfl ?_
  refine WR.take rfl rfl (by first | rfl | assumption | simp_all) ?_
  refine WR.move rfl rfl ?_
  refine WR.take rfl rfl (by first | rfl | assumption | simp_all) ?_
  refine WR.lenS rfl Tryz.underlying23 rfl ?_
  refine WR.take rfl rfl (by first | rfl | assumption | simp_all) ?_
  refine WR.bin rfl rfl rfl rfl ?_
  refine WR.pickF rfl (by first | rfl | assumption | simp_all) rfl rfl ?_
  refine WR.nil ?_
  refine WN.seq ?_
  refine WC.cond rfl (fun h80 => ?_) (fun h80 => ?_)
  · skip
    (try simp only [decide_eq_true_eq, decide_eq_false_iff_not, beq_iff_eq, beq_eq_false_iff_ne, bne_iff_ne, bne_eq_false_iff_eq, gt_iff_lt, ge_iff_le, Int.not_lt, Int.not_le, ne_eq, Bool.not_eq_true, Bool.not_eq_false, Bool.and_eq_true, Bool.and_eq_false_iff, Bool.or_eq_true, Bool.or_eq_false_iff] at h80)
    refine WC.seq ?_
    refine WC.region ?_
    refine WR.assign rfl rfl ?_
    refine WR.nil ?_
    refine WN.seq ?_
    refine WC.retR rfl rfl ?_
    exact ⟨rfl, hS⟩
  · skip
    (try simp only [decide_eq_true_eq, decide_eq_false_iff_not, beq_iff_eq, beq_eq_false_iff_ne, bne_iff_ne, bne_eq_false_iff_eq, gt_iff_lt, ge_iff_le, Int.not_lt, Int.not_le, ne_eq, Bool.not_eq_true, Bool.not_eq_false, Bool.and_eq_true, Bool.and_eq_false_iff, Bool.or_eq_true, Bool.or_eq_false_iff] at h80)
    refine WC.skip ?_
    refine WN.seq ?_
    refine WC.seq ?_
    refine WC.region ?_
    obtain ⟨bA, hbA⟩ : ∃ x, x = w.heap.size := ⟨_, rfl⟩
    refine WR.buildSl (E := 5) (cs := #[.int .u8 5]) rfl rfl (fun w => by kernel_rfl) rfl rfl ?_
    rw [← hbA]
    intro w1 hA hs
    replace hS := hS.trans hs (by simp <;> omega)
    replace hg := hg.same hs (by simp <;> omega)
    replace tb := tb.same hs (by simp <;> omega)
    replace hz := hz.same hs (by simp <;> omega)
    replace hd := (fun h9 => (hd h9).same hs (by simp <;> omega))
    (try replace hu := hu.same hs (by simp <;> omega))
    (try replace hall := hall.same hs (by simp <;> omega))
    (try replace hw := hw.same hs (by simp <;> omega))
    clear hs
    obtain ⟨bB, hbB⟩ : ∃ x, x = w1.heap.size := ⟨_, rfl⟩
    refine WR.buildSl (E := 3) (cs := #[.int .i64 2]) rfl rfl (fun w => by kernel_rfl) rfl rfl ?_
    rw [← hbB]
    intro w2 hB hs
    replace hS := hS.trans hs (by simp <;> omega)
    replace hg := hg.same hs (by simp <;> omega)
    replace tb := tb.same hs (by simp <;> omega)
    replace hz := hz.same hs (by simp <;> omega)
    replace hd := (fun h9 => (hd h9).same hs (by simp <;> omega))
    (try replace hA := hA.same hs (by simp <;> omega))
    (try replace hu := hu.same hs (by simp <;> omega))
    (try replace hall := hall.same hs (by simp <;> omega))
    (try replace hw := hw.same hs (by simp <;> omega))
    clear hs
    refine WR.callF rfl rfl cf4 rfl rfl (unpackedBatch hg tb bA 1 1 1 4 0 1 1 (bB + 1) [2] _ (fun _ => 5) (src_five hA) (by decide) (by decide) (by decide) (by decide) (by decide) (lu_two hB) hB.lt rfl (by decide) (by decide)) ?_
    rintro _ w3 ⟨u, rfl, hu, hs⟩
    rw [awake_list] at hu
    obtain ⟨Au, cu, rfl⟩ := hu.shape
    clear hA hB
    replace hS := hS.trans hs (by simp <;> omega)
    replace hg := hg.same hs (by simp <;> omega)
    replace tb := tb.same hs (by simp <;> omega)
    replace hz := hz.same hs (by simp <;> omega)
    replace hd := (fun h9 => (hd h9).same hs (by simp <;> omega))
    (try replace hA := hA.same hs (by simp <;> omega))
    (try replace hall := hall.same hs (by simp <;> omega))
    (try replace hw := hw.same hs (by simp <;> omega))
    refine WR.move rfl rfl ?_
    refine WR.extract rfl rfl rfl ?_
    refine WR.extract rfl rfl rfl ?_
    refine WR.assign rfl rfl ?_
    refine WR.assign rfl rfl ?_
    refine WR.nil ?_
    refine WN.seq ?_
    refine WC.seq ?_
    refine WC.region ?_
    refine WR.move rfl rfl ?_
    refine WR.move rfl rfl ?_
    refine WR.take rfl rfl (by first | rfl | assumption | simp_all) ?_
    refine WR.move rfl rfl ?_
    refine WR.take rfl rfl (by first | rfl | assumption | simp_all) ?_
    obtain ⟨bC, hbC⟩ : ∃ x, x = w3.heap.size := ⟨_, rfl⟩
    refine WR.buildSl (E := 28) (cs := #[.int .u64 5, .int .u64 0]) rfl rfl (fun w => by kernel_rfl) rfl rfl ?_
    rw [← hbC]
    intro w4 hC hs
    replace hS := hS.trans hs (by simp <;> omega)
    replace hg := hg.same hs (by simp <;> omega)
    replace tb := tb.same hs (by simp <;> omega)
    replace hz := hz.same hs (by simp <;> omega)
    replace hd := (fun h9 => (hd h9).same hs (by simp <;> omega))
    (try replace hA := hA.same hs (by simp <;> omega))
    (try replace hu := hu.same hs (by simp <;> omega))
    (try replace hall := hall.same hs (by simp <;> omega))
    (try replace hw := hw.same hs (by simp <;> omega))
    clear hs
    refine WR.take rfl rfl (by first | rfl | assumption | simp_all) ?_
    refine WR.callF rfl rfl cf5 rfl rfl (sameNumbers [5, 0] _ _ 2 _ _ _ _ hu (ls_awake hC) rfl (by decide)) ?_
    rintro _ w5 ⟨rfl, hs⟩
    clear hu hC
    replace hS := hS.trans hs (by simp <;> omega)
    replace hg := hg.same hs (by simp <;> omega)
    replace tb := tb.same hs (by simp <;> omega)
    replace hz := hz.same hs (by simp <;> omega)
    replace hd := (fun h9 => (hd h9).same hs (by simp <;> omega))
    (try replace hA := hA.same hs (by simp <;> omega))
    (try replace hu := hu.same hs (by simp <;> omega))
    (try replace hall := hall.same hs (by simp <;> omega))
    (try replace hw := hw.same hs (by simp <;> omega))
    refine WR.pickT rfl (by first | rfl | assumption | simp_all) rfl rfl ?_
    refine WR.assign rfl rfl ?_
    refine WR.nil ?_
    refine WN.seq ?_
    refine WC.seq ?_
    refine WC.seq ?_
    refine WC.region ?_
    refine WR.move rfl rfl ?_
    refine WR.lenS rfl Tryz.underlying22 rfl ?_
    refine WR.bin rfl rfl rfl rfl ?_
    refine WR.move rfl rfl ?_
    refine WR.take rfl rfl (by first | rfl | assumption | simp_all) ?_
    refine WR.move rfl rfl ?_
    refine WR.take rfl rfl (by first | rfl | assumption | simp_all) ?_
    refine WR.bin rfl rfl rfl rfl ?_
    refine WR.pickF rfl (by first | rfl | assumption | simp_all) rfl rfl ?_
    refine WR.move rfl rfl ?_
    refine WR.pass rfl rfl rfl (by first | rfl | assumption | simp_all) ?_
    refine WR.pass rfl rfl rfl (by first | rfl | assumption | simp_all) ?_
    refine WR.pickT rfl (by first | rfl | assumption | simp_all) rfl rfl ?_
    refine WR.move rfl rfl ?_
    refine WR.pass rfl rfl rfl (by first | rfl | assumption | simp_all) ?_
    refine WR.pass rfl rfl rfl (by first | rfl | assumption | simp_all) ?_
    refine WR.pickT rfl (by first | rfl | assumption | simp_all) rfl rfl ?_
    refine WR.move rfl rfl ?_
    refine WR.pass rfl rfl rfl (by first | rfl | assumption | simp_all) ?_
    refine WR.pass rfl rfl rfl (by first | rfl | assumption | simp_all) ?_
    refine WR.pass rfl rfl rfl (by first | rfl | assumption | simp_all) ?_
    refine WR.pass rfl rfl rfl (by first | rfl | assumption | simp_all) ?_
    refine WR.pickT rfl (by first | rfl | assumption | simp_all) rfl rfl ?_
    refine WR.move rfl rfl ?_
    refine WR.pass rfl rfl rfl (by first | rfl | assumption | simp_all) ?_
    refine WR.pass rfl rfl rfl (by first | rfl | assumption | simp_all) ?_
    refine WR.pass rfl rfl rfl (by first | rfl | assumption | simp_all) ?_
    refine WR.pass rfl rfl rfl (by first | rfl | assumption | simp_all) ?_
    refine WR.passU rfl rfl rfl ?_
    refine WR.passU rfl rfl rfl ?_
    refine WR.pass rfl rfl rfl (by first | rfl | assumption | simp_all) ?_
    refine WR.pickT rfl (by first | rfl | assumption | simp_all) rfl rfl ?_
    refine WR.nil ?_
    refine WN.seq ?_
    refine WC.cond rfl (fun h85 => ?_) (fun h85 => ?_)
    · skip
      (try simp only [decide_eq_true_eq, decide_eq_false_iff_not, beq_iff_eq, beq_eq_false_iff_ne, bne_iff_ne, bne_eq_false_iff_eq, gt_iff_lt, ge_iff_le, Int.not_lt, Int.not_le, ne_eq, Bool.not_eq_true, Bool.not_eq_false, Bool.and_eq_true, Bool.and_eq_false_iff, Bool.or_eq_true, Bool.or_eq_false_iff] at h85)
      refine WC.seq ?_
      refine WC.region ?_
      refine WR.move rfl rfl ?_
      refine WR.assign rfl rfl ?_
      refine WR.nil ?_
      refine WN.seq ?_
      refine WC.retR rfl rfl ?_
      exact ⟨rfl, hS⟩
    · skip
      first | (exact absurd h85 (by simp)) | (simp at h85; omega)

set_option maxHeartbeats 400000 in
theorem lawC {w : World} {aE aU aP : Addr} (hg : Glob w aE aU aP) (tb : Tab w) (db dO len cap m cz lz : Nat) (wd : Int) (how : Int) (zs : List Int) (Az : Option Addr) (d : Nat → Nat) (hd : len ≤ 4096 → Src2 w 0 db dO len cap d) (hz : Lu w lz (.slice Az m cz) (i64s zs)) (hlz : lz ≤ w.heap.size) (hm0 : m = (i64s zs).length) (hzr : ∀ i, -9223372036854775808 ≤ zs.getD i 0 ∧ zs.getD i 0 ≤ 9223372036854775807) (hlen : len ≤ 4096) (hc : 5 < how) :
    Ret Tryz.prog 3 #[.slice (ad db dO) len cap, .int .i64 (wd), .int .i64 (how), .slice Az m cz] w fun v w' => v = .bool true ∧ Same [] w w' := by
  have hS := Same.refl [] w
  have hgs := hg.size
  have hc0 : decide ((len : Int) > 2147483647) = false := by simp; omega
  have hc1 : decide ((len : Int) > 4096) = false := by first | (simp; omega) | simp
  have hc2 : decide ((how : Int) < 0) = false := by first | (simp; omega) | simp
  have hc3 : decide ((how : Int) > 5) = true := by first | (simp; omega) | simp
  refine Ret.enter (vs := [.slice (ad db dO) len cap, .int .i64 (wd), .int .i64 (how), .slice Az m cz]) Tryz.func3 Tryz.ntmps3 rfl rfl ?_
  refine WC.seq ?_
  refine WC.region ?_
  refine WR.assign rfl rfl ?_
  refine WR.nil ?_
  refine WN.seq ?_
  refine WC.seq ?_
  refine WC.seq ?_
  refine WC.region ?_
  refine WR.move rfl rfl ?_
  refine WR.lenS rfl Tryz.underlying22 rfl ?_
  refine WR.bin rfl rfl rfl rfl ?_
  refine WR.move rfl rfl ?_
  refine WR.take rfl rfl (by first | rfl | assumption | simp_all) ?_
  refine WR.move rfl rfl ?_
  refine WR.take rfl rfl (by first | rfl | assumption | simp_all) ?_
  refine WR.lenS rfl Tryz.underlying23 rfl ?_
  refine WR.take rfl rfl (by first | rfl | assumption | simp_all) ?_
  refine WR.bin rfl rfl rfl rfl ?_
  refine WR.pickF rfl (by first | rfl | assumption | simp_all) rfl rfl ?_
  refine WR.nil ?_
  refine WN.seq ?_
  refine WC.cond rfl (fun h80 => ?_) (fun h80 => ?_)
  · skip
    (try simp only [decide_eq_true_eq, decide_eq_false_iff_not, beq_iff_eq, beq_eq_false_iff_ne, bne_iff_ne, bne_eq_false_iff_eq, gt_iff_lt, ge_iff_le, Int.not_lt, Int.not_le, ne_eq, Bool.not_eq_true, Bool.not_eq_false, Bool.and_eq_true, Bool.and_eq_false_iff, Bool.or_eq_true, Bool.or_eq_false_iff] at h80)
    refine WC.seq ?_
    refine WC.region ?_
    refine WR.assign rfl rfl ?_
    refine WR.nil ?_
    refine WN.seq ?_
    refine WC.retR rfl rfl ?_
    exact ⟨rfl, hS⟩
  · skip
    (try simp only [decide_eq_true_eq, decide_eq_false_iff_not, beq_iff_eq, beq_eq_false_iff_ne, bne_iff_ne, bne_eq_false_iff_eq, gt_iff_lt, ge_iff_le, Int.not_lt, Int.not_le, ne_eq, Bool.not_eq_true, Bool.not_eq_false, Bool.and_eq_true, Bool.and_eq_false_iff, Bool.or_eq_true, Bool.or_eq_false_iff] at h80)
    refine WC.skip ?_
    refine WN.seq ?_
    refine WC.seq ?_
    refine WC.region ?_
    obtain ⟨bA, hbA⟩ : ∃ x, x = w.heap.size := ⟨_, rfl⟩
    refine WR.buildSl (E := 5) (cs := #[.int .u8 5]) rfl rfl (fun w => by kernel_rfl) rfl rfl ?_
    rw [← hbA]
    intro w1 hA hs
    replace hS := hS.trans hs (by simp <;> omega)
    replace hg := hg.same hs (by simp <;> omega)
    replace tb := tb.same hs (by simp <;> omega)
    replace hz := hz.same hs (by simp <;> omega)
    replace hd := (fun h9 => (hd h9).same hs (by simp <;> omega))
    (try replace hu := hu.same hs (by simp <;> omega))
    (try replace hall := hall.same hs (by simp <;> omega))
    (try replace hw := hw.same hs (by simp <;> omega))
    clear hs
    obtain ⟨bB, hbB⟩ : ∃ x, x = w1.heap.size := ⟨_, rfl⟩
    refine WR.buildSl (E := 3) (cs := #[.int .i64 2]) rfl rfl (fun w => by kernel_rfl) rfl rfl ?_
    rw [← hbB]
    intro w2 hB hs
    replace hS := hS.trans hs (by simp <;> omega)
    replace hg := hg.same hs (by simp <;> omega)
    replace tb := tb.same hs (by simp <;> omega)
    replace hz := hz.same hs (by simp <;> omega)
    replace hd := (fun h9 => (hd h9).same hs (by simp <;> omega))
    (try replace hA := hA.same hs (by simp <;> omega))
    (try replace hu := hu.same hs (by simp <;> omega))
    (try replace hall := hall.same hs (by simp <;> omega))
    (try replace hw := hw.same hs (by simp <;> omega))
    clear hs
    refine WR.callF rfl rfl cf4 rfl rfl (unpackedBatch hg tb bA 1 1 1 4 0 1 1 (bB + 1) [2] _ (fun _ => 5) (src_five hA) (by decide) (by decide) (by decide) (by decide) (by decide) (lu_two hB) hB.lt rfl (by decide) (by decide)) ?_
    rintro _ w3 ⟨u, rfl, hu, hs⟩
    rw [awake_list] at hu
    obtain ⟨Au, cu, rfl⟩ := hu.shape
    clear hA hB
    replace hS := hS.trans hs (by simp <;> omega)
    replace hg := hg.same hs (by simp <;> omega)
    replace tb := tb.same hs (by simp <;> omega)
    replace hz := hz.same hs (by simp <;> omega)
    replace hd := (fun h9 => (hd h9).same hs (by simp <;> omega))
    (try replace hA := hA.same hs (by simp <;> omega))
    (try replace hall := hall.same hs (by simp <;> omega))
    (try replace hw := hw.same hs (by simp <;> omega))
    refine WR.move rfl rfl ?_
    refine WR.extract rfl rfl rfl ?_
    refine WR.extract rfl rfl rfl ?_
    refine WR.assign rfl rfl ?_
    refine WR.assign rfl rfl ?_
    refine WR.nil ?_
    refine WN.seq ?_
    refine WC.seq ?_
    refine WC.region ?_
    refine WR.move rfl rfl ?_
    refine WR.move rfl rfl ?_
    refine WR.take rfl rfl (by first | rfl | assumption | simp_all) ?_
    refine WR.move rfl rfl ?_
    refine WR.take rfl rfl (by first | rfl | assumption | simp_all) ?_
    obtain ⟨bC, hbC⟩ : ∃ x, x = w3.heap.size := ⟨_, rfl⟩
    refine WR.buildSl (E := 28) (cs := #[.int .u64 5, .int .u64 0]) rfl rfl (fun w => by kernel_rfl) rfl rfl ?_
    rw [← hbC]
    intro w4 hC hs
    replace hS := hS.trans hs (by simp <;> omega)
    replace hg := hg.same hs (by simp <;> omega)
    replace tb := tb.same hs (by simp <;> omega)
    replace hz := hz.same hs (by simp <;> omega)
    replace hd := (fun h9 => (hd h9).same hs (by simp <;> omega))
    (try replace hA := hA.same hs (by simp <;> omega))
    (try replace hu := hu.same hs (by simp <;> omega))
    (try replace hall := hall.same hs (by simp <;> omega))
    (try replace hw := hw.same hs (by simp <;> omega))
    clear hs
    refine WR.take rfl rfl (by first | rfl | assumption | simp_all) ?_
    refine WR.callF rfl rfl cf5 rfl rfl (sameNumbers [5, 0] _ _ 2 _ _ _ _ hu (ls_awake hC) rfl (by decide)) ?_
    rintro _ w5 ⟨rfl, hs⟩
    clear hu hC
    replace hS := hS.trans hs (by simp <;> omega)
    replace hg := hg.same hs (by simp <;> omega)
    replace tb := tb.same hs (by simp <;> omega)
    replace hz := hz.same hs (by simp <;> omega)
    replace hd := (fun h9 => (hd h9).same hs (by simp <;> omega))
    (try replace hA := hA.same hs (by simp <;> omega))
    (try replace hu := hu.same hs (by simp <;> omega))
    (try replace hall := hall.same hs (by simp <;> omega))
    (try replace hw := hw.same hs (by simp <;> omega))
    refine WR.pickT rfl (by first | rfl | assumption | simp_all) rfl rfl ?_
    refine WR.assign rfl rfl ?_
    refine WR.nil ?_
    refine WN.seq ?_
    refine WC.seq ?_
    refine WC.seq ?_
    refine WC.region ?_
    refine WR.move rfl rfl ?_
    refine WR.lenS rfl Tryz.underlying22 rfl ?_
    refine WR.bin rfl rfl rfl rfl ?_
    refine WR.move rfl rfl ?_
    refine WR.take rfl rfl (by first | rfl | assumption | simp_all) ?_
    refine WR.move rfl rfl ?_
    refine WR.take rfl rfl (by first | rfl | assumption | simp_all) ?_
    refine WR.bin rfl rfl rfl rfl ?_
    refine WR.pickF rfl (by first | rfl | assumption | simp_all) rfl rfl ?_
    refine WR.move rfl rfl ?_
    refine WR.take rfl rfl (by first | rfl | assumption | simp_all) ?_
    refine WR.move rfl rfl ?_
    refine WR.take rfl rfl (by first | rfl | assumption | simp_all) ?_
    refine WR.bin rfl rfl rfl rfl ?_
    refine WR.pickF rfl (by first | rfl | assumption | simp_all) rfl rfl ?_
    refine WR.move rfl rfl ?_
    refine WR.pass rfl rfl rfl (by first | rfl | assumption | simp_all) ?_
    refine WR.pass rfl rfl rfl (by first | rfl | assumption | simp_all) ?_
    refine WR.pickT rfl (by first | rfl | assumption | simp_all) rfl rfl ?_
    refine WR.move rfl rfl ?_
    refine WR.pass rfl rfl rfl (by first | rfl | assumption | simp_all) ?_
    refine WR.pass rfl rfl rfl (by first | rfl | assumption | simp_all) ?_
    refine WR.pass rfl rfl rfl (by first | rfl | assumption | simp_all) ?_
    refine WR.pass rfl rfl rfl (by first | rfl | assumption | simp_all) ?_
    refine WR.pickT rfl (by first | rfl | assumption | simp_all) rfl rfl ?_
    refine WR.move rfl rfl ?_
    refine WR.pass rfl rfl rfl (by first | rfl | assumption | simp_all) ?_
    refine WR.pass rfl rfl rfl (by first | rfl | assumption | simp_all) ?_
    refine WR.pass rfl rfl rfl (by first | rfl | assumption | simp_all) ?_
    refine WR.pass rfl rfl rfl (by first | rfl | assumption | simp_all) ?_
    refine WR.passU rfl rfl rfl ?_
    refine WR.passU rfl rfl rfl ?_
    refine WR.pass rfl rfl rfl (by first | rfl | assumption | simp_all) ?_
    refine WR.pickT rfl (by first | rfl | assumption | simp_all) rfl rfl ?_
    refine WR.nil ?_
    refine WN.seq ?_
    refine WC.cond rfl (fun h85 => ?_) (fun h85 => ?_)
    · skip
      (try simp only [decide_eq_true_eq, decide_eq_false_iff_not, beq_iff_eq, beq_eq_false_iff_ne, bne_iff_ne, bne_eq_false_iff_eq, gt_iff_lt, ge_iff_le, Int.not_lt, Int.not_le, ne_eq, Bool.not_eq_true, Bool.not_eq_false, Bool.and_eq_true, Bool.and_eq_false_iff, Bool.or_eq_true, Bool.or_eq_false_iff] at h85)
      refine WC.seq ?_
      refine WC.region ?_
      refine WR.move rfl rfl ?_
      refine WR.assign rfl rfl ?_
      refine WR.nil ?_
      refine WN.seq ?_
      refine WC.retR rfl rfl ?_
      exact ⟨rfl, hS⟩
    · skip
      first | (exact absurd h85 (by simp)) | (simp at h85; omega)

set_option maxHeartbeats 400000 in
theorem lawD {w : World} {aE aU aP : Addr} (hg : Glob w aE aU aP) (tb : Tab w) (db dO len cap m cz lz : Nat) (wd : Int) (k : Nat) (zs : List Int) (Az : Option Addr) (d : Nat → Nat) (hd : len ≤ 4096 → Src2 w 0 db dO len cap d) (hz : Lu w lz (.slice Az m cz) (i64s zs)) (hlz : lz ≤ w.heap.size) (hm0 : m = (i64s zs).length) (hzr : ∀ i, -9223372036854775808 ≤ zs.getD i 0 ∧ zs.getD i 0 ≤ 9223372036854775807) (hlen : len ≤ 4096) (hk : k < 6) (hc : wd < 1) :
    Ret Tryz.prog 3 #[.slice (ad db dO) len cap, .int .i64 (wd), .int .i64 (k : Nat), .slice Az m cz] w fun v w' => v = .bool true ∧ Same [] w w' := by
  have hS := Same.refl [] w
  have hgs := hg.size
  have hc0 : decide ((len : Int) > 2147483647) = false := by simp; omega
  have hc1 : decide ((len : Int) > 4096) = false := by first | (simp; omega) | simp
  have hc2 : decide (((k : Nat) : Int) < 0) = false := by first | (simp; omega) | simp
  have hc3 : decide (((k : Nat) : Int) > 5) = false := by first | (simp; omega) | simp
  have hc4 : decide ((wd : Int) < 1) = true := by first | (simp; omega) | simp
  refine Ret.enter (vs := [.slice (ad db dO) len cap, .int .i64 (wd), .int .i64 (k : Nat), .slice Az m cz]) Tryz.func3 Tryz.ntmps3 rfl rfl ?_
  refine WC.seq ?_
  refine WC.region ?_
  refine WR.assign rfl rfl ?_
  refine WR.nil ?_
  refine WN.seq ?_
  refine WC.seq ?_
  refine WC.seq ?_
  refine WC.region ?_
  refine WR.move rfl rfl ?_
  refine WR.lenS rfl Tryz.underlying22 rfl ?_
  refine WR.bin rfl rfl rfl rfl ?_
  refine WR.move rfl rfl ?_
  refine WR.take rfl rfl (by first | rfl | assumption | simp_all) ?_
  refine WR.move rfl rfl ?_
  refine WR.take rfl rfl (by first | rfl | assumption | simp_all) ?_
  refine WR.lenS rfl Tryz.underlying23 rfl ?_
  refine WR.take rfl rfl (by first | rfl | assumption | simp_all) ?_
  refine WR.bin rfl rfl rfl rfl ?_
  refine WR.pickF rfl (by first | rfl | assumption | simp_all) rfl rfl ?_
  refine WR.nil ?_
  refine WN.seq ?_
  refine WC.cond rfl (fun h80 => ?_) (fun h80 => ?_)
  · skip
    (try simp only [decide_eq_true_eq, decide_eq_false_iff_not, beq_iff_eq, beq_eq_false_iff_ne, bne_iff_ne, bne_eq_false_iff_eq, gt_iff_lt, ge_iff_le, Int.not_lt, Int.not_le, ne_eq, Bool.not_eq_true, Bool.not_eq_false, Bool.and_eq_true, Bool.and_eq_false_iff, Bool.or_eq_true, Bool.or_eq_false_iff] at h80)
    refine WC.seq ?_
    refine WC.region ?_
    refine WR.assign rfl rfl ?_
    refine WR.nil ?_
    refine WN.seq ?_
    refine WC.retR rfl rfl ?_
    exact ⟨rfl, hS⟩
  · skip
    (try simp only [decide_eq_true_eq, decide_eq_false_iff_not, beq_iff_eq, beq_eq_false_iff_ne, bne_iff_ne, bne_eq_false_iff_eq, gt_iff_lt, ge_iff_le, Int.not_lt, Int.not_le, ne_eq, Bool.not_eq_true, Bool.not_eq_false, Bool.and_eq_true, Bool.and_eq_false_iff, Bool.or_eq_true, Bool.or_eq_false_iff] at h80)
    refine WC.skip ?_
    refine WN.seq ?_
    refine WC.seq ?_
    refine WC.region ?_
    obtain ⟨bA, hbA⟩ : ∃ x, x = w.heap.size := ⟨_, rfl⟩
    refine WR.buildSl (E := 5) (cs := #[.int .u8 5]) rfl rfl (fun w => by kernel_rfl) rfl rfl ?_
    rw [← hbA]
    intro w1 hA hs
    replace hS := hS.trans hs (by simp <;> omega)
    replace hg := hg.same hs (by simp <;> omega)
    replace tb := tb.same hs (by simp <;> omega)
    replace hz := hz.same hs (by simp <;> omega)
    replace hd := (fun h9 => (hd h9).same hs (by simp <;> omega))
    (try replace hu := hu.same hs (by simp <;> omega))
    (try replace hall := hall.same hs (by simp <;> omega))
    (try replace hw := hw.same hs (by simp <;> omega))
    clear hs
    obtain ⟨bB, hbB⟩ : ∃ x, x = w1.heap.size := ⟨_, rfl⟩
    refine WR.buildSl (E := 3) (cs := #[.int .i64 2]) rfl rfl (fun w => by kernel_rfl) rfl rfl ?_
    rw [← hbB]
    intro w2 hB hs
    replace hS := hS.trans hs (by simp <;> omega)
    replace hg := hg.same hs (by simp <;> omega)
    replace tb := tb.same hs (by simp <;> omega)
    replace hz := hz.same hs (by simp <;> omega)
    replace hd := (fun h9 => (hd h9).same hs (by simp <;> omega))
    (try replace hA := hA.same hs (by simp <;> omega))
    (try replace hu := hu.same hs (by simp <;> omega))
    (try replace hall := hall.same hs (by simp <;> omega))
    (try replace hw := hw.same hs (by simp <;> omega))
    clear hs
    refine WR.callF rfl rfl cf4 rfl rfl (unpackedBatch hg tb bA 1 1 1 4 0 1 1 (bB + 1) [2] _ (fun _ => 5) (src_five hA) (by decide) (by decide) (by decide) (by decide) (by decide) (lu_two hB) hB.lt rfl (by decide) (by decide)) ?_
    rintro _ w3 ⟨u, rfl, hu, hs⟩
    rw [awake_list] at hu
    obtain ⟨Au, cu, rfl⟩ := hu.shape
    clear hA hB
    replace hS := hS.trans hs (by simp <;> omega)
    replace hg := hg.same hs (by simp <;> omega)
    replace tb := tb.same hs (by simp <;> omega)
    replace hz := hz.same hs (by simp <;> omega)
    replace hd := (fun h9 => (hd h9).same hs (by simp <;> omega))
    (try replace hA := hA.same hs (by simp <;> omega))
    (try replace hall := hall.same hs (by simp <;> omega))
    (try replace hw := hw.same hs (by simp <;> omega))
    refine WR.move rfl rfl ?_
    refine WR.extract rfl rfl rfl ?_
    refine WR.extract rfl rfl rfl ?_
    refine WR.assign rfl rfl ?_
    refine WR.assign rfl rfl ?_
    refine WR.nil ?_
    refine WN.seq ?_
    refine WC.seq ?_
    refine WC.region ?_
    refine WR.move rfl rfl ?_
    refine WR.move rfl rfl ?_
    refine WR.take rfl rfl (by first | rfl | assumption | simp_all) ?_
    refine WR.move rfl rfl ?_
    refine WR.take rfl rfl (by first | rfl | assumption | simp_all) ?_
    obtain ⟨bC, hbC⟩ : ∃ x, x = w3.heap.size := ⟨_, rfl⟩
    refine WR.buildSl (E := 28) (cs := #[.int .u64 5, .int .u64 0]) rfl rfl (fun w => by kernel_rfl) rfl rfl ?_
    rw [← hbC]
    intro w4 hC hs
    replace hS := hS.trans hs (by simp <;> omega)
    replace hg := hg.same hs (by simp <;> omega)
    replace tb := tb.same hs (by simp <;> omega)
    replace hz := hz.same hs (by simp <;> omega)
    replace hd := (fun h9 => (hd h9).same hs (by simp <;> omega))
    (try replace hA := hA.same hs (by simp <;> omega))
    (try replace hu := hu.same hs (by simp <;> omega))
    (try replace hall := hall.same hs (by simp <;> omega))
    (try replace hw := hw.same hs (by simp <;> omega))
    clear hs
    refine WR.take rfl rfl (by first | rfl | assumption | simp_all) ?_
    refine WR.callF rfl rfl cf5 rfl rfl (sameNumbers [5, 0] _ _ 2 _ _ _ _ hu (ls_awake hC) rfl (by decide)) ?_
    rintro _ w5 ⟨rfl, hs⟩
    clear hu hC
    replace hS := hS.trans hs (by simp <;> omega)
    replace hg := hg.same hs (by simp <;> omega)
    replace tb := tb.same hs (by simp <;> omega)
    replace hz := hz.same hs (by simp <;> omega)
    replace hd := (fun h9 => (hd h9).same hs (by simp <;> omega))
    (try replace hA := hA.same hs (by simp <;> omega))
    (try replace hu := hu.same hs (by simp <;> omega))
    (try replace hall := hall.same hs (by simp <;> omega))
    (try replace hw := hw.same hs (by simp <;> omega))
    refine WR.pickT rfl (by first | rfl | assumption | simp_all) rfl rfl ?_
    refine WR.assign rfl rfl ?_
    refine WR.nil ?_
    refine WN.seq ?_
    refine WC.seq ?_
    refine WC.seq ?_
    refine WC.region ?_
    refine WR.move rfl rfl ?_
    refine WR.lenS rfl Tryz.underlying22 rfl ?_
    refine WR.bin rfl rfl rfl rfl ?_
    refine WR.move rfl rfl ?_
    refine WR.take rfl rfl (by first | rfl | assumption | simp_all) ?_
    refine WR.move rfl rfl ?_
    refine WR.take rfl rfl (by first | rfl | assumption | simp_all) ?_
    refine WR.bin rfl rfl rfl rfl ?_
    refine WR.pickF rfl (by first | rfl | assumption | simp_all) rfl rfl ?_
    refine WR.move rfl rfl ?_
    refine WR.take rfl rfl (by first | rfl | assumption | simp_all) ?_
    refine WR.move rfl rfl ?_
    refine WR.take rfl rfl (by first | rfl | assumption | simp_all) ?_
    refine WR.bin rfl rfl rfl rfl ?_
    refine WR.pickF rfl (by first | rfl | assumption | simp_all) rfl rfl ?_
    refine WR.move rfl rfl ?_
    refine WR.take rfl rfl (by first | rfl | assumption | simp_all) ?_
    refine WR.move rfl rfl ?_
    refine WR.take rfl rfl (by first | rfl | assumption | simp_all) ?_
    refine WR.bin rfl rfl rfl rfl ?_
    refine WR.pickF rfl (by first | rfl | assumption | simp_all) rfl rfl ?_
    refine WR.move rfl rfl ?_
    refine WR.pass rfl rfl rfl (by first | rfl | assumption | simp_all) ?_
    refine WR.pass rfl rfl rfl (by first | rfl | assumption | simp_all) ?_
    refine WR.pass rfl rfl rfl (by first | rfl | assumption | simp_all) ?_
    refine WR.pass rfl rfl rfl (by first | rfl | assumption | simp_all) ?_
    refine WR.pickT rfl (by first | rfl | assumption | simp_all) rfl rfl ?_
    refine WR.move rfl rfl ?_
    refine WR.pass rfl rfl rfl (by first | rfl | assumption | simp_all) ?_
    refine WR.pass rfl rfl rfl (by first | rfl | assumption | simp_all) ?_
    refine WR.pass rfl rfl rfl (by first | rfl | assumption | simp_all) ?_
    refine WR.pass rfl rfl rfl (by first | rfl | assumption | simp_all) ?_
    refine WR.passU rfl rfl rfl ?_
    refine WR.passU rfl rfl rfl ?_
    refine WR.pass rfl rfl rfl (by first | rfl | assumption | simp_all) ?_
    refine WR.pickT rfl (by first | rfl | assumption | simp_all) rfl rfl ?_
    refine WR.nil ?_
    refine WN.seq ?_
    refine WC.cond rfl (fun h85 => ?_) (fun h85 => ?_)
    · skip
      (try simp only [decide_eq_true_eq, decide_eq_false_iff_not, beq_iff_eq, beq_eq_false_iff_ne, bne_iff_ne, bne_eq_false_iff_eq, gt_iff_lt, ge_iff_le, Int.not_lt, Int.not_le, ne_eq, Bool.not_eq_true, Bool.not_eq_false, Bool.and_eq_true, Bool.and_eq_false_iff, Bool.or_eq_true, Bool.or_eq_false_iff] at h85)
      refine WC.seq ?_
      refine WC.region ?_
      refine WR.move rfl rfl ?_
      refine WR.assign rfl rfl ?_
      refine WR.nil ?_
      refine WN.seq ?_
      refine WC.retR rfl rfl ?_
      exact ⟨rfl, hS⟩
    · skip
      first | (exact absurd h85 (by simp)) | (simp at h85; omega)

set_option maxHeartbeats 400000 in
theorem lawE {w : World} {aE aU aP : Addr} (hg : Glob w aE aU aP) (tb : Tab w) (db dO len cap m cz lz : Nat) (wd : Int) (k : Nat) (zs : List Int) (Az : Option Addr) (d : Nat → Nat) (hd : len ≤ 4096 → Src2 w 0 db dO len cap d) (hz : Lu w lz (.slice Az m cz) (i64s zs)) (hlz : lz ≤ w.heap.size) (hm0 : m = (i64s zs).length) (hzr : ∀ i, -9223372036854775808 ≤ zs.getD i 0 ∧ zs.getD i 0 ≤ 9223372036854775807) (hlen : len ≤ 4096) (hk : k < 6) (hw1 : 1 ≤ wd) (hc : ((mostV k : Nat) : Int) < wd) :
    Ret Tryz.prog 3 #[.slice (ad db dO) len cap, .int .i64 (wd), .int .i64 (k : Nat), .slice Az m cz] w fun v w' => v = .bool true ∧ Same [] w w' := by
  have hS := Same.refl [] w
  have hgs := hg.size
  have hc0 : decide ((len : Int) > 2147483647) = false := by simp; omega
  have hc1 : decide ((len : Int) > 4096) = false := by first | (simp; omega) | simp
  have hc2 : decide (((k : Nat) : Int) < 0) = false := by first | (simp; omega) | simp
  have hc3 : decide (((k : Nat) : Int) > 5) = false := by first | (simp; omega) | simp
  have hc4 : decide ((wd : Int) < 1) = false := by first | (simp; omega) | simp
  have hc5 : decide ((wd : Int) > ((mostV k : Nat) : Int)) = true := by first | (simp; omega) | simp
  refine Ret.enter (vs := [.slice (ad db dO) len cap, .int .i64 (wd), .int .i64 (k : Nat), .slice Az m cz]) Tryz.func3 Tryz.ntmps3 rfl rfl ?_
  refine WC.seq ?_
  refine WC.region ?_
  refine WR.assign rfl rfl ?_
  refine WR.nil ?_
  refine WN.seq ?_
  refine WC.seq ?_
  refine WC.seq ?_
  refine WC.region ?_
  refine WR.move rfl rfl ?_
  refine WR.lenS rfl Tryz.underlying22 rfl ?_
  refine WR.bin rfl rfl rfl rfl ?_
  refine WR.move rfl rfl ?_
  refine WR.take rfl rfl (by first | rfl | assumption | simp_all) ?_
  refine WR.move rfl rfl ?_
  refine WR.take rfl rfl (by first | rfl | assumption | simp_all) ?_
  refine WR.lenS rfl Tryz.underlying23 rfl ?_
  refine WR.take rfl rfl (by first | rfl | assumption | simp_all) ?_
  refine WR.bin rfl rfl rfl rfl ?_
  refine WR.pickF rfl (by first | rfl | assumption | simp_all) rfl rfl ?_
  refine WR.nil ?_
  refine WN.seq ?_
  refine WC.cond rfl (fun h80 => ?_) (fun h80 => ?_)
  · skip
    (try simp only [decide_eq_true_eq, decide_eq_false_iff_not, beq_iff_eq, beq_eq_false_iff_ne, bne_iff_ne, bne_eq_false_iff_eq, gt_iff_lt, ge_iff_le, Int.not_lt, Int.not_le, ne_eq, Bool.not_eq_true, Bool.not_eq_false, Bool.and_eq_true, Bool.and_eq_false_iff, Bool.or_eq_true, Bool.or_eq_false_iff] at h80)
    refine WC.seq ?_
    refine WC.region ?_
    refine WR.assign rfl rfl ?_
    refine WR.nil ?_
    refine WN.seq ?_
    refine WC.retR rfl rfl ?_
    exact ⟨rfl, hS⟩
  · skip
    (try simp only [decide_eq_true_eq, decide_eq_false_iff_not, beq_iff_eq, beq_eq_false_iff_ne, bne_iff_ne, bne_eq_false_iff_eq, gt_iff_lt, ge_iff_le, Int.not_lt, Int.not_le, ne_eq, Bool.not_eq_true, Bool.not_eq_false, Bool.and_eq_true, Bool.and_eq_false_iff, Bool.or_eq_true, Bool.or_eq_false_iff] at h80)
    refine WC.skip ?_
    refine WN.seq ?_
    refine WC.seq ?_
    refine WC.region ?_
    obtain ⟨bA, hbA⟩ : ∃ x, x = w.heap.size := ⟨_, rfl⟩
    refine WR.buildSl (E := 5) (cs := #[.int .u8 5]) rfl rfl (fun w => by kernel_rfl) rfl rfl ?_
    rw [← hbA]
    intro w1 hA hs
    replace hS := hS.trans hs (by simp <;> omega)
    replace hg := hg.same hs (by simp <;> omega)
    replace tb := tb.same hs (by simp <;> omega)
    replace hz := hz.same hs (by simp <;> omega)
    replace hd := (fun h9 => (hd h9).same hs (by simp <;> omega))
    (try replace hu := hu.same hs (by simp <;> omega))
    (try replace hall := hall.same hs (by simp <;> omega))
    (try replace hw := hw.same hs (by simp <;> omega))
    clear hs
    obtain ⟨bB, hbB⟩ : ∃ x, x = w1.heap.size := ⟨_, rfl⟩
    refine WR.buildSl (E := 3) (cs := #[.int .i64 2]) rfl rfl (fun w => by kernel_rfl) rfl rfl ?_
    rw [← hbB]
    intro w2 hB hs
    replace hS := hS.trans hs (by simp <;> omega)
    replace hg := hg.same hs (by simp <;> omega)
    replace tb := tb.same hs (by simp <;> omega)
    replace hz := hz.same hs (by simp <;> omega)
    replace hd := (fun h9 => (hd h9).same hs (by simp <;> omega))
    (try replace hA := hA.same hs (by simp <;> omega))
    (try replace hu := hu.same hs (by simp <;> omega))
    (try replace hall := hall.same hs (by simp <;> omega))
    (try replace hw := hw.same hs (by simp <;> omega))
    clear hs
    refine WR.callF rfl rfl cf4 rfl rfl (unpackedBatch hg tb bA 1 1 1 4 0 1 1 (bB + 1) [2] _ (fun _ => 5) (src_five hA) (by decide) (by decide) (by decide) (by decide) (by decide) (lu_two hB) hB.lt rfl (by decide) (by decide)) ?_
    rintro _ w3 ⟨u, rfl, hu, hs⟩
    rw [awake_list] at hu
    obtain ⟨Au, cu, rfl⟩ := hu.shape
    clear hA hB
    replace hS := hS.trans hs (by simp <;> omega)
    replace hg := hg.same hs (by simp <;> omega)
    replace tb := tb.same hs (by simp <;> omega)
    replace hz := hz.same hs (by simp <;> omega)
    replace hd := (fun h9 => (hd h9).same hs (by simp <;> omega))
    (try replace hA := hA.same hs (by simp <;> omega))
    (try replace hall := hall.same hs (by simp <;> omega))
    (try replace hw := hw.same hs (by simp <;> omega))
    refine WR.move rfl rfl ?_
    refine WR.extract rfl rfl rfl ?_
    refine WR.extract rfl rfl rfl ?_
    refine WR.assign rfl rfl ?_
    refine WR.assign rfl rfl ?_
    refine WR.nil ?_
    refine WN.seq ?_
    refine WC.seq ?_
    refine WC.region ?_
    refine WR.move rfl rfl ?_
    refine WR.move rfl rfl ?_
    refine WR.take rfl rfl (by first | rfl | assumption | simp_all) ?_
    refine WR.move rfl rfl ?_
    refine WR.take rfl rfl (by first | rfl | assumption | simp_all) ?_
    obtain ⟨bC, hbC⟩ : ∃ x, x = w3.heap.size := ⟨_, rfl⟩
    refine WR.buildSl (E := 28) (cs := #[.int .u64 5, .int .u64 0]) rfl rfl (fun w => by kernel_rfl) rfl rfl ?_
    rw [← hbC]
    intro w4 hC hs
    replace hS := hS.trans hs (by simp <;> omega)
    replace hg := hg.same hs (by simp <;> omega)
    replace tb := tb.same hs (by simp <;> omega)
    replace hz := hz.same hs (by simp <;> omega)
    replace hd := (fun h9 => (hd h9).same hs (by simp <;> omega))
    (try replace hA := hA.same hs (by simp <;> omega))
    (try replace hu := hu.same hs (by simp <;> omega))
    (try replace hall := hall.same hs (by simp <;> omega))
    (try replace hw := hw.same hs (by simp <;> omega))
    clear hs
    refine WR.take rfl rfl (by first | rfl | assumption | simp_all) ?_
    refine WR.callF rfl rfl cf5 rfl rfl (sameNumbers [5, 0] _ _ 2 _ _ _ _ hu (ls_awake hC) rfl (by decide)) ?_
    rintro _ w5 ⟨rfl, hs⟩
    clear hu hC
    replace hS := hS.trans hs (by simp <;> omega)
    replace hg := hg.same hs (by simp <;> omega)
    replace tb := tb.same hs (by simp <;> omega)
    replace hz := hz.same hs (by simp <;> omega)
    replace hd := (fun h9 => (hd h9).same hs (by simp <;> omega))
    (try replace hA := hA.same hs (by simp <;> omega))
    (try replace hu := hu.same hs (by simp <;> omega))
    (try replace hall := hall.same hs (by simp <;> omega))
    (try replace hw := hw.same hs (by simp <;> omega))
    refine WR.pickT rfl (by first | rfl | assumption | simp_all) rfl rfl ?_
    refine WR.assign rfl rfl ?_
    refine WR.nil ?_
    refine WN.seq ?_
    refine WC.seq ?_
    refine WC.seq ?_
    refine WC.region ?_
    refine WR.move rfl rfl ?_
    refine WR.lenS rfl Tryz.underlying22 rfl ?_
    refine WR.bin rfl rfl rfl rfl ?_
    refine WR.move rfl rfl ?_
    refine WR.take rfl rfl (by first | rfl | assumption | simp_all) ?_
    refine WR.move rfl rfl ?_
    refine WR.take rfl rfl (by first | rfl | assumption | simp_all) ?_
    refine WR.bin rfl rfl rfl rfl ?_
    refine WR.pickF rfl (by first | rfl | assumption | simp_all) rfl rfl ?_
    refine WR.move rfl rfl ?_
    refine WR.take rfl rfl (by first | rfl | assumption | simp_all) ?_
    refine WR.move rfl rfl ?_
    refine WR.take rfl rfl (by first | rfl | assumption | simp_all) ?_
    refine WR.bin rfl rfl rfl rfl ?_
    refine WR.pickF rfl (by first | rfl | assumption | simp_all) rfl rfl ?_
    refine WR.move rfl rfl ?_
    refine WR.take rfl rfl (by first | rfl | assumption | simp_all) ?_
    refine WR.move rfl rfl ?_
    refine WR.take rfl rfl (by first | rfl | assumption | simp_all) ?_
    refine WR.bin rfl rfl rfl rfl ?_
    refine WR.pickF rfl (by first | rfl | assumption | simp_all) rfl rfl ?_
    refine WR.move rfl rfl ?_
    refine WR.take rfl rfl (by first | rfl | assumption | simp_all) ?_
    refine WR.move rfl rfl ?_
    refine WR.take rfl rfl (by first | rfl | assumption | simp_all) ?_
    refine WR.move rfl rfl ?_
    refine WR.take rfl rfl (by first | rfl | assumption | simp_all) ?_
    refine WR.callF rfl rfl cf6 rfl rfl (most k hk) ?_
    rintro _ w6 ⟨rfl, hs⟩
    replace hS := hS.trans hs (by simp <;> omega)
    replace hg := hg.same hs (by simp <;> omega)
    replace tb := tb.same hs (by simp <;> omega)
    replace hz := hz.same hs (by simp <;> omega)
    replace hd := (fun h9 => (hd h9).same hs (by simp <;> omega))
    (try replace hA := hA.same hs (by simp <;> omega))
    (try replace hu := hu.same hs (by simp <;> omega))
    (try replace hall := hall.same hs (by simp <;> omega))
    (try replace hw := hw.same hs (by simp <;> omega))
    refine WR.take rfl rfl (by first | rfl | assumption | simp_all) ?_
    refine WR.bin rfl rfl rfl rfl ?_
    refine WR.pickF rfl (by first | rfl | assumption | simp_all) rfl rfl ?_
    refine WR.move rfl rfl ?_
    refine WR.pass rfl rfl rfl (by first | rfl | assumption | simp_all) ?_
    refine WR.pass rfl rfl rfl (by first | rfl | assumption | simp_all) ?_
    refine WR.pass rfl rfl rfl (by first | rfl | assumption | simp_all) ?_
    refine WR.pass rfl rfl rfl (by first | rfl | assumption | simp_all) ?_
    refine WR.passU rfl rfl rfl ?_
    refine WR.passU rfl rfl rfl ?_
    refine WR.pass rfl rfl rfl (by first | rfl | assumption | simp_all) ?_
    refine WR.pickT rfl (by first | rfl | assumption | simp_all) rfl rfl ?_
    refine WR.nil ?_
    refine WN.seq ?_
    refine WC.cond rfl (fun h85 => ?_) (fun h85 => ?_)
    · skip
      (try simp only [decide_eq_true_eq, decide_eq_false_iff_not, beq_iff_eq, beq_eq_false_iff_ne, bne_iff_ne, bne_eq_false_iff_eq, gt_iff_lt, ge_iff_le, Int.not_lt, Int.not_le, ne_eq, Bool.not_eq_true, Bool.not_eq_false, Bool.and_eq_true, Bool.and_eq_false_iff, Bool.or_eq_true, Bool.or_eq_false_iff] at h85)
      refine WC.seq ?_
      refine WC.region ?_
      refine WR.move rfl rfl ?_
      refine WR.assign rfl rfl ?_
      refine WR.nil ?_
      refine WN.seq ?_
      refine WC.retR rfl rfl ?_
      exact ⟨rfl, hS⟩
    · skip
      first | (exact absurd h85 (by simp)) | (simp at h85; omega)

set_option maxHeartbeats 400000 in
theorem lawF {w : World} {aE aU aP : Addr} (hg : Glob w aE aU aP) (tb : Tab w) (db dO len cap m cz lz : Nat) (wd : Int) (k : Nat) (zs : List Int) (Az : Option Addr) (d : Nat → Nat) (hd : len ≤ 4096 → Src2 w 0 db dO len cap d) (hz : Lu w lz (.slice Az m cz) (i64s zs)) (hlz : lz ≤ w.heap.size) (hm0 : m = (i64s zs).length) (hzr : ∀ i, -9223372036854775808 ≤ zs.getD i 0 ∧ zs.getD i 0 ≤ 9223372036854775807) (hlen : len ≤ 4096) (hk : k < 6) (hw1 : 1 ≤ wd) (hw2 : wd ≤ ((mostV k : Nat) : Int)) (hm1 : mostV k = 1) (hc : wd ≠ 1) :
    Ret Tryz.prog 3 #[.slice (ad db dO) len cap, .int .i64 (wd), .int .i64 (k : Nat), .slice Az m cz] w fun v w' => v = .bool true ∧ Same [] w w' := by
  have hS := Same.refl [] w
  have hgs := hg.size
  have hc0 : decide ((len : Int) > 2147483647) = false := by simp; omega
  have hc1 : decide ((len : Int) > 4096) = false := by first | (simp; omega) | simp
  have hc2 : decide (((k : Nat) : Int) < 0) = false := by first | (simp; omega) | simp
  have hc3 : decide (((k : Nat) : Int) > 5) = false := by first | (simp; omega) | simp
  have hc4 : decide ((wd : Int) < 1) = false := by first | (simp; omega) | simp
  have hc5 : decide ((wd : Int) > ((mostV k : Nat) : Int)) = false := by first | (simp; omega) | simp
  have hc6 : (((mostV k : Nat) : Int) == 1) = true := by first | (simp; omega) | simp
  have hc7 : ((wd : Int) != 1) = true := by first | (simp; omega) | simp
  refine Ret.enter (vs := [.slice (ad db dO) len cap, .int .i64 (wd), .int .i64 (k : Nat), .slice Az m cz]) Tryz.func3 Tryz.ntmps3 rfl rfl ?_
  refine WC.seq ?_
  refine WC.region ?_
  refine WR.assign rfl rfl ?_
  refine WR.nil ?_
  refine WN.seq ?_
  refine WC.seq ?_
  refine WC.seq ?_
  refine WC.region ?_
  refine WR.move rfl rfl ?_
  refine WR.lenS rfl Tryz.underlying22 rfl ?_
  refine WR.bin rfl rfl rfl rfl ?_
  refine WR.move rfl rfl ?_
  refine WR.take rfl rfl (by first | rfl | assumption | simp_all) ?_
  refine WR.move rfl rfl ?_
  refine WR.take rfl rfl (by first | rfl | assumption | simp_all) ?_
  refine WR.lenS rfl Tryz.underlying23 rfl ?_
  refine WR.take rfl rfl (by first | rfl | assumption | simp_all) ?_
  refine WR.bin rfl rfl rfl rfl ?_
  refine WR.pickF rfl (by first | rfl | assumption | simp_all) rfl rfl ?_
  refine WR.nil ?_
  refine WN.seq ?_
  refine WC.cond rfl (fun h80 => ?_) (fun h80 => ?_)
  · skip
    (try simp only [decide_eq_true_eq, decide_eq_false_iff_not, beq_iff_eq, beq_eq_false_iff_ne, bne_iff_ne, bne_eq_false_iff_eq, gt_iff_lt, ge_iff_le, Int.not_lt, Int.not_le, ne_eq, Bool.not_eq_true, Bool.not_eq_false, Bool.and_eq_true, Bool.and_eq_false_iff, Bool.or_eq_true, Bool.or_eq_false_iff] at h80)
    refine WC.seq ?_
    refine WC.region ?_
    refine WR.assign rfl rfl ?_
    refine WR.nil ?_
    refine WN.seq ?_
    refine WC.retR rfl rfl ?_
    exact ⟨rfl, hS⟩
  · skip
    (try simp only [decide_eq_true_eq, decide_eq_false_iff_not, beq_iff_eq, beq_eq_false_iff_ne, bne_iff_ne, bne_eq_false_iff_eq, gt_iff_lt, ge_iff_le, Int.not_lt, Int.not_le, ne_eq, Bool.not_eq_true, Bool.not_eq_false, Bool.and_eq_true, Bool.and_eq_false_iff, Bool.or_eq_true, Bool.or_eq_false_iff] at h80)
    refine WC.skip ?_
    refine WN.seq ?_
    refine WC.seq ?_
    refine WC.region ?_
    obtain ⟨bA, hbA⟩ : ∃ x, x = w.heap.size := ⟨_, rfl⟩
    refine WR.buildSl (E := 5) (cs := #[.int .u8 5]) rfl rfl (fun w => by kernel_rfl) rfl rfl ?_
    rw [← hbA]
    intro w1 hA hs
    replace hS := hS.trans hs (by simp <;> omega)
    replace hg := hg.same hs (by simp <;> omega)
    replace tb := tb.same hs (by simp <;> omega)
    replace hz := hz.same hs (by simp <;> omega)
    replace hd := (fun h9 => (hd h9).same hs (by simp <;> omega))
    (try replace hu := hu.same hs (by simp <;> omega))
    (try replace hall := hall.same hs (by simp <;> omega))
    (try replace hw := hw.same hs (by simp <;> omega))
    clear hs
    obtain ⟨bB, hbB⟩ : ∃ x, x = w1.heap.size := ⟨_, rfl⟩
    refine WR.buildSl (E := 3) (cs := #[.int .i64 2]) rfl rfl (fun w => by kernel_rfl) rfl rfl ?_
    rw [← hbB]
    intro w2 hB hs
    replace hS := hS.trans hs (by simp <;> omega)
    replace hg := hg.same hs (by simp <;> omega)
    replace tb := tb.same hs (by simp <;> omega)
    replace hz := hz.same hs (by simp <;> omega)
    replace hd := (fun h9 => (hd h9).same hs (by simp <;> omega))
    (try replace hA := hA.same hs (by simp <;> omega))
    (try replace hu := hu.same hs (by simp <;> omega))
    (try replace hall := hall.same hs (by simp <;> omega))
    (try replace hw := hw.same hs (by simp <;> omega))
    clear hs
    refine WR.callF rfl rfl cf4 rfl rfl (unpackedBatch hg tb bA 1 1 1 4 0 1 1 (bB + 1) [2] _ (fun _ => 5) (src_five hA) (by decide) (by decide) (by decide) (by decide) (by decide) (lu_two hB) hB.lt rfl (by decide) (by decide)) ?_
    rintro _ w3 ⟨u, rfl, hu, hs⟩
    rw [awake_list] at hu
    obtain ⟨Au, cu, rfl⟩ := hu.shape
    clear hA hB
    replace hS := hS.trans hs (by simp <;> omega)
    replace hg := hg.same hs (by simp <;> omega)
    replace tb := tb.same hs (by simp <;> omega)
    replace hz := hz.same hs (by simp <;> omega)
    replace hd := (fun h9 => (hd h9).same hs (by simp <;> omega))
    (try replace hA := hA.same hs (by simp <;> omega))
    (try replace hall := hall.same hs (by simp <;> omega))
    (try replace hw := hw.same hs (by simp <;> omega))
    refine WR.move rfl rfl ?_
    refine WR.extract rfl rfl rfl ?_
    refine WR.extract rfl rfl rfl ?_
    refine WR.assign rfl rfl ?_
    refine WR.assign rfl rfl ?_
    refine WR.nil ?_
    refine WN.seq ?_
    refine WC.seq ?_
    refine WC.region ?_
    refine WR.move rfl rfl ?_
    refine WR.move rfl rfl ?_
    refine WR.take rfl rfl (by first | rfl | assumption | simp_all) ?_
    refine WR.move rfl rfl ?_
    refine WR.take rfl rfl (by first | rfl | assumption | simp_all) ?_
    obtain ⟨bC, hbC⟩ : ∃ x, x = w3.heap.size := ⟨_, rfl⟩
    refine WR.buildSl (E := 28) (cs := #[.int .u64 5, .int .u64 0]) rfl rfl (fun w => by kernel_rfl) rfl rfl ?_
    rw [← hbC]
    intro w4 hC hs
    replace hS := hS.trans hs (by simp <;> omega)
    replace hg := hg.same hs (by simp <;> omega)
    replace tb := tb.same hs (by simp <;> omega)
    replace hz := hz.same hs (by simp <;> omega)
    replace hd := (fun h9 => (hd h9).same hs (by simp <;> omega))
    (try replace hA := hA.same hs (by simp <;> omega))
    (try replace hu := hu.same hs (by simp <;> omega))
    (try replace hall := hall.same hs (by simp <;> omega))
    (try replace hw := hw.same hs (by simp <;> omega))
    clear hs
    refine WR.take rfl rfl (by first | rfl | assumption | simp_all) ?_
    refine WR.callF rfl rfl cf5 rfl rfl (sameNumbers [5, 0] _ _ 2 _ _ _ _ hu (ls_awake hC) rfl (by decide)) ?_
    rintro _ w5 ⟨rfl, hs⟩
    clear hu hC
    replace hS := hS.trans hs (by simp <;> omega)
    replace hg := hg.same hs (by simp <;> omega)
    replace tb := tb.same hs (by simp <;> omega)
    replace hz := hz.same hs (by simp <;> omega)
    replace hd := (fun h9 => (hd h9).same hs (by simp <;> omega))
    (try replace hA := hA.same hs (by simp <;> omega))
    (try replace hu := hu.same hs (by simp <;> omega))
    (try replace hall := hall.same hs (by simp <;> omega))
    (try replace hw := hw.same hs (by simp <;> omega))
    refine WR.pickT rfl (by first | rfl | assumption | simp_all) rfl rfl ?_
    refine WR.assign rfl rfl ?_
    refine WR.nil ?_
    refine WN.seq ?_
    refine WC.seq ?_
    refine WC.seq ?_
    refine WC.region ?_
    refine WR.move rfl rfl ?_
    refine WR.lenS rfl Tryz.underlying22 rfl ?_
    refine WR.bin rfl rfl rfl rfl ?_
    refine WR.move rfl rfl ?_
    refine WR.take rfl rfl (by first | rfl | assumption | simp_all) ?_
    refine WR.move rfl rfl ?_
    refine WR.take rfl rfl (by first | rfl | assumption | simp_all) ?_
    refine WR.bin rfl rfl rfl rfl ?_
    refine WR.pickF rfl (by first | rfl | assumption | simp_all) rfl rfl ?_
    refine WR.move rfl rfl ?_
    refine WR.take rfl rfl (by first | rfl | assumption | simp_all) ?_
    refine WR.move rfl rfl ?_
    refine WR.take rfl rfl (by first | rfl | assumption | simp_all) ?_
    refine WR.bin rfl rfl rfl rfl ?_
    refine WR.pickF rfl (by first | rfl | assumption | simp_all) rfl rfl ?_
    refine WR.move rfl rfl ?_
    refine WR.take rfl rfl (by first | rfl | assumption | simp_all) ?_
    refine WR.move rfl rfl ?_
    refine WR.take rfl rfl (by first | rfl | assumption | simp_all) ?_
    refine WR.bin rfl rfl rfl rfl ?_
    refine WR.pickF rfl (by first | rfl | assumption | simp_all) rfl rfl ?_
    refine WR.move rfl rfl ?_
    refine WR.take rfl rfl (by first | rfl | assumption | simp_all) ?_
    refine WR.move rfl rfl ?_
    refine WR.take rfl rfl (by first | rfl | assumption | simp_all) ?_
    refine WR.move rfl rfl ?_
    refine WR.take rfl rfl (by first | rfl | assumption | simp_all) ?_
    refine WR.callF rfl rfl cf6 rfl rfl (most k hk) ?_
    rintro _ w6 ⟨rfl, hs⟩
    replace hS := hS.trans hs (by simp <;> omega)
    replace hg := hg.same hs (by simp <;> omega)
    replace tb := tb.same hs (by simp <;> omega)
    replace hz := hz.same hs (by simp <;> omega)
    replace hd := (fun h9 => (hd h9).same hs (by simp <;> omega))
    (try replace hA := hA.same hs (by simp <;> omega))
    (try replace hu := hu.same hs (by simp <;> omega))
    (try replace hall := hall.same hs (by simp <;> omega))
    (try replace hw := hw.same hs (by simp <;> omega))
    refine WR.take rfl rfl (by first | rfl | assumption | simp_all) ?_
    refine WR.bin rfl rfl rfl rfl ?_
    refine WR.pickF rfl (by first | rfl | assumption | simp_all) rfl rfl ?_
    refine WR.move rfl rfl ?_
    refine WR.take rfl rfl (by first | rfl | assumption | simp_all) ?_
    refine WR.move rfl rfl ?_
    refine WR.take rfl rfl (by first | rfl | assumption | simp_all) ?_
    refine WR.callF rfl rfl cf6 rfl rfl (most k hk) ?_
    rintro _ w7 ⟨rfl, hs⟩
    replace hS := hS.trans hs (by simp <;> omega)
    replace hg := hg.same hs (by simp <;> omega)
    replace tb := tb.same hs (by simp <;> omega)
    replace hz := hz.same hs (by simp <;> omega)
    replace hd := (fun h9 => (hd h9).same hs (by simp <;> omega))
    (try replace hA := hA.same hs (by simp <;> omega))
    (try replace hu := hu.same hs (by simp <;> omega))
    (try replace hall := hall.same hs (by simp <;> omega))
    (try replace hw := hw.same hs (by simp <;> omega))
    refine WR.take rfl rfl (by first | rfl | assumption | simp_all) ?_
    refine WR.bin rfl rfl rfl rfl ?_
    refine WR.take rfl rfl (by first | rfl | assumption | simp_all) ?_
    refine WR.move rfl rfl ?_
    refine WR.take rfl rfl (by first | rfl | assumption | simp_all) ?_
    refine WR.move rfl rfl ?_
    refine WR.take rfl rfl (by first | rfl | assumption | simp_all) ?_
    refine WR.bin rfl rfl rfl rfl ?_
    refine WR.take rfl rfl (by first | rfl | assumption | simp_all) ?_
    refine WR.pickT rfl (by first | rfl | assumption | simp_all) rfl rfl ?_
    refine WR.pickF rfl (by first | rfl | assumption | simp_all) rfl rfl ?_
    refine WR.nil ?_
    refine WN.seq ?_
    refine WC.cond rfl (fun h85 => ?_) (fun h85 => ?_)
    · skip
      (try simp only [decide_eq_true_eq, decide_eq_false_iff_not, beq_iff_eq, beq_eq_false_iff_ne, bne_iff_ne, bne_eq_false_iff_eq, gt_iff_lt, ge_iff_le, Int.not_lt, Int.not_le, ne_eq, Bool.not_eq_true, Bool.not_eq_false, Bool.and_eq_true, Bool.and_eq_false_iff, Bool.or_eq_true, Bool.or_eq_false_iff] at h85)
      refine WC.seq ?_
      refine WC.region ?_
      refine WR.move rfl rfl ?_
      refine WR.assign rfl rfl ?_
      refine WR.nil ?_
      refine WN.seq ?_
      refine WC.retR rfl rfl ?_
      exact ⟨rfl, hS⟩
    · skip
      rw [hc7] at h85; cases h85

set_option maxHeartbeats 400000 in
theorem lawG {w : World} {aE aU aP : Addr} (hg : Glob w aE aU aP) (tb : Tab w) (db dO len cap m cz lz : Nat) (W : Nat) (k : Nat) (zs : List Int) (Az : Option Addr) (d : Nat → Nat) (hd : len ≤ 4096 → Src2 w 0 db dO len cap d) (hz : Lu w lz (.slice Az m cz) (i64s zs)) (hlz : lz ≤ w.heap.size) (hm0 : m = (i64s zs).length) (hzr : ∀ i, -9223372036854775808 ≤ zs.getD i 0 ∧ zs.getD i 0 ≤ 9223372036854775807) (hlen : len ≤ 4096) (hk : k < 6) (hW1 : 1 ≤ W) (hW2 : W ≤ mostV k) (hm1 : mostV k = 1) :
    Ret Tryz.prog 3 #[.slice (ad db dO) len cap, .int .i64 (W : Nat), .int .i64 (k : Nat), .slice Az m cz] w fun v w' => v = .bool true ∧ Same [] w w' := by
  have hS := Same.refl [] w
  have hgs := hg.size
  have hc0 : decide ((len : Int) > 2147483647) = false := by simp; omega
  have hc1 : decide ((len : Int) > 4096) = false := by first | (simp; omega) | simp
  have hc2 : decide (((k : Nat) : Int) < 0) = false := by first | (simp; omega) | simp
  have hc3 : decide (((k : Nat) : Int) > 5) = false := by first | (simp; omega) | simp
  have hc4 : decide (((W : Nat) : Int) < 1) = false := by first | (simp; omega) | simp
  have hc5 : decide (((W : Nat) : Int) > ((mostV k : Nat) : Int)) = false := by first | (simp; omega) | simp
  obtain ⟨N, hN⟩ : ∃ N, N = 8 * len / W := ⟨_, rfl⟩
  have hN8 : N ≤ 8 * len := by rw [hN]; exact Nat.div_le_self _ _
  have hNW : W * N ≤ 8 * len := by rw [hN]; exact Nat.mul_div_le _ _
  have hm64 : mostV k ≤ 64 := by rcases (show k = 0 ∨ k = 1 ∨ k = 2 ∨ k = 3 ∨ k = 4 ∨ k = 5 by omega) with rfl | rfl | rfl | rfl | rfl | rfl <;> decide
  have hc6 : (((mostV k : Nat) : Int) == 1) = true := by first | (simp; omega) | simp
  have hc7 : (((W : Nat) : Int) != 1) = false := by first | (simp; omega) | simp
  refine Ret.enter (vs := [.slice (ad db dO) len cap, .int .i64 (W : Nat), .int .i64 (k : Nat), .slice Az m cz]) Tryz.func3 Tryz.ntmps3 rfl rfl ?_
  refine WC.seq ?_
  refine WC.region ?_
  refine WR.assign rfl rfl ?_
  refine WR.nil ?_
  refine WN.seq ?_
  refine WC.seq ?_
  refine WC.seq ?_
  refine WC.region ?_
  refine WR.move rfl rfl ?_
  refine WR.lenS rfl Tryz.underlying22 rfl ?_
  refine WR.bin rfl rfl rfl rfl ?_
  refine WR.move rfl rfl ?_
  refine WR.take rfl rfl (by first | rfl | assumption | simp_all) ?_
  refine WR.move rfl rfl ?_
  refine WR.take rfl rfl (by first | rfl | assumption | simp_all) ?_
  refine WR.lenS rfl Tryz.underlying23 rfl ?_
  refine WR.take rfl rfl (by first | rfl | assumption | simp_all) ?_
  refine WR.bin rfl rfl rfl rfl ?_
  refine WR.pickF rfl (by first | rfl | assumption | simp_all) rfl rfl ?_
  refine WR.nil ?_
  refine WN.seq ?_
  refine WC.cond rfl (fun h80 => ?_) (fun h80 => ?_)
  · skip
    (try simp only [decide_eq_true_eq, decide_eq_false_iff_not, beq_iff_eq, beq_eq_false_iff_ne, bne_iff_ne, bne_eq_false_iff_eq, gt_iff_lt, ge_iff_le, Int.not_lt, Int.not_le, ne_eq, Bool.not_eq_true, Bool.not_eq_false, Bool.and_eq_true, Bool.and_eq_false_iff, Bool.or_eq_true, Bool.or_eq_false_iff] at h80)
    refine WC.seq ?_
    refine WC.region ?_
    refine WR.assign rfl rfl ?_
    refine WR.nil ?_
    refine WN.seq ?_
    refine WC.retR rfl rfl ?_
    exact ⟨rfl, hS⟩
  · skip
    (try simp only [decide_eq_true_eq, decide_eq_false_iff_not, beq_iff_eq, beq_eq_false_iff_ne, bne_iff_ne, bne_eq_false_iff_eq, gt_iff_lt, ge_iff_le, Int.not_lt, Int.not_le, ne_eq, Bool.not_eq_true, Bool.not_eq_false, Bool.and_eq_true, Bool.and_eq_false_iff, Bool.or_eq_true, Bool.or_eq_false_iff] at h80)
    refine WC.skip ?_
    refine WN.seq ?_
    refine WC.seq ?_
    refine WC.region ?_
    obtain ⟨bA, hbA⟩ : ∃ x, x = w.heap.size := ⟨_, rfl⟩
    refine WR.buildSl (E := 5) (cs := #[.int .u8 5]) rfl rfl (fun w => by kernel_rfl) rfl rfl ?_
    rw [← hbA]
    intro w1 hA hs
    replace hS := hS.trans hs (by simp <;> omega)
    replace hg := hg.same hs (by simp <;> omega)
    replace tb := tb.same hs (by simp <;> omega)
    replace hz := hz.same hs (by simp <;> omega)
    replace hd := (fun h9 => (hd h9).same hs (by simp <;> omega))
    (try replace hu := hu.same hs (by simp <;> omega))
    (try replace hall := hall.same hs (by simp <;> omega))
    (try replace hw := hw.same hs (by simp <;> omega))
    clear hs
    obtain ⟨bB, hbB⟩ : ∃ x, x = w1.heap.size := ⟨_, rfl⟩
    refine WR.buildSl (E := 3) (cs := #[.int .i64 2]) rfl rfl (fun w => by kernel_rfl) rfl rfl ?_
    rw [← hbB]
    intro w2 hB hs
    replace hS := hS.trans hs (by simp <;> omega)
    replace hg := hg.same hs (by simp <;> omega)
    replace tb := tb.same hs (by simp <;> omega)
    replace hz := hz.same hs (by simp <;> omega)
    replace hd := (fun h9 => (hd h9).same hs (by simp <;> omega))
    (try replace hA := hA.same hs (by simp <;> omega))
    (try replace hu := hu.same hs (by simp <;> omega))
    (try replace hall := hall.same hs (by simp <;> omega))
    (try replace hw := hw.same hs (by simp <;> omega))
    clear hs
    refine WR.callF rfl rfl cf4 rfl rfl (unpackedBatch hg tb bA 1 1 1 4 0 1 1 (bB + 1) [2] _ (fun _ => 5) (src_five hA) (by decide) (by decide) (by decide) (by decide) (by decide) (lu_two hB) hB.lt rfl (by decide) (by decide)) ?_
    rintro _ w3 ⟨u, rfl, hu, hs⟩
    rw [awake_list] at hu
    obtain ⟨Au, cu, rfl⟩ := hu.shape
    clear hA hB
    replace hS := hS.trans hs (by simp <;> omega)
    replace hg := hg.same hs (by simp <;> omega)
    replace tb := tb.same hs (by simp <;> omega)
    replace hz := hz.same hs (by simp <;> omega)
    replace hd := (fun h9 => (hd h9).same hs (by simp <;> omega))
    (try replace hA := hA.same hs (by simp <;> omega))
    (try replace hall := hall.same hs (by simp <;> omega))
    (try replace hw := hw.same hs (by simp <;> omega))
    refine WR.move rfl rfl ?_
    refine WR.extract rfl rfl rfl ?_
    refine WR.extract rfl rfl rfl ?_
    refine WR.assign rfl rfl ?_
    refine WR.assign rfl rfl ?_
    refine WR.nil ?_
    refine WN.seq ?_
    refine WC.seq ?_
    refine WC.region ?_
    refine WR.move rfl rfl ?_
    refine WR.move rfl rfl ?_
    refine WR.take rfl rfl (by first | rfl | assumption | simp_all) ?_
    refine WR.move rfl rfl ?_
    refine WR.take rfl rfl (by first | rfl | assumption | simp_all) ?_
    obtain ⟨bC, hbC⟩ : ∃ x, x = w3.heap.size := ⟨_, rfl⟩
    refine WR.buildSl (E := 28) (cs := #[.int .u64 5, .int .u64 0]) rfl rfl (fun w => by kernel_rfl) rfl rfl ?_
    rw [← hbC]
    intro w4 hC hs
    replace hS := hS.trans hs (by simp <;> omega)
    replace hg := hg.same hs (by simp <;> omega)
    replace tb := tb.same hs (by simp <;> omega)
    replace hz := hz.same hs (by simp <;> omega)
    replace hd := (fun h9 => (hd h9).same hs (by simp <;> omega))
    (try replace hA := hA.same hs (by simp <;> omega))
    (try replace hu := hu.same hs (by simp <;> omega))
    (try replace hall := hall.same hs (by simp <;> omega))
    (try replace hw := hw.same hs (by simp <;> omega))
    clear hs
    refine WR.take rfl rfl (by first | rfl | assumption | simp_all) ?_
    refine WR.callF rfl rfl cf5 rfl rfl (sameNumbers [5, 0] _ _ 2 _ _ _ _ hu (ls_awake hC) rfl (by decide)) ?_
    rintro _ w5 ⟨rfl, hs⟩
    clear hu hC
    replace hS := hS.trans hs (by simp <;> omega)
    replace hg := hg.same hs (by simp <;> omega)
    replace tb := tb.same hs (by simp <;> omega)
    replace hz := hz.same hs (by simp <;> omega)
    replace hd := (fun h9 => (hd h9).same hs (by simp <;> omega))
    (try replace hA := hA.same hs (by simp <;> omega))
    (try replace hu := hu.same hs (by simp <;> omega))
    (try replace hall := hall.same hs (by simp <;> omega))
    (try replace hw := hw.same hs (by simp <;> omega))
    refine WR.pickT rfl (by first | rfl | assumption | simp_all) rfl rfl ?_
    refine WR.assign rfl rfl ?_
    refine WR.nil ?_
    refine WN.seq ?_
    refine WC.seq ?_
    refine WC.seq ?_
    refine WC.region ?_
    refine WR.move rfl rfl ?_
    refine WR.lenS rfl Tryz.underlying22 rfl ?_
    refine WR.bin rfl rfl rfl rfl ?_
    refine WR.move rfl rfl ?_
    refine WR.take rfl rfl (by first | rfl | assumption | simp_all) ?_
    refine WR.move rfl rfl ?_
    refine WR.take rfl rfl (by first | rfl | assumption | simp_all) ?_
    refine WR.bin rfl rfl rfl rfl ?_
    refine WR.pickF rfl (by first | rfl | assumption | simp_all) rfl rfl ?_
    refine WR.move rfl rfl ?_
    refine WR.take rfl rfl (by first | rfl | assumption | simp_all) ?_
    refine WR.move rfl rfl ?_
    refine WR.take rfl rfl (by first | rfl | assumption | simp_all) ?_
    refine WR.bin rfl rfl rfl rfl ?_
    refine WR.pickF rfl (by first | rfl | assumption | simp_all) rfl rfl ?_
    refine WR.move rfl rfl ?_
    refine WR.take rfl rfl (by first | rfl | assumption | simp_all) ?_
    refine WR.move rfl rfl ?_
    refine WR.take rfl rfl (by first | rfl | assumption | simp_all) ?_
    refine WR.bin rfl rfl rfl rfl ?_
    refine WR.pickF rfl (by first | rfl | assumption | simp_all) rfl rfl ?_
    refine WR.move rfl rfl ?_
    refine WR.take rfl rfl (by first | rfl | assumption | simp_all) ?_
    refine WR.move rfl rfl ?_
    refine WR.take rfl rfl (by first | rfl | assumption | simp_all) ?_
    refine WR.move rfl rfl ?_
    refine WR.take rfl rfl (by first | rfl | assumption | simp_all) ?_
    refine WR.callF rfl rfl cf6 rfl rfl (most k hk) ?_
    rintro _ w6 ⟨rfl, hs⟩
    replace hS := hS.trans hs (by simp <;> omega)
    replace hg := hg.same hs (by simp <;> omega)
    replace tb := tb.same hs (by simp <;> omega)
    replace hz := hz.same hs (by simp <;> omega)
    replace hd := (fun h9 => (hd h9).same hs (by simp <;> omega))
    (try replace hA := hA.same hs (by simp <;> omega))
    (try replace hu := hu.same hs (by simp <;> omega))
    (try replace hall := hall.same hs (by simp <;> omega))
    (try replace hw := hw.same hs (by simp <;> omega))
    refine WR.take rfl rfl (by first | rfl | assumption | simp_all) ?_
    refine WR.bin rfl rfl rfl rfl ?_
    refine WR.pickF rfl (by first | rfl | assumption | simp_all) rfl rfl ?_
    refine WR.move rfl rfl ?_
    refine WR.take rfl rfl (by first | rfl | assumption | simp_all) ?_
    refine WR.move rfl rfl ?_
    refine WR.take rfl rfl (by first | rfl | assumption | simp_all) ?_
    refine WR.callF rfl rfl cf6 rfl rfl (most k hk) ?_
    rintro _ w7 ⟨rfl, hs⟩
    replace hS := hS.trans hs (by simp <;> omega)
    replace hg := hg.same hs (by simp <;> omega)
    replace tb := tb.same hs (by simp <;> omega)
    replace hz := hz.same hs (by simp <;> omega)
    replace hd := (fun h9 => (hd h9).same hs (by simp <;> omega))
    (try replace hA := hA.same hs (by simp <;> omega))
    (try replace hu := hu.same hs (by simp <;> omega))
    (try replace hall := hall.same hs (by simp <;> omega))
    (try replace hw := hw.same hs (by simp <;> omega))
    refine WR.take rfl rfl (by first | rfl | assumption | simp_all) ?_
    refine WR.bin rfl rfl rfl rfl ?_
    refine WR.take rfl rfl (by first | rfl | assumption | simp_all) ?_
    refine WR.move rfl rfl ?_
    refine WR.take rfl rfl (by first | rfl | assumption | simp_all) ?_
    refine WR.move rfl rfl ?_
    refine WR.take rfl rfl (by first | rfl | assumption | simp_all) ?_
    refine WR.bin rfl rfl rfl rfl ?_
    refine WR.take rfl rfl (by first | rfl | assumption | simp_all) ?_
    refine WR.pickT rfl (by first | rfl | assumption | simp_all) rfl rfl ?_
    refine WR.pickF rfl (by first | rfl | assumption | simp_all) rfl rfl ?_
    refine WR.nil ?_
    refine WN.seq ?_
    refine WC.cond rfl (fun h85 => ?_) (fun h85 => ?_)
    · skip
      rw [hc7] at h85; cases h85
    · skip
      (try simp only [decide_eq_true_eq, decide_eq_false_iff_not, beq_iff_eq, beq_eq_false_iff_ne, bne_iff_ne, bne_eq_false_iff_eq, gt_iff_lt, ge_iff_le, Int.not_lt, Int.not_le, ne_eq, Bool.not_eq_true, Bool.not_eq_false, Bool.and_eq_true, Bool.and_eq_false_iff, Bool.or_eq_true, Bool.or_eq_false_iff] at h85)
      refine WC.skip ?_
      refine WN.seq ?_
      refine WC.seq ?_
      refine WC.region ?_
      refine WR.move rfl rfl ?_
      refine WR.move rfl rfl ?_
      refine WR.move rfl rfl ?_
      refine WR.lenS rfl Tryz.underlying22 rfl ?_
      (refine WR.bin rfl rfl (ar_mul (z := ((8 * len : Nat) : Int)) ?_) rfl ?_; (rw [wrap_i64 (by omega) (by omega)]; omega))
      refine WR.move rfl rfl ?_
      refine WR.bin rfl rfl (ar_quo (z := ((N : Nat) : Int)) (by omega) (by rw [hN]; exact Sp.quo_nat (by omega))) rfl ?_
      refine WR.callF rfl rfl cf7 rfl rfl (unpackBits db dO len cap W N d (hd hlen) hW1 (by omega) hlen hN hg.size) ?_
      rintro _ w8 ⟨bM, rfl, hall, hs⟩
      replace hall := hall.lu
      replace hS := hS.trans hs (by simp <;> omega)
      replace hg := hg.same hs (by simp <;> omega)
      replace tb := tb.same hs (by simp <;> omega)
      replace hz := hz.same hs (by simp <;> omega)
      replace hd := (fun h9 => (hd h9).same hs (by simp <;> omega))
      (try replace hA := hA.same hs (by simp <;> omega))
      (try replace hu := hu.same hs (by simp <;> omega))
      (try replace hw := hw.same hs (by simp <;> omega))
      refine WR.move rfl rfl ?_
      refine WR.extract rfl rfl rfl ?_
      refine WR.extract rfl rfl rfl ?_
      refine WR.assign rfl rfl ?_
      refine WR.assign rfl rfl ?_
      refine WR.nil ?_
      refine WN.seq ?_
      refine WC.seq ?_
      refine WC.region ?_
      refine WR.move rfl rfl ?_
      refine WR.move rfl rfl ?_
      refine WR.callF rfl rfl cf8 rfl rfl (batched ((List.range N).map fun q => bts (num d len) (W * q) W) zs _ Az N N m cz lz _ rfl hall (by rw [u64s_length]; simp) (Nat.le_refl _) (by omega) hz (by have := hS.size; omega) hm0 hzr (by omega)) ?_
      rintro _ w9 ⟨uw, bw, rfl, hbw, hs⟩
      replace hS := hS.trans hs (by simp <;> omega)
      replace hg := hg.same hs (by simp <;> omega)
      replace tb := tb.same hs (by simp <;> omega)
      replace hz := hz.same hs (by simp <;> omega)
      replace hd := (fun h9 => (hd h9).same hs (by simp <;> omega))
      (try replace hA := hA.same hs (by simp <;> omega))
      (try replace hu := hu.same hs (by simp <;> omega))
      (try replace hall := hall.same hs (by simp <;> omega))
      (try replace hw := hw.same hs (by simp <;> omega))
      refine WR.move rfl rfl ?_
      refine WR.extract rfl rfl rfl ?_
      refine WR.extract rfl rfl rfl ?_
      refine WR.assign rfl rfl ?_
      refine WR.assign rfl rfl ?_
      refine WR.nil ?_
      refine WN.seq ?_
      refine WC.seq ?_
      refine WC.seq ?_
      refine WC.region ?_
      refine WR.move rfl rfl ?_
      refine WR.notOp rfl rfl ?_
      refine WR.nil ?_
      refine WN.seq ?_
      refine WC.cond rfl (fun h90 => ?_) (fun h90 => ?_)
      · skip
        (try simp only [decide_eq_true_eq, decide_eq_false_iff_not, beq_iff_eq, beq_eq_false_iff_ne, bne_iff_ne, bne_eq_false_iff_eq, gt_iff_lt, ge_iff_le, Int.not_lt, Int.not_le, ne_eq, Bool.not_eq_true, Bool.not_eq_false, Bool.and_eq_true, Bool.and_eq_false_iff, Bool.or_eq_true, Bool.or_eq_false_iff] at h90)
        refine WC.seq ?_
        refine WC.region ?_
        refine WR.move rfl rfl ?_
        refine WR.assign rfl rfl ?_
        refine WR.nil ?_
        refine WN.seq ?_
        refine WC.retR rfl rfl ?_
        exact ⟨rfl, hS⟩
      · skip
        (try simp only [decide_eq_true_eq, decide_eq_false_iff_not, beq_iff_eq, beq_eq_false_iff_ne, bne_iff_ne, bne_eq_false_iff_eq, gt_iff_lt, ge_iff_le, Int.not_lt, Int.not_le, ne_eq, Bool.not_eq_true, Bool.not_eq_false, Bool.and_eq_true, Bool.and_eq_false_iff, Bool.or_eq_true, Bool.or_eq_false_iff] at h90)
        obtain ⟨hm50, htp, hO⟩ := hbw (by simpa using h90)
        have hw := hO.ls
        rw [tout_congr (V' := fun q => bts (num d len) (W * q) W) (fun q hq => by
          have : q < N := by omega
          simp [this])] at hw
        obtain ⟨Aw, cw, rfl⟩ := hw.shape
        refine WC.skip ?_
        refine WN.seq ?_
        refine WC.seq ?_
        refine WC.region ?_
        refine WR.move rfl rfl ?_
        refine WR.move rfl rfl ?_
        refine WR.move rfl rfl ?_
        refine WR.move rfl rfl ?_
        refine WR.callF rfl rfl cf4 rfl rfl (unpackedBatch hg tb db dO len cap W k m cz lz zs Az d (hd hlen) hlen hk hW1 hW2 (by omega) hz (by have := hS.size; omega) hm0 hm50 (Nat.le_trans (Nat.mul_le_mul_left W htp) hNW)) ?_
        rintro _ w10 ⟨u, rfl, hu, hs⟩
        obtain ⟨Au, cu, rfl⟩ := hu.shape
        replace hS := hS.trans hs (by simp <;> omega)
        replace hg := hg.same hs (by simp <;> omega)
        replace tb := tb.same hs (by simp <;> omega)
        replace hz := hz.same hs (by simp <;> omega)
        replace hd := (fun h9 => (hd h9).same hs (by simp <;> omega))
        (try replace hA := hA.same hs (by simp <;> omega))
        (try replace hall := hall.same hs (by simp <;> omega))
        (try replace hw := hw.same hs (by simp <;> omega))
        refine WR.move rfl rfl ?_
        refine WR.extract rfl rfl rfl ?_
        refine WR.extract rfl rfl rfl ?_
        refine WR.assign rfl rfl ?_
        refine WR.assign rfl rfl ?_
        refine WR.nil ?_
        refine WN.seq ?_
        refine WC.seq ?_
        refine WC.region ?_
        refine WR.move rfl rfl ?_
        refine WR.move rfl rfl ?_
        refine WR.take rfl rfl (by first | rfl | assumption | simp_all) ?_
        refine WR.move rfl rfl ?_
        refine WR.take rfl rfl (by first | rfl | assumption | simp_all) ?_
        refine WR.move rfl rfl ?_
        refine WR.take rfl rfl (by first | rfl | assumption | simp_all) ?_
        refine WR.callF rfl rfl cf5 rfl rfl (sameNumbers _ _ _ _ _ _ _ _ hu hw rfl (by rw [u64s_length]; have := tout_length (fun q => bts (num d len) (W * q) W) (fun i => zs.getD i 0) m; omega)) ?_
        rintro _ w11 ⟨rfl, hs⟩
        replace hS := hS.trans hs (by simp <;> omega)
        replace hg := hg.same hs (by simp <;> omega)
        replace tb := tb.same hs (by simp <;> omega)
        replace hz := hz.same hs (by simp <;> omega)
        replace hd := (fun h9 => (hd h9).same hs (by simp <;> omega))
        (try replace hA := hA.same hs (by simp <;> omega))
        (try replace hu := hu.same hs (by simp <;> omega))
        (try replace hall := hall.same hs (by simp <;> omega))
        (try replace hw := hw.same hs (by simp <;> omega))
        refine WR.pickT rfl (by first | rfl | assumption | simp_all) rfl rfl ?_
        refine WR.move rfl rfl ?_
        refine WR.take rfl rfl (by first | rfl | assumption | simp_all) ?_
        refine WR.move rfl rfl ?_
        refine WR.pickT rfl (by first | rfl | assumption | simp_all) rfl rfl ?_
        refine WR.assign rfl rfl ?_
        refine WR.nil ?_
        refine WN.seq ?_
        refine WC.retR rfl rfl ?_
        exact ⟨rfl, hS⟩

set_option maxHeartbeats 400000 in
theorem lawH {w : World} {aE aU aP : Addr} (hg : Glob w aE aU aP) (tb : Tab w) (db dO len cap m cz lz : Nat) (W : Nat) (k : Nat) (zs : List Int) (Az : Option Addr) (d : Nat → Nat) (hd : len ≤ 4096 → Src2 w 0 db dO len cap d) (hz : Lu w lz (.slice Az m cz) (i64s zs)) (hlz : lz ≤ w.heap.size) (hm0 : m = (i64s zs).length) (hzr : ∀ i, -9223372036854775808 ≤ zs.getD i 0 ∧ zs.getD i 0 ≤ 9223372036854775807) (hlen : len ≤ 4096) (hk : k < 6) (hW1 : 1 ≤ W) (hW2 : W ≤ mostV k) (hm1 : mostV k ≠ 1) :
    Ret Tryz.prog 3 #[.slice (ad db dO) len cap, .int .i64 (W : Nat), .int .i64 (k : Nat), .slice Az m cz] w fun v w' => v = .bool true ∧ Same [] w w' := by
  have hS := Same.refl [] w
  have hgs := hg.size
  have hc0 : decide ((len : Int) > 2147483647) = false := by simp; omega
  have hc1 : decide ((len : Int) > 4096) = false := by first | (simp; omega) | simp
  have hc2 : decide (((k : Nat) : Int) < 0) = false := by first | (simp; omega) | simp
  have hc3 : decide (((k : Nat) : Int) > 5) = false := by first | (simp; omega) | simp
  have hc4 : decide (((W : Nat) : Int) < 1) = false := by first | (simp; omega) | simp
  have hc5 : decide (((W : Nat) : Int) > ((mostV k : Nat) : Int)) = false := by first | (simp; omega) | simp
  obtain ⟨N, hN⟩ : ∃ N, N = 8 * len / W := ⟨_, rfl⟩
  have hN8 : N ≤ 8 * len := by rw [hN]; exact Nat.div_le_self _ _
  have hNW : W * N ≤ 8 * len := by rw [hN]; exact Nat.mul_div_le _ _
  have hm64 : mostV k ≤ 64 := by rcases (show k = 0 ∨ k = 1 ∨ k = 2 ∨ k = 3 ∨ k = 4 ∨ k = 5 by omega) with rfl | rfl | rfl | rfl | rfl | rfl <;> decide
  have hc6 : (((mostV k : Nat) : Int) == 1) = false := by first | (simp; omega) | simp
  refine Ret.enter (vs := [.slice (ad db dO) len cap, .int .i64 (W : Nat), .int .i64 (k : Nat), .slice Az m cz]) Tryz.func3 Tryz.ntmps3 rfl rfl ?_
  refine WC.seq ?_
  refine WC.region ?_
  refine WR.assign rfl rfl ?_
  refine WR.nil ?_
  refine WN.seq ?_
  refine WC.seq ?_
  refine WC.seq ?_
  refine WC.region ?_
  refine WR.move rfl rfl ?_
  refine WR.lenS rfl Tryz.underlying22 rfl ?_
  refine WR.bin rfl rfl rfl rfl ?_
  refine WR.move rfl rfl ?_
  refine WR.take rfl rfl (by first | rfl | assumption | simp_all) ?_
  refine WR.move rfl rfl ?_
  refine WR.take rfl rfl (by first | rfl | assumption | simp_all) ?_
  refine WR.lenS rfl Tryz.underlying23 rfl ?_
  refine WR.take rfl rfl (by first | rfl | assumption | simp_all) ?_
  refine WR.bin rfl rfl rfl rfl ?_
  refine WR.pickF rfl (by first | rfl | assumption | simp_all) rfl rfl ?_
  refine WR.nil ?_
  refine WN.seq ?_
  refine WC.cond rfl (fun h80 => ?_) (fun h80 => ?_)
  · skip
    (try simp only [decide_eq_true_eq, decide_eq_false_iff_not, beq_iff_eq, beq_eq_false_iff_ne, bne_iff_ne, bne_eq_false_iff_eq, gt_iff_lt, ge_iff_le, Int.not_lt, Int.not_le, ne_eq, Bool.not_eq_true, Bool.not_eq_false, Bool.and_eq_true, Bool.and_eq_false_iff, Bool.or_eq_true, Bool.or_eq_false_iff] at h80)
    refine WC.seq ?_
    refine WC.region ?_
    refine WR.assign rfl rfl ?_
    refine WR.nil ?_
    refine WN.seq ?_
    refine WC.retR rfl rfl ?_
    exact ⟨rfl, hS⟩
  · skip
    (try simp only [decide_eq_true_eq, decide_eq_false_iff_not, beq_iff_eq, beq_eq_false_iff_ne, bne_iff_ne, bne_eq_false_iff_eq, gt_iff_lt, ge_iff_le, Int.not_lt, Int.not_le, ne_eq, Bool.not_eq_true, Bool.not_eq_false, Bool.and_eq_true, Bool.and_eq_false_iff, Bool.or_eq_true, Bool.or_eq_false_iff] at h80)
    refine WC.skip ?_
    refine WN.seq ?_
    refine WC.seq ?_
    refine WC.region ?_
    obtain ⟨bA, hbA⟩ : ∃ x, x = w.heap.size := ⟨_, rfl⟩
    refine WR.buildSl (E := 5) (cs := #[.int .u8 5]) rfl rfl (fun w => by kernel_rfl) rfl rfl ?_
    rw [← hbA]
    intro w1 hA hs
    replace hS := hS.trans hs (by simp <;> omega)
    replace hg := hg.same hs (by simp <;> omega)
    replace tb := tb.same hs (by simp <;> omega)
    replace hz := hz.same hs (by simp <;> omega)
    replace hd := (fun h9 => (hd h9).same hs (by simp <;> omega))
    (try replace hu := hu.same hs (by simp <;> omega))
    (try replace hall := hall.same hs (by simp <;> omega))
    (try replace hw := hw.same hs (by simp <;> omega))
    clear hs
    obtain ⟨bB, hbB⟩ : ∃ x, x = w1.heap.size := ⟨_, rfl⟩
    refine WR.buildSl (E := 3) (cs := #[.int .i64 2]) rfl rfl (fun w => by kernel_rfl) rfl rfl ?_
    rw [← hbB]
    intro w2 hB hs
    replace hS := hS.trans hs (by simp <;> omega)
    replace hg := hg.same hs (by simp <;> omega)
    replace tb := tb.same hs (by simp <;> omega)
    replace hz := hz.same hs (by simp <;> omega)
    replace hd := (fun h9 => (hd h9).same hs (by simp <;> omega))
    (try replace hA := hA.same hs (by simp <;> omega))
    (try replace hu := hu.same hs (by simp <;> omega))
    (try replace hall := hall.same hs (by simp <;> omega))
    (try replace hw := hw.same hs (by simp <;> omega))
    clear hs
    refine WR.callF rfl rfl cf4 rfl rfl (unpackedBatch hg tb bA 1 1 1 4 0 1 1 (bB + 1) [2] _ (fun _ => 5) (src_five hA) (by decide) (by decide) (by decide) (by decide) (by decide) (lu_two hB) hB.lt rfl (by decide) (by decide)) ?_
    rintro _ w3 ⟨u, rfl, hu, hs⟩
    rw [awake_list] at hu
    obtain ⟨Au, cu, rfl⟩ := hu.shape
    clear hA hB
    replace hS := hS.trans hs (by simp <;> omega)
    replace hg := hg.same hs (by simp <;> omega)
    replace tb := tb.same hs (by simp <;> omega)
    replace hz := hz.same hs (by simp <;> omega)
    replace hd := (fun h9 => (hd h9).same hs (by simp <;> omega))
    (try replace hA := hA.same hs (by simp <;> omega))
    (try replace hall := hall.same hs (by simp <;> omega))
    (try replace hw := hw.same hs (by simp <;> omega))
    refine WR.move rfl rfl ?_
    refine WR.extract rfl rfl rfl ?_
    refine WR.extract rfl rfl rfl ?_
    refine WR.assign rfl rfl ?_
    refine WR.assign rfl rfl ?_
    refine WR.nil ?_
    refine WN.seq ?_
    refine WC.seq ?_
    refine WC.region ?_
    refine WR.move rfl rfl ?_
    refine WR.move rfl rfl ?_
    refine WR.take rfl rfl (by first | rfl | assumption | simp_all) ?_
    refine WR.move rfl rfl ?_
    refine WR.take rfl rfl (by first | rfl | assumption | simp_all) ?_
    obtain ⟨bC, hbC⟩ : ∃ x, x = w3.heap.size := ⟨_, rfl⟩
    refine WR.buildSl (E := 28) (cs := #[.int .u64 5, .int .u64 0]) rfl rfl (fun w => by kernel_rfl) rfl rfl ?_
    rw [← hbC]
    intro w4 hC hs
    replace hS := hS.trans hs (by simp <;> omega)
    replace hg := hg.same hs (by simp <;> omega)
    replace tb := tb.same hs (by simp <;> omega)
    replace hz := hz.same hs (by simp <;> omega)
    replace hd := (fun h9 => (hd h9).same hs (by simp <;> omega))
    (try replace hA := hA.same hs (by simp <;> omega))
    (try replace hu := hu.same hs (by simp <;> omega))
    (try replace hall := hall.same hs (by simp <;> omega))
    (try replace hw := hw.same hs (by simp <;> omega))
    clear hs
    refine WR.take rfl rfl (by first | rfl | assumption | simp_all) ?_
    refine WR.callF rfl rfl cf5 rfl rfl (sameNumbers [5, 0] _ _ 2 _ _ _ _ hu (ls_awake hC) rfl (by decide)) ?_
    rintro _ w5 ⟨rfl, hs⟩
    clear hu hC
    replace hS := hS.trans hs (by simp <;> omega)
    replace hg := hg.same hs (by simp <;> omega)
    replace tb := tb.same hs (by simp <;> omega)
    replace hz := hz.same hs (by simp <;> omega)
    replace hd := (fun h9 => (hd h9).same hs (by simp <;> omega))
    (try replace hA := hA.same hs (by simp <;> omega))
    (try replace hu := hu.same hs (by simp <;> omega))
    (try replace hall := hall.same hs (by simp <;> omega))
    (try replace hw := hw.same hs (by simp <;> omega))
    refine WR.pickT rfl (by first | rfl | assumption | simp_all) rfl rfl ?_
    refine WR.assign rfl rfl ?_
    refine WR.nil ?_
    refine WN.seq ?_
    refine WC.seq ?_
    refine WC.seq ?_
    refine WC.region ?_
    refine WR.move rfl rfl ?_
    refine WR.lenS rfl Tryz.underlying22 rfl ?_
    refine WR.bin rfl rfl rfl rfl ?_
    refine WR.move rfl rfl ?_
    refine WR.take rfl rfl (by first | rfl | assumption | simp_all) ?_
    refine WR.move rfl rfl ?_
    refine WR.take rfl rfl (by first | rfl | assumption | simp_all) ?_
    refine WR.bin rfl rfl rfl rfl ?_
    refine WR.pickF rfl (by first | rfl | assumption | simp_all) rfl rfl ?_
    refine WR.move rfl rfl ?_
    refine WR.take rfl rfl (by first | rfl | assumption | simp_all) ?_
    refine WR.move rfl rfl ?_
    refine WR.take rfl rfl (by first | rfl | assumption | simp_all) ?_
    refine WR.bin rfl rfl rfl rfl ?_
    refine WR.pickF rfl (by first | rfl | assumption | simp_all) rfl rfl ?_
    refine WR.move rfl rfl ?_
    refine WR.take rfl rfl (by first | rfl | assumption | simp_all) ?_
    refine WR.move rfl rfl ?_
    refine WR.take rfl rfl (by first | rfl | assumption | simp_all) ?_
    refine WR.bin rfl rfl rfl rfl ?_
    refine WR.pickF rfl (by first | rfl | assumption | simp_all) rfl rfl ?_
    refine WR.move rfl rfl ?_
    refine WR.take rfl rfl (by first | rfl | assumption | simp_all) ?_
    refine WR.move rfl rfl ?_
    refine WR.take rfl rfl (by first | rfl | assumption | simp_all) ?_
    refine WR.move rfl rfl ?_
    refine WR.take rfl rfl (by first | rfl | assumption | simp_all) ?_
    refine WR.callF rfl rfl cf6 rfl rfl (most k hk) ?_
    rintro _ w6 ⟨rfl, hs⟩
    replace hS := hS.trans hs (by simp <;> omega)
    replace hg := hg.same hs (by simp <;> omega)
    replace tb := tb.same hs (by simp <;> omega)
    replace hz := hz.same hs (by simp <;> omega)
    replace hd := (fun h9 => (hd h9).same hs (by simp <;> omega))
    (try replace hA := hA.same hs (by simp <;> omega))
    (try replace hu := hu.same hs (by simp <;> omega))
    (try replace hall := hall.same hs (by simp <;> omega))
    (try replace hw := hw.same hs (by simp <;> omega))
    refine WR.take rfl rfl (by first | rfl | assumption | simp_all) ?_
    refine WR.bin rfl rfl rfl rfl ?_
    refine WR.pickF rfl (by first | rfl | assumption | simp_all) rfl rfl ?_
    refine WR.move rfl rfl ?_
    refine WR.take rfl rfl (by first | rfl | assumption | simp_all) ?_
    refine WR.move rfl rfl ?_
    refine WR.take rfl rfl (by first | rfl | assumption | simp_all) ?_
    refine WR.callF rfl rfl cf6 rfl rfl (most k hk) ?_
    rintro _ w7 ⟨rfl, hs⟩
    replace hS := hS.trans hs (by simp <;> omega)
    replace hg := hg.same hs (by simp <;> omega)
    replace tb := tb.same hs (by simp <;> omega)
    replace hz := hz.same hs (by simp <;> omega)
    replace hd := (fun h9 => (hd h9).same hs (by simp <;> omega))
    (try replace hA := hA.same hs (by simp <;> omega))
    (try replace hu := hu.same hs (by simp <;> omega))
    (try replace hall := hall.same hs (by simp <;> omega))
    (try replace hw := hw.same hs (by simp <;> omega))
    refine WR.take rfl rfl (by first | rfl | assumption | simp_all) ?_
    refine WR.bin rfl rfl rfl rfl ?_
    refine WR.take rfl rfl (by first | rfl | assumption | simp_all) ?_
    refine WR.move rfl rfl ?_
    refine WR.pass rfl rfl rfl (by first | rfl | assumption | simp_all) ?_
    refine WR.pass rfl rfl rfl (by first | rfl | assumption | simp_all) ?_
    refine WR.take rfl rfl (by first | rfl | assumption | simp_all) ?_
    refine WR.pickF rfl (by first | rfl | assumption | simp_all) rfl rfl ?_
    refine WR.pickF rfl (by first | rfl | assumption | simp_all) rfl rfl ?_
    refine WR.nil ?_
    refine WN.seq ?_
    refine WC.cond rfl (fun h85 => ?_) (fun h85 => ?_)
    · skip
      first | (exact absurd h85 (by simp)) | (simp at h85; omega)
    · skip
      (try simp only [decide_eq_true_eq, decide_eq_false_iff_not, beq_iff_eq, beq_eq_false_iff_ne, bne_iff_ne, bne_eq_false_iff_eq, gt_iff_lt, ge_iff_le, Int.not_lt, Int.not_le, ne_eq, Bool.not_eq_true, Bool.not_eq_false, Bool.and_eq_true, Bool.and_eq_false_iff, Bool.or_eq_true, Bool.or_eq_false_iff] at h85)
      refine WC.skip ?_
      refine WN.seq ?_
      refine WC.seq ?_
      refine WC.region ?_
      refine WR.move rfl rfl ?_
      refine WR.move rfl rfl ?_
      refine WR.move rfl rfl ?_
      refine WR.lenS rfl Tryz.underlying22 rfl ?_
      (refine WR.bin rfl rfl (ar_mul (z := ((8 * len : Nat) : Int)) ?_) rfl ?_; (rw [wrap_i64 (by omega) (by omega)]; omega))
      refine WR.move rfl rfl ?_
      refine WR.bin rfl rfl (ar_quo (z := ((N : Nat) : Int)) (by omega) (by rw [hN]; exact Sp.quo_nat (by omega))) rfl ?_
      refine WR.callF rfl rfl cf7 rfl rfl (unpackBits db dO len cap W N d (hd hlen) hW1 (by omega) hlen hN hg.size) ?_
      rintro _ w8 ⟨bM, rfl, hall, hs⟩
      replace hall := hall.lu
      replace hS := hS.trans hs (by simp <;> omega)
      replace hg := hg.same hs (by simp <;> omega)
      replace tb := tb.same hs (by simp <;> omega)
      replace hz := hz.same hs (by simp <;> omega)
      replace hd := (fun h9 => (hd h9).same hs (by simp <;> omega))
      (try replace hA := hA.same hs (by simp <;> omega))
      (try replace hu := hu.same hs (by simp <;> omega))
      (try replace hw := hw.same hs (by simp <;> omega))
      refine WR.move rfl rfl ?_
      refine WR.extract rfl rfl rfl ?_
      refine WR.extract rfl rfl rfl ?_
      refine WR.assign rfl rfl ?_
      refine WR.assign rfl rfl ?_
      refine WR.nil ?_
      refine WN.seq ?_
      refine WC.seq ?_
      refine WC.region ?_
      refine WR.move rfl rfl ?_
      refine WR.move rfl rfl ?_
      refine WR.callF rfl rfl cf8 rfl rfl (batched ((List.range N).map fun q => bts (num d len) (W * q) W) zs _ Az N N m cz lz _ rfl hall (by rw [u64s_length]; simp) (Nat.le_refl _) (by omega) hz (by have := hS.size; omega) hm0 hzr (by omega)) ?_
      rintro _ w9 ⟨uw, bw, rfl, hbw, hs⟩
      replace hS := hS.trans hs (by simp <;> omega)
      replace hg := hg.same hs (by simp <;> omega)
      replace tb := tb.same hs (by simp <;> omega)
      replace hz := hz.same hs (by simp <;> omega)
      replace hd := (fun h9 => (hd h9).same hs (by simp <;> omega))
      (try replace hA := hA.same hs (by simp <;> omega))
      (try replace hu := hu.same hs (by simp <;> omega))
      (try replace hall := hall.same hs (by simp <;> omega))
      (try replace hw := hw.same hs (by simp <;> omega))
      refine WR.move rfl rfl ?_
      refine WR.extract rfl rfl rfl ?_
      refine WR.extract rfl rfl rfl ?_
      refine WR.assign rfl rfl ?_
      refine WR.assign rfl rfl ?_
      refine WR.nil ?_
      refine WN.seq ?_
      refine WC.seq ?_
      refine WC.seq ?_
      refine WC.region ?_
      refine WR.move rfl rfl ?_
      refine WR.notOp rfl rfl ?_
      refine WR.nil ?_
      refine WN.seq ?_
      refine WC.cond rfl (fun h90 => ?_) (fun h90 => ?_)
      · skip
        (try simp only [decide_eq_true_eq, decide_eq_false_iff_not, beq_iff_eq, beq_eq_false_iff_ne, bne_iff_ne, bne_eq_false_iff_eq, gt_iff_lt, ge_iff_le, Int.not_lt, Int.not_le, ne_eq, Bool.not_eq_true, Bool.not_eq_false, Bool.and_eq_true, Bool.and_eq_false_iff, Bool.or_eq_true, Bool.or_eq_false_iff] at h90)
        refine WC.seq ?_
        refine WC.region ?_
        refine WR.move rfl rfl ?_
        refine WR.assign rfl rfl ?_
        refine WR.nil ?_
        refine WN.seq ?_
        refine WC.retR rfl rfl ?_
        exact ⟨rfl, hS⟩
      · skip
        (try simp only [decide_eq_true_eq, decide_eq_false_iff_not, beq_iff_eq, beq_eq_false_iff_ne, bne_iff_ne, bne_eq_false_iff_eq, gt_iff_lt, ge_iff_le, Int.not_lt, Int.not_le, ne_eq, Bool.not_eq_true, Bool.not_eq_false, Bool.and_eq_true, Bool.and_eq_false_iff, Bool.or_eq_true, Bool.or_eq_false_iff] at h90)
        obtain ⟨hm50, htp, hO⟩ := hbw (by simpa using h90)
        have hw := hO.ls
        rw [tout_congr (V' := fun q => bts (num d len) (W * q) W) (fun q hq => by
          have : q < N := by omega
          simp [this])] at hw
        obtain ⟨Aw, cw, rfl⟩ := hw.shape
        refine WC.skip ?_
        refine WN.seq ?_
        refine WC.seq ?_
        refine WC.region ?_
        refine WR.move rfl rfl ?_
        refine WR.move rfl rfl ?_
        refine WR.move rfl rfl ?_
        refine WR.move rfl rfl ?_
        refine WR.callF rfl rfl cf4 rfl rfl (unpackedBatch hg tb db dO len cap W k m cz lz zs Az d (hd hlen) hlen hk hW1 hW2 (by omega) hz (by have := hS.size; omega) hm0 hm50 (Nat.le_trans (Nat.mul_le_mul_left W htp) hNW)) ?_
        rintro _ w10 ⟨u, rfl, hu, hs⟩
        obtain ⟨Au, cu, rfl⟩ := hu.shape
        replace hS := hS.trans hs (by simp <;> omega)
        replace hg := hg.same hs (by simp <;> omega)
        replace tb := tb.same hs (by simp <;> omega)
        replace hz := hz.same hs (by simp <;> omega)
        replace hd := (fun h9 => (hd h9).same hs (by simp <;> omega))
        (try replace hA := hA.same hs (by simp <;> omega))
        (try replace hall := hall.same hs (by simp <;> omega))
        (try replace hw := hw.same hs (by simp <;> omega))
        refine WR.move rfl rfl ?_
        refine WR.extract rfl rfl rfl ?_
        refine WR.extract rfl rfl rfl ?_
        refine WR.assign rfl rfl ?_
        refine WR.assign rfl rfl ?_
        refine WR.nil ?_
        refine WN.seq ?_
        refine WC.seq ?_
        refine WC.region ?_
        refine WR.move rfl rfl ?_
        refine WR.move rfl rfl ?_
        refine WR.take rfl rfl (by first | rfl | assumption | simp_all) ?_
        refine WR.move rfl rfl ?_
        refine WR.take rfl rfl (by first | rfl | assumption | simp_all) ?_
        refine WR.move rfl rfl ?_
        refine WR.take rfl rfl (by first | rfl | assumption | simp_all) ?_
        refine WR.callF rfl rfl cf5 rfl rfl (sameNumbers _ _ _ _ _ _ _ _ hu hw rfl (by rw [u64s_length]; have := tout_length (fun q => bts (num d len) (W * q) W) (fun i => zs.getD i 0) m; omega)) ?_
        rintro _ w11 ⟨rfl, hs⟩
        replace hS := hS.trans hs (by simp <;> omega)
        replace hg := hg.same hs (by simp <;> omega)
        replace tb := tb.same hs (by simp <;> omega)
        replace hz := hz.same hs (by simp <;> omega)
        replace hd := (fun h9 => (hd h9).same hs (by simp <;> omega))
        (try replace hA := hA.same hs (by simp <;> omega))
        (try replace hu := hu.same hs (by simp <;> omega))
        (try replace hall := hall.same hs (by simp <;> omega))
        (try replace hw := hw.same hs (by simp <;> omega))
        refine WR.pickT rfl (by first | rfl | assumption | simp_all) rfl rfl ?_
        refine WR.move rfl rfl ?_
        refine WR.take rfl rfl (by first | rfl | assumption | simp_all) ?_
        refine WR.move rfl rfl ?_
        refine WR.pickT rfl (by first | rfl | assumption | simp_all) rfl rfl ?_
        refine WR.assign rfl rfl ?_
        refine WR.nil ?_
        refine WN.seq ?_
        refine WC.retR rfl rfl ?_
        exact ⟨rfl, hS⟩

end Go.Proofs.YtajgdpiodpoooaaGreatDoor.Vm
