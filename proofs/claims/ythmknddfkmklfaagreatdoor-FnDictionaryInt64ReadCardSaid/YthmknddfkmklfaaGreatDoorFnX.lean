/- Values of runs are left out. -/
import Derived.Test.YthmknddfkmklfaaGreatDoorFnW
namespace Go.Proofs.YthmknddfkmklfaaGreatDoor.Vm
open Go Mix Go.RowKit Num
set_option maxRecDepth 20000
set_option linter.unusedSimpArgs false
theorem cf56 (us : Array Value) (w : World) : (callFunc 56 us).run Tryz.prog w = .ok (.enter 56 us) w := by kernel_rfl
theorem cf57 (us : Array Value) (w : World) : (callFunc 57 us).run Tryz.prog w = .ok (.enter 57 us) w := by kernel_rfl
set_option maxHeartbeats 400000 in
theorem rleDiscard {w : World} {aE aU aP : Addr} (hg : Glob w aE aU aP) (bR T b : Nat) (rb : RB) (db dO len cap W n : Nat) (d : Nat → Nat) (rest : List Nat) (hSt : St w bR T b rb db dO len cap d W rest) (hn : n ≤ rest.length) (hn2 : n ≤ 1048576) (hW1 : 1 ≤ W) (hW2 : W ≤ 20) (hgb : 6 ≤ b) (hgR : 6 ≤ bR) (hgrb : 6 ≤ rb.blk) (hne : b ≠ rb.blk) (hnd : b ≠ db) (hrd : rb.blk ≠ db) (hx1 : bR ≠ b) (hx2 : bR ≠ rb.blk) (hx3 : bR ≠ db) :
    Ret Tryz.prog 49 #[.pointer (some ⟨bR, 0, none⟩), .int .i64 (n : Nat)] w fun v w' => v = .int .i64 (n : Nat) ∧ St w' bR T b rb db dO len cap d W (rest.drop n) ∧ Same [bR, b, rb.blk] w w' := by
  have hS := Same.refl [bR, b, rb.blk] w
  obtain ⟨cur, rep, lit, pos, hR, ha, hD, hb1, hb2, hb3⟩ := hSt
  refine Ret.enter (vs := [.pointer (some ⟨bR, 0, none⟩), .int .i64 (n : Nat)]) Tryz.func49 Tryz.ntmps49 rfl rfl ?_
  refine WC.seq (WC.region ?_)
  refine WR.assign rfl rfl ?_
  refine WR.nil (WN.seq ?_)
  refine WC.seq (WC.region ?_)
  refine WR.assign rfl rfl ?_
  refine WR.nil (WN.seq ?_)
  refine WC.seq (WC.block ?_)
  refine WC.loop (fun i : Nat => [(0, .pointer (some ⟨bR, 0, none⟩)), (1, .int .i64 (n : Nat)), (5, .int .i64 (i : Nat))]) (fun k i w' => i ≤ n ∧ Glob w' aE aU aP ∧ Same [bR, b, rb.blk] w w' ∧ ∃ cur rep lit pos : Nat, RL w' bR T b (W : Nat) cur rep lit ∧ At w' b rb db dO len cap d pos ∧ Rl.DS W d len pos cur rep lit (rest.drop i) ∧ (rep ≤ 1048576 ∧ lit ≤ 1048576 ∧ cur < 1048576) ∧ k = 2 * (n - i) + (if rep + lit = 0 then 1 else 0)) (2 * n + (if rep + lit = 0 then 1 else 0)) 0 ⟨rfl, rfl, rfl, trivial⟩ ⟨by omega, hg, hS, cur, rep, lit, pos, hR, ha, hD, ⟨hb1, hb2, hb3⟩, by simp⟩ ?_
  clear hg hS hR ha hD hb1 hb2 hb3
  rintro k i w1 ⟨hin, hg, hS, cur, rep, lit, pos, hR, ha, hD, ⟨hb1, hb2, hb3⟩, hk⟩
  have hdl : (rest.drop i).length = rest.length - i := List.length_drop
  rcases (show i < n ∧ 0 < rep ∨ i < n ∧ rep = 0 ∧ 0 < lit ∨ i < n ∧ rep = 0 ∧ lit = 0 ∨ i = n by omega) with ⟨hi, h0⟩ | ⟨hi, rfl, h0⟩ | ⟨hi, rfl, rfl⟩ | rfl
  · skip
    obtain ⟨y, hy⟩ : ∃ y, y = min (n - i) rep := ⟨_, rfl⟩
    obtain ⟨rfl, hD2, hyl, hyv⟩ := hD.rep (k := y) (by omega) h0
    refine WC.seq (WC.seq (WC.region ?_))
    refine WR.move rfl rfl ?_
    refine WR.move rfl rfl ?_
    refine WR.bin rfl rfl rfl rfl ?_
    refine WR.nil (WN.seq ?_)
    refine WC.cond rfl (fun h179 => ?_) (fun h179 => ?_)
    · skip
      simp only [decide_eq_true_eq] at h179
      refine WC.skip (WN.seq ?_)
      refine WC.block (WC.seq (WC.region ?_))
      refine WR.move rfl rfl ?_
      refine WR.move rfl rfl ?_
      (refine WR.bin rfl rfl (ar_sub (z := ((n - i : Nat) : Int)) ?_) rfl ?_; (rw [wrap_i64 (by omega) (by omega)]; omega))
      refine WR.assign rfl rfl ?_
      refine WR.nil (WN.seq ?_)
      refine WC.seq (WC.region ?_)
      refine WR.move rfl rfl ?_
      refine WR.nilCheckP rfl rfl ?_
      refine WR.field rfl fa124_3 rfl ?_
      refine WR.load rfl Tryz.underlying21 rfl hR.c3 rfl ?_
      refine WR.bin rfl rfl rfl rfl ?_
      refine WR.nil (WN.seq ?_)
      refine WC.cond rfl (fun h182 => ?_) (fun h182 => ?_)
      · skip
        simp only [gt_iff_lt, decide_eq_true_eq] at h182
        refine WC.seq (WC.region ?_)
        refine WR.move rfl rfl ?_
        refine WR.move rfl rfl ?_
        refine WR.nilCheckP rfl rfl ?_
        refine WR.field rfl fa124_3 rfl ?_
        refine WR.load rfl Tryz.underlying21 rfl hR.c3 rfl ?_
        (refine WR.conv rfl Tryz.underlying21 Tryz.underlying3 (wrap_i64 ?_ ?_) rfl ?_; (omega); (omega))
        refine WR.min2 rfl rfl rfl ?_
        rw [show (if ((rep : Nat) : Int) < ((n - i : Nat) : Int) then ((rep : Nat) : Int) else ((n - i : Nat) : Int)) = ((y : Nat) : Int) by rw [hy]; split <;> omega]
        refine WR.assign rfl rfl ?_
        refine WR.nil (WN.seq ?_)
        refine WC.seq (WC.region ?_)
        refine WR.move rfl rfl ?_
        refine WR.nilCheckP rfl rfl ?_
        refine WR.field rfl fa124_3 rfl ?_
        refine WR.load rfl Tryz.underlying21 rfl hR.c3 rfl ?_
        refine WR.move rfl rfl ?_
        (refine WR.conv rfl Tryz.underlying3 Tryz.underlying21 (wrap_i32 ?_ ?_) rfl ?_; (omega); (omega))
        (refine WR.bin rfl rfl (ar_sub (z := ((rep - y : Nat) : Int)) ?_) rfl ?_; (rw [wrap_i32 (by omega) (by omega)]; omega))
        refine WR.nilCheckP rfl rfl ?_
        refine WR.field rfl fa124_3 rfl ?_
        refine WR.storeK rfl rfl rfl sz21 hR.c3 (hR.fz 3) ?_
        intro w2 hn hs
        replace hR := hR.s3 hn
        replace hg := hg.same hs (by simp <;> omega)
        replace ha := ha.same hs (by simp <;> omega) (by simp <;> omega) (by simp <;> omega)
        replace hS := hS.trans hs (by simp <;> omega)
        clear hn hs
        refine WR.nil (WN.seq (WC.region ?_))
        refine WR.move rfl rfl ?_
        refine WR.move rfl rfl ?_
        (refine WR.bin rfl rfl (ar_add (z := ((i + y : Nat) : Int)) ?_) rfl ?_; (rw [wrap_i64 (by omega) (by omega)]; omega))
        refine WR.assign rfl rfl ?_
        refine WR.nil (WN.block ?_)
        exact WN.loop (2 * (n - (i + y)) + (if (rep - y) + 0 = 0 then 1 else 0)) (i + y) (by rw [hk]; split <;> split <;> omega) ⟨rfl, rfl, kint rfl (by omega), trivial⟩ ⟨by omega, hg, hS, cur, (rep - y), 0, pos, hR, ha, by rw [List.drop_drop] at hD2; exact hD2, by omega, rfl⟩
      · skip
        simp only [gt_iff_lt, decide_eq_false_iff_not, Int.not_lt] at h182
        omega
    · skip
      simp only [decide_eq_false_iff_not, Int.not_lt] at h179
      omega
  · skip
    obtain ⟨y, hy⟩ : ∃ y, y = min (n - i) lit := ⟨_, rfl⟩
    obtain ⟨_, hD2, hyl, hyf, hyv⟩ := hD.lit (k := y) (by omega) h0
    refine WC.seq (WC.seq (WC.region ?_))
    refine WR.move rfl rfl ?_
    refine WR.move rfl rfl ?_
    refine WR.bin rfl rfl rfl rfl ?_
    refine WR.nil (WN.seq ?_)
    refine WC.cond rfl (fun h179 => ?_) (fun h179 => ?_)
    · skip
      simp only [decide_eq_true_eq] at h179
      refine WC.skip (WN.seq ?_)
      refine WC.block (WC.seq (WC.region ?_))
      refine WR.move rfl rfl ?_
      refine WR.move rfl rfl ?_
      (refine WR.bin rfl rfl (ar_sub (z := ((n - i : Nat) : Int)) ?_) rfl ?_; (rw [wrap_i64 (by omega) (by omega)]; omega))
      refine WR.assign rfl rfl ?_
      refine WR.nil (WN.seq ?_)
      refine WC.seq (WC.region ?_)
      refine WR.move rfl rfl ?_
      refine WR.nilCheckP rfl rfl ?_
      refine WR.field rfl fa124_3 rfl ?_
      refine WR.load rfl Tryz.underlying21 rfl hR.c3 rfl ?_
      refine WR.bin rfl rfl rfl rfl ?_
      refine WR.nil (WN.seq ?_)
      refine WC.cond rfl (fun h182 => ?_) (fun h182 => ?_)
      · skip
        simp only [gt_iff_lt, decide_eq_true_eq] at h182
        omega
      · skip
        simp only [gt_iff_lt, decide_eq_false_iff_not, Int.not_lt] at h182
        refine WC.seq (WC.region ?_)
        refine WR.move rfl rfl ?_
        refine WR.nilCheckP rfl rfl ?_
        refine WR.field rfl fa124_4 rfl ?_
        refine WR.load rfl Tryz.underlying21 rfl hR.c4 rfl ?_
        refine WR.bin rfl rfl rfl rfl ?_
        refine WR.nil (WN.seq ?_)
        refine WC.cond rfl (fun h186 => ?_) (fun h186 => ?_)
        · skip
          simp only [gt_iff_lt, decide_eq_true_eq] at h186
          refine WC.seq (WC.region ?_)
          refine WR.move rfl rfl ?_
          refine WR.move rfl rfl ?_
          refine WR.nilCheckP rfl rfl ?_
          refine WR.field rfl fa124_4 rfl ?_
          refine WR.load rfl Tryz.underlying21 rfl hR.c4 rfl ?_
          (refine WR.conv rfl Tryz.underlying21 Tryz.underlying3 (wrap_i64 ?_ ?_) rfl ?_; (omega); (omega))
          refine WR.min2 rfl rfl rfl ?_
          rw [show (if ((lit : Nat) : Int) < ((n - i : Nat) : Int) then ((lit : Nat) : Int) else ((n - i : Nat) : Int)) = ((y : Nat) : Int) by rw [hy]; split <;> omega]
          refine WR.assign rfl rfl ?_
          refine WR.nil (WN.seq (WC.seq ?_))
          refine WC.mix [] mixed (by kernel_rfl) ?_
          replace hg := hg.same (Same.drew _) (by simp <;> omega)
          replace hR := hR.same (Same.drew _) (by simp <;> omega)
          replace ha := ha.same (Same.drew _) (by simp <;> omega) (by simp <;> omega) (by simp <;> omega)
          replace hS := hS.trans (Same.drew _) (by simp <;> omega)
          refine WR.move rfl rfl ?_
          refine WR.nilCheckP rfl rfl ?_
          refine WR.field rfl fa124_0 rfl ?_
          refine WR.load rfl Tryz.underlying122 rfl hR.c0 rfl ?_
          refine WR.move rfl rfl ?_
          refine WR.nilCheckP rfl rfl ?_
          refine WR.field rfl fa124_1 rfl ?_
          refine WR.load rfl Tryz.underlying3 rfl hR.c1 rfl ?_
          (refine WR.conv rfl Tryz.underlying3 Tryz.underlying110 (wrap_u64 ?_ ?_) rfl ?_; (omega); (omega))
          refine WR.move rfl rfl ?_
          refine WR.callF rfl rfl cf57 rfl rfl (discard hg b rb db dO len cap W y pos d ha (by omega) hW1 (by omega) hyf hgb hgrb hne hnd hrd) ?_
          rintro _ w2 ⟨rfl, ha', hs⟩
          replace ha := ha'
          clear ha'
          replace hg := hg.same hs (by simp <;> omega)
          replace hR := hR.same hs (by simp <;> omega)
          replace hS := hS.trans hs (by simp <;> omega)
          refine WR.move rfl rfl ?_
          refine WR.extract rfl rfl rfl ?_
          refine WR.extract rfl rfl rfl ?_
          refine WR.assign rfl rfl ?_
          refine WR.assign rfl rfl ?_
          refine WR.nil (WN.seq ?_)
          refine WC.seq (WC.seq (WC.region ?_))
          refine WR.move rfl rfl ?_
          refine WR.move rfl rfl ?_
          refine WR.bin rfl rfl rfl rfl ?_
          refine WR.nil (WN.seq ?_)
          refine WC.cond rfl (fun h189 => ?_) (fun h189 => ?_)
          · skip
            exact absurd h189 (by simp)
          · skip
            simp only [bne_eq_false_iff_eq] at h189
            refine WC.skip (WN.seq ?_)
            refine WC.seq (WC.region ?_)
            refine WR.move rfl rfl ?_
            refine WR.nilCheckP rfl rfl ?_
            refine WR.field rfl fa124_4 rfl ?_
            refine WR.load rfl Tryz.underlying21 rfl hR.c4 rfl ?_
            refine WR.move rfl rfl ?_
            (refine WR.conv rfl Tryz.underlying3 Tryz.underlying21 (wrap_i32 ?_ ?_) rfl ?_; (omega); (omega))
            (refine WR.bin rfl rfl (ar_sub (z := ((lit - y : Nat) : Int)) ?_) rfl ?_; (rw [wrap_i32 (by omega) (by omega)]; omega))
            refine WR.nilCheckP rfl rfl ?_
            refine WR.field rfl fa124_4 rfl ?_
            refine WR.storeK rfl rfl rfl sz21 hR.c4 (hR.fz 4) ?_
            intro w3 hn hs
            replace hR := hR.s4 hn
            replace hg := hg.same hs (by simp <;> omega)
            replace ha := ha.same hs (by simp <;> omega) (by simp <;> omega) (by simp <;> omega)
            replace hS := hS.trans hs (by simp <;> omega)
            clear hn hs
            refine WR.nil (WN.seq (WC.region ?_))
            refine WR.move rfl rfl ?_
            refine WR.move rfl rfl ?_
            (refine WR.bin rfl rfl (ar_add (z := ((i + y : Nat) : Int)) ?_) rfl ?_; (rw [wrap_i64 (by omega) (by omega)]; omega))
            refine WR.assign rfl rfl ?_
            refine WR.nil (WN.block ?_)
            exact WN.loop (2 * (n - (i + y)) + (if 0 + (lit - y) = 0 then 1 else 0)) (i + y) (by rw [hk]; split <;> split <;> omega) ⟨rfl, rfl, kint rfl (by omega), trivial⟩ ⟨by omega, hg, hS, cur, 0, (lit - y), (pos + W * y), hR, ha, by rw [List.drop_drop] at hD2; exact hD2, by omega, rfl⟩
        · skip
          simp only [gt_iff_lt, decide_eq_false_iff_not, Int.not_lt] at h186
          omega
    · skip
      simp only [decide_eq_false_iff_not, Int.not_lt] at h179
      omega
  · skip
    have hrn : rest.drop i ≠ [] := fun e => by rw [e] at hdl; simp at hdl; omega
    refine WC.seq (WC.seq (WC.region ?_))
    refine WR.move rfl rfl ?_
    refine WR.move rfl rfl ?_
    refine WR.bin rfl rfl rfl rfl ?_
    refine WR.nil (WN.seq ?_)
    refine WC.cond rfl (fun h179 => ?_) (fun h179 => ?_)
    · skip
      simp only [decide_eq_true_eq] at h179
      refine WC.skip (WN.seq ?_)
      refine WC.block (WC.seq (WC.region ?_))
      refine WR.move rfl rfl ?_
      refine WR.move rfl rfl ?_
      (refine WR.bin rfl rfl (ar_sub (z := ((n - i : Nat) : Int)) ?_) rfl ?_; (rw [wrap_i64 (by omega) (by omega)]; omega))
      refine WR.assign rfl rfl ?_
      refine WR.nil (WN.seq ?_)
      refine WC.seq (WC.region ?_)
      refine WR.move rfl rfl ?_
      refine WR.nilCheckP rfl rfl ?_
      refine WR.field rfl fa124_3 rfl ?_
      refine WR.load rfl Tryz.underlying21 rfl hR.c3 rfl ?_
      refine WR.bin rfl rfl rfl rfl ?_
      refine WR.nil (WN.seq ?_)
      refine WC.cond rfl (fun h182 => ?_) (fun h182 => ?_)
      · skip
        simp only [gt_iff_lt, decide_eq_true_eq] at h182
        omega
      · skip
        simp only [gt_iff_lt, decide_eq_false_iff_not, Int.not_lt] at h182
        refine WC.seq (WC.region ?_)
        refine WR.move rfl rfl ?_
        refine WR.nilCheckP rfl rfl ?_
        refine WR.field rfl fa124_4 rfl ?_
        refine WR.load rfl Tryz.underlying21 rfl hR.c4 rfl ?_
        refine WR.bin rfl rfl rfl rfl ?_
        refine WR.nil (WN.seq ?_)
        refine WC.cond rfl (fun h186 => ?_) (fun h186 => ?_)
        · skip
          simp only [gt_iff_lt, decide_eq_true_eq] at h186
          omega
        · skip
          simp only [gt_iff_lt, decide_eq_false_iff_not, Int.not_lt] at h186
          refine WC.seq (WC.region ?_)
          refine WR.move rfl rfl ?_
          refine WR.callF rfl rfl cf56 rfl rfl (next_run hg bR T b rb db dO len cap W cur pos d _ hR ha hD hrn hW1 hW2 hb3 hgb hgR hne hnd hx1 hx2 hx3) ?_
          rintro _ w2 ⟨rfl, ⟨cur2, rep2, lit2, pos2, hR', ha', hD2, hc1, hc2, hc3, hpos2⟩, hs⟩
          replace ha := ha'
          replace hR := hR'
          clear ha' hR'
          replace hg := hg.same hs (by simp <;> omega)
          replace hS := hS.trans hs (by simp <;> omega)
          refine WR.notOp rfl rfl ?_
          refine WR.nil (WN.seq ?_)
          refine WC.cond rfl (fun h196 => ?_) (fun h196 => ?_)
          · skip
            exact absurd h196 (by simp)
          · skip
            refine WC.skip (WN.block ?_)
            exact WN.loop (2 * (n - i)) i (by rw [hk]; simp) ⟨rfl, rfl, rfl, trivial⟩ ⟨by omega, hg, hS, cur2, rep2, lit2, pos2, hR, ha, hD2, by omega, by rw [if_neg (by omega), Nat.add_zero]⟩
    · skip
      simp only [decide_eq_false_iff_not, Int.not_lt] at h179
      omega
  · skip
    refine WC.seq (WC.seq (WC.region ?_))
    refine WR.move rfl rfl ?_
    refine WR.move rfl rfl ?_
    refine WR.bin rfl rfl rfl rfl ?_
    refine WR.nil (WN.seq ?_)
    refine WC.cond rfl (fun h179 => ?_) (fun h179 => ?_)
    · skip
      simp only [decide_eq_true_eq] at h179
      omega
    · skip
      simp only [decide_eq_false_iff_not, Int.not_lt] at h179
      refine WC.exit rfl ?_
      refine WN.seq (WC.seq (WC.region ?_))
      refine WR.move rfl rfl ?_
      refine WR.assign rfl rfl ?_
      refine WR.nil (WN.seq ?_)
      refine WC.retR rfl rfl ?_
      exact ⟨rfl, ⟨cur, rep, lit, pos, hR, ha, hD, hb1, hb2, hb3⟩, hS⟩

end Go.Proofs.YthmknddfkmklfaaGreatDoor.Vm
