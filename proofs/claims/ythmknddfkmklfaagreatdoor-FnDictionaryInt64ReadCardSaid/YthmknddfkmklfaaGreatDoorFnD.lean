/- The bit reader's scalar step: trailingBits, next. -/
import Derived.Test.YthmknddfkmklfaaGreatDoorFnC
import Derived.Test.YthmknddfkmklfaaGreatDoorFnA
namespace Go.Proofs.YthmknddfkmklfaaGreatDoor.Vm
open Go Mix Go.RowKit Num
set_option maxRecDepth 20000
set_option linter.unusedSimpArgs false
theorem shr_nat (a b : Nat) (h : b ≤ 64) : ((a : Int)).fdiv (2 ^ min ((b : Int)).toNat IntKind.u64.bits) = ((a / 2 ^ b : Nat) : Int) := by
  rw [Int.toNat_natCast, show min b IntKind.u64.bits = b from Nat.min_eq_left h, Int.fdiv_eq_ediv_of_nonneg _ (Int.pow_nonneg (by decide))]
  push_cast
  rfl
theorem shl_nat {b : Int} (a f : Nat) (hb : b = (f : Int)) (hf : f ≤ 64) (h : a * 2 ^ f < 18446744073709551616) : IntKind.u64.wrap ((a : Int) * 2 ^ min b.toNat IntKind.u64.bits) = (a : Int) * ((2 ^ f : Nat) : Int) := by
  subst hb
  rw [Int.toNat_natCast, show min f IntKind.u64.bits = f from Nat.min_eq_left hf]
  have e : (a : Int) * 2 ^ f = ((a * 2 ^ f : Nat) : Int) := by push_cast; rfl
  rw [e, wrap_u64 (by omega) (by omega)]
  push_cast; rfl
theorem mask_eq (n : Nat) (h : n < 64) : (18446744073709551615 : Int).fdiv (2 ^ min (64 - (n : Int)).toNat IntKind.u64.bits) = ((2 ^ n - 1 : Nat) : Int) := by
  rw [show (64 - (n : Int)).toNat = 64 - n by omega, show min (64 - n) IntKind.u64.bits = 64 - n from Nat.min_eq_left (show 64 - n ≤ 64 by omega), Int.fdiv_eq_ediv_of_nonneg _ (Int.pow_nonneg (by decide))]
  have e : (18446744073709551615 : Int) / 2 ^ (64 - n) = ((18446744073709551615 / 2 ^ (64 - n) : Nat) : Int) := by rw [Int.natCast_ediv, Int.natCast_pow]; rfl
  rw [e]
  congr 1
  have h1 : (18446744073709551615 : Nat) = 2 ^ (64 - n) * (2 ^ n - 1) + (2 ^ (64 - n) - 1) := by
    have h2 : 2 ^ (64 - n) * 2 ^ n = 18446744073709551616 := by rw [← Nat.pow_add, show 64 - n + n = 64 by omega]
    have h3 : 1 ≤ 2 ^ n := Nat.one_le_two_pow
    have h4 : 1 ≤ 2 ^ (64 - n) := Nat.one_le_two_pow
    rw [Nat.mul_sub]
    have h5 : 2 ^ (64 - n) ≤ 2 ^ (64 - n) * 2 ^ n := Nat.le_mul_of_pos_right _ (by omega)
    omega
  have h4 : 1 ≤ 2 ^ (64 - n) := Nat.one_le_two_pow
  rw [h1, Nat.mul_add_div (by omega), Nat.div_eq_of_lt (by omega), Nat.add_zero]
theorem and_mask (v n : Nat) (hv : v < 18446744073709551616) (hn : n < 64) : arith .and .u64 (v : Int) ((2 ^ n - 1 : Nat) : Int) = some (.int .u64 ((v % 2 ^ n : Nat) : Int)) := by
  have hp : 2 ^ n ≤ 2 ^ 63 := Nat.pow_le_pow_right (by decide) (by omega)
  have e : (BitVec.ofInt IntKind.u64.bits (v : Int) &&& BitVec.ofInt IntKind.u64.bits ((2 ^ n - 1 : Nat) : Int)).toNat = v % 2 ^ n := by
    rw [BitVec.toNat_and, ofInt_toNat (by omega) (by show (v : Int) < (2 : Int) ^ 64; omega), ofInt_toNat (by omega) (by show ((2 ^ n - 1 : Nat) : Int) < (2 : Int) ^ 64; omega), Int.toNat_natCast, Int.toNat_natCast]
    exact Nat.and_two_pow_sub_one_eq_mod v n
  unfold arith
  simp only [e]
  have := Nat.mod_le v (2 ^ n)
  rw [wrap_u64 (by omega) (by omega)]
theorem trailing (v n : Nat) (w : World) (hv : v < 18446744073709551616) (hn : n ≤ 64) :
    Ret Tryz.prog 75 #[.int .u64 (v : Int), .int .u64 (n : Int)] w fun u w' => u = .int .u64 ((v % 2 ^ n : Nat) : Int) ∧ w' = w := by
  refine Ret.enter (vs := [.int .u64 (v : Int), .int .u64 (n : Int)]) Tryz.func75 Tryz.ntmps75 rfl rfl ?_
  refine WC.seq (WC.region ?_)
  refine WR.assign rfl rfl ?_
  refine WR.nil (WN.seq ?_)
  refine WC.seq (WC.seq (WC.region ?_))
  refine WR.move rfl rfl ?_
  refine WR.bin rfl rfl rfl rfl ?_
  refine WR.nil (WN.seq ?_)
  refine WC.cond rfl (fun h33 => ?_) (fun h33 => ?_)
  · skip
    simp only [ge_iff_le, decide_eq_true_eq] at h33
    refine WC.seq (WC.region ?_)
    refine WR.move rfl rfl ?_
    refine WR.assign rfl rfl ?_
    refine WR.nil (WN.seq ?_)
    refine WC.retR rfl rfl ?_
    refine ⟨?_, rfl⟩
    have : n = 64 := by omega
    subst this
    rw [Nat.mod_eq_of_lt hv]
    rfl
  · skip
    simp only [ge_iff_le, decide_eq_false_iff_not, Int.not_le] at h33
    refine WC.skip (WN.seq ?_)
    refine WC.seq (WC.region ?_)
    refine WR.move rfl rfl ?_
    refine WR.move rfl rfl ?_
    (refine WR.bin rfl rfl (ar_sub (wrap_u64 ?_ ?_)) rfl ?_; (omega); (omega))
    refine WR.shr rfl rfl (by omega) (mask_eq n (by omega)) rfl ?_
    refine WR.bin rfl rfl (and_mask v n hv (by omega)) rfl ?_
    refine WR.assign rfl rfl ?_
    refine WR.nil (WN.seq ?_)
    refine WC.retR rfl rfl ?_
    exact ⟨rfl, rfl⟩

set_option maxHeartbeats 400000 in
theorem next_ {w : World} {aE aU aP : Addr} (hg : Glob w aE aU aP) (b : Nat) (rb : RB) (db dO len cap bo bit n : Nat) (p r : Int) (d : Nat → Nat) (raw unp : Nat → Value) (hb : BR w b rb (bts (num d len) (8 * bo) 64 : Nat) bo bit (8 * min (len - bo) 8 : Nat) raw unp) (hr : Src w rb db dO len cap p r d) (hbit : bit ≤ 64) (hn1 : 1 ≤ n) (hn2 : n ≤ 64) (hfit : 8 * bo + bit + n ≤ 8 * len) (hgb : 6 ≤ b) (hne : b ≠ rb.blk) (hnd : b ≠ db) :
    Ret Tryz.prog 69 #[.pointer (some ⟨b, 0, none⟩), .int .u64 (n : Int)] w fun v w' => v = .tuple #[.int .u64 (bts (num d len) (8 * bo + bit) n : Nat), .nilIface] ∧ (∃ bo' bit' raw' : _, BR w' b rb (bts (num d len) (8 * bo') 64 : Nat) (bo' : Nat) (bit' : Nat) (8 * min (len - bo') 8 : Nat) raw' unp ∧ 8 * bo' + bit' = 8 * bo + bit + n ∧ 1 ≤ bit' ∧ bit' ≤ 64) ∧ Same [b] w w' := by
  have hS := Same.refl [b] w
  have hlen := hr.len_
  refine Ret.enter (vs := [.pointer (some ⟨b, 0, none⟩), .int .u64 (n : Int)]) Tryz.func69 Tryz.ntmps69 rfl rfl ?_
  refine WC.seq (WC.region ?_)
  refine WR.assign rfl rfl ?_
  refine WR.assign rfl rfl ?_
  refine WR.nil (WN.seq ?_)
  refine WC.seq (WC.seq (WC.region ?_))
  refine WR.move rfl rfl ?_
  refine WR.bin rfl rfl rfl rfl ?_
  refine WR.nil (WN.seq ?_)
  refine WC.cond rfl (fun h240 => ?_) (fun h240 => ?_)
  · skip
    simp only [beq_iff_eq] at h240
    omega
  · skip
    simp only [beq_eq_false_iff_ne, ne_eq] at h240
    refine WC.skip (WN.seq (WC.seq ?_))
    refine WC.cut (fun _ : Nat × Nat => [(0, .pointer (some ⟨b, 0, none⟩)), (1, .int .u64 (n : Int))]) (fun x w' => Glob w' aE aU aP ∧ Src w' rb db dO len cap p r d ∧ Same [b] w w' ∧ x.2 < 64 ∧ 8 * x.1 + x.2 = 8 * bo + bit ∧ ∃ raw', BR w' b rb (bts (num d len) (8 * x.1) 64 : Nat) x.1 x.2 (8 * min (len - x.1) 8 : Nat) raw' unp) ?_ ?_
    · skip
      refine WC.seq (WC.region ?_)
      refine WR.move rfl rfl ?_
      refine WR.nilCheckP rfl rfl ?_
      refine WR.field rfl fa152_3 rfl ?_
      refine WR.load rfl Tryz.underlying110 rfl hb.c3 rfl ?_
      refine WR.bin rfl rfl rfl rfl ?_
      refine WR.nil (WN.seq ?_)
      refine WC.cond rfl (fun h244 => ?_) (fun h244 => ?_)
      · skip
        simp only [beq_iff_eq] at h244
        refine WC.seq (WC.region ?_)
        refine WR.move rfl rfl ?_
        refine WR.nilCheckP rfl rfl ?_
        refine WR.field rfl fa152_2 rfl ?_
        refine WR.load rfl Tryz.underlying2 rfl hb.c2 rfl ?_
        (refine WR.bin rfl rfl (ar_add (wrap_i64 ?_ ?_)) rfl ?_; (omega); (omega))
        refine WR.nilCheckP rfl rfl ?_
        refine WR.field rfl fa152_2 rfl ?_
        refine WR.storeK rfl rfl rfl sz2 hb.c2 (hb.fz 2) ?_
        intro w1 hn hs
        replace hb := hb.s2 hn
        replace hg := hg.same hs (by simp <;> omega)
        replace hr := hr.same hs (by simp <;> omega) (by simp <;> omega)
        replace hS := hS.trans hs (by simp)
        clear hn hs
        refine WR.nil (WN.seq ?_)
        refine WC.seq (WC.region ?_)
        refine WR.move rfl rfl ?_
        refine WR.nilCheckP rfl rfl ?_
        refine WR.field rfl fa152_3 rfl ?_
        refine WR.storeK rfl rfl rfl sz110 hb.c3 (hb.fz 3) ?_
        intro w2 hn hs
        replace hb := hb.s3 hn
        replace hg := hg.same hs (by simp <;> omega)
        replace hr := hr.same hs (by simp <;> omega) (by simp <;> omega)
        replace hS := hS.trans hs (by simp)
        clear hn hs
        refine WR.nil (WN.seq ?_)
        refine WC.seq (WC.region ?_)
        refine WR.move rfl rfl ?_
        refine WR.callF rfl rfl cf62 rfl rfl (fillbuffer hg b rb db dO len cap _ _ _ _ p r d _ _ hb hr (by omega) (by omega) hgb hne hnd) ?_
        rintro _ w3 ⟨rfl, ⟨raw2, hb'⟩, hs⟩
        replace hb := hb'
        clear hb'
        rw [show ((bo : Int) + 8).toNat = bo + 8 by omega, show ((bo : Int) + 8) = ((bo + 8 : Nat) : Int) by omega] at hb
        replace hg := hg.same hs (by simp <;> omega)
        replace hr := hr.same hs (by simp <;> omega) (by simp <;> omega)
        replace hS := hS.trans hs (by simp)
        refine WR.assign rfl rfl ?_
        refine WR.nil (WN.seq ?_)
        refine WC.seq (WC.region ?_)
        refine WR.move rfl rfl ?_
        refine WR.neqNil rfl rfl Tryz.underlying54 rfl ?_
        refine WR.nil (WN.seq ?_)
        refine WC.cond rfl (fun h247 => ?_) (fun h247 => ?_)
        · skip
          cases h247
        · skip
          simp only at h247
          refine WC.skip ?_
          exact WN.loop 0 (bo + 8, 0) (by decide) ⟨rfl, rfl, trivial⟩ ⟨hg, hr, hS, by show 0 < 64; omega, by show 8 * (bo + 8) + 0 = _; omega, raw2, hb⟩
      · skip
        simp only [beq_eq_false_iff_ne, ne_eq] at h244
        refine WC.skip ?_
        exact WN.loop 0 (bo, bit) (by decide) ⟨rfl, rfl, trivial⟩ ⟨hg, hr, hS, by show bit < 64; omega, rfl, raw, hb⟩
    · skip
      clear hg hr hS hb
      rintro ⟨bo1, bit1⟩ w9 ⟨hg, hr, hS, hlt, hpos, raw1, hb⟩
      simp only [] at hlt hpos hb
      have hfit1 : 8 * bo1 + bit1 + n ≤ 8 * len := by omega
      rw [← hpos]
      clear hfit hpos
      refine WN.seq (WC.seq (WC.region ?_))
      refine WR.move rfl rfl ?_
      refine WR.nilCheckP rfl rfl ?_
      refine WR.field rfl fa152_3 rfl ?_
      refine WR.load rfl Tryz.underlying110 rfl hb.c3 rfl ?_
      refine WR.move rfl rfl ?_
      (refine WR.bin rfl rfl (ar_add (z := ((bit1 + n : Nat) : Int)) ?_) rfl ?_; (rw [wrap_u64 (by omega) (by omega)]; omega))
      refine WR.assign rfl rfl ?_
      refine WR.nil (WN.seq ?_)
      refine WC.seq (WC.seq (WC.region ?_))
      refine WR.move rfl rfl ?_
      refine WR.bin rfl rfl rfl rfl ?_
      refine WR.nil (WN.seq ?_)
      refine WC.cond rfl (fun h253 => ?_) (fun h253 => ?_)
      · skip
        simp only [decide_eq_true_eq] at h253
        refine WC.seq (WC.seq (WC.region ?_))
        refine WR.move rfl rfl ?_
        refine WR.move rfl rfl ?_
        refine WR.nilCheckP rfl rfl ?_
        refine WR.field rfl fa152_4 rfl ?_
        refine WR.load rfl Tryz.underlying110 rfl hb.c4 rfl ?_
        refine WR.bin rfl rfl rfl rfl ?_
        refine WR.nil (WN.seq ?_)
        refine WC.cond rfl (fun h254 => ?_) (fun h254 => ?_)
        · skip
          simp only [gt_iff_lt, decide_eq_true_eq] at h254
          omega
        · skip
          simp only [gt_iff_lt, decide_eq_false_iff_not, Int.not_lt] at h254
          refine WC.skip (WN.seq (WC.seq ?_))
          refine WC.mix [75] mixed (by kernel_rfl) ?_
          replace hg := hg.same (Same.drew _) (by simp <;> omega)
          replace hr := hr.same (Same.drew _) (by simp <;> omega) (by simp <;> omega)
          replace hb := hb.same (Same.drew _) (by simp)
          replace hS := hS.trans (Same.drew _) (by simp)
          refine WR.move rfl rfl ?_
          refine WR.nilCheckP rfl rfl ?_
          refine WR.field rfl fa152_1 rfl ?_
          refine WR.load rfl Tryz.underlying33 rfl hb.c1 rfl ?_
          refine WR.move rfl rfl ?_
          refine WR.callFS rfl rfl cf75 rfl rfl (trailing _ (bit1 + n) _ (bts_lt _ _ 64) (by omega)) ?_
          refine WR.move rfl rfl ?_
          refine WR.nilCheckP rfl rfl ?_
          refine WR.field rfl fa152_3 rfl ?_
          refine WR.load rfl Tryz.underlying110 rfl hb.c3 rfl ?_
          refine WR.shr rfl rfl (by omega) (shr_nat _ _ (by omega)) rfl ?_
          refine WR.assign rfl rfl ?_
          refine WR.nil (WN.seq ?_)
          refine WC.seq (WC.region ?_)
          refine WR.move rfl rfl ?_
          refine WR.move rfl rfl ?_
          refine WR.nilCheckP rfl rfl ?_
          refine WR.field rfl fa152_3 rfl ?_
          refine WR.storeK rfl rfl rfl sz110 hb.c3 (hb.fz 3) ?_
          intro w1 hn hs
          replace hb := hb.s3 hn
          replace hg := hg.same hs (by simp <;> omega)
          replace hr := hr.same hs (by simp <;> omega) (by simp <;> omega)
          replace hS := hS.trans hs (by simp)
          clear hn hs
          refine WR.nil (WN.seq ?_)
          refine WC.seq (WC.region ?_)
          refine WR.move rfl rfl ?_
          refine WR.assign rfl rfl ?_
          refine WR.assign rfl rfl ?_
          refine WR.nil (WN.seq ?_)
          refine WC.retR rfl rfl ?_
          rw [next_plain (by omega)]
          exact ⟨rfl, ⟨bo1, bit1 + n, raw1, hb, by omega, by omega, by omega⟩, hS⟩
      · skip
        simp only [decide_eq_false_iff_not, Int.not_le] at h253
        refine WC.skip (WN.seq ?_)
        refine WC.seq (WC.seq (WC.region ?_))
        refine WR.move rfl rfl ?_
        refine WR.nilCheckP rfl rfl ?_
        refine WR.field rfl fa152_4 rfl ?_
        refine WR.load rfl Tryz.underlying110 rfl hb.c4 rfl ?_
        refine WR.bin rfl rfl rfl rfl ?_
        refine WR.nil (WN.seq ?_)
        refine WC.cond rfl (fun h262 => ?_) (fun h262 => ?_)
        · skip
          simp only [decide_eq_true_eq] at h262
          omega
        · skip
          simp only [decide_eq_false_iff_not, Int.not_lt] at h262
          refine WC.skip (WN.seq ?_)
          refine WC.seq (WC.region ?_)
          refine WR.move rfl rfl ?_
          refine WR.nilCheckP rfl rfl ?_
          refine WR.field rfl fa152_3 rfl ?_
          refine WR.load rfl Tryz.underlying110 rfl hb.c3 rfl ?_
          (refine WR.bin rfl rfl (ar_sub (z := ((64 - bit1 : Nat) : Int)) ?_) rfl ?_; (rw [wrap_u64 (by omega) (by omega)]; omega))
          refine WR.assign rfl rfl ?_
          refine WR.nil (WN.seq (WC.seq ?_))
          refine WC.mix [75] mixed (by kernel_rfl) ?_
          replace hg := hg.same (Same.drew _) (by simp <;> omega)
          replace hr := hr.same (Same.drew _) (by simp <;> omega) (by simp <;> omega)
          replace hb := hb.same (Same.drew _) (by simp)
          replace hS := hS.trans (Same.drew _) (by simp)
          refine WR.move rfl rfl ?_
          refine WR.nilCheckP rfl rfl ?_
          refine WR.field rfl fa152_1 rfl ?_
          refine WR.load rfl Tryz.underlying33 rfl hb.c1 rfl ?_
          refine WR.move rfl rfl ?_
          refine WR.nilCheckP rfl rfl ?_
          refine WR.field rfl fa152_3 rfl ?_
          refine WR.load rfl Tryz.underlying110 rfl hb.c3 rfl ?_
          refine WR.shr rfl rfl (by omega) (shr_nat _ _ (by omega)) rfl ?_
          refine WR.assign rfl rfl ?_
          refine WR.nil (WN.seq ?_)
          refine WC.seq (WC.region ?_)
          refine WR.move rfl rfl ?_
          refine WR.nilCheckP rfl rfl ?_
          refine WR.field rfl fa152_2 rfl ?_
          refine WR.load rfl Tryz.underlying2 rfl hb.c2 rfl ?_
          (refine WR.bin rfl rfl (ar_add (wrap_i64 ?_ ?_)) rfl ?_; (omega); (omega))
          refine WR.nilCheckP rfl rfl ?_
          refine WR.field rfl fa152_2 rfl ?_
          refine WR.storeK rfl rfl rfl sz2 hb.c2 (hb.fz 2) ?_
          intro w1 hn hs
          replace hb := hb.s2 hn
          replace hg := hg.same hs (by simp <;> omega)
          replace hr := hr.same hs (by simp <;> omega) (by simp <;> omega)
          replace hS := hS.trans hs (by simp)
          clear hn hs
          refine WR.nil (WN.seq ?_)
          refine WC.seq (WC.region ?_)
          refine WR.move rfl rfl ?_
          refine WR.nilCheckP rfl rfl ?_
          refine WR.field rfl fa152_3 rfl ?_
          refine WR.storeK rfl rfl rfl sz110 hb.c3 (hb.fz 3) ?_
          intro w2 hn hs
          replace hb := hb.s3 hn
          replace hg := hg.same hs (by simp <;> omega)
          replace hr := hr.same hs (by simp <;> omega) (by simp <;> omega)
          replace hS := hS.trans hs (by simp)
          clear hn hs
          refine WR.nil (WN.seq ?_)
          refine WC.seq (WC.seq (WC.region ?_))
          refine WR.move rfl rfl ?_
          refine WR.callF rfl rfl cf62 rfl rfl (fillbuffer hg b rb db dO len cap _ _ _ _ p r d _ _ hb hr (by omega) (by omega) hgb hne hnd) ?_
          rintro _ w3 ⟨rfl, ⟨raw2, hb'⟩, hs⟩
          replace hb := hb'
          clear hb'
          rw [show ((bo1 : Int) + 8).toNat = bo1 + 8 by omega, show ((bo1 : Int) + 8) = ((bo1 + 8 : Nat) : Int) by omega] at hb
          replace hg := hg.same hs (by simp <;> omega)
          replace hr := hr.same hs (by simp <;> omega) (by simp <;> omega)
          replace hS := hS.trans hs (by simp)
          refine WR.assign rfl rfl ?_
          refine WR.nil (WN.seq ?_)
          refine WC.seq (WC.region ?_)
          refine WR.move rfl rfl ?_
          refine WR.neqNil rfl rfl Tryz.underlying54 rfl ?_
          refine WR.nil (WN.seq ?_)
          refine WC.cond rfl (fun h270 => ?_) (fun h270 => ?_)
          · skip
            cases h270
          · skip
            simp only at h270
            refine WC.skip (WN.seq ?_)
            refine WC.seq (WC.region ?_)
            refine WR.move rfl rfl ?_
            refine WR.move rfl rfl ?_
            (refine WR.bin rfl rfl (ar_sub (z := ((n - (64 - bit1) : Nat) : Int)) ?_) rfl ?_; (rw [wrap_u64 (by omega) (by omega)]; omega))
            refine WR.assign rfl rfl ?_
            refine WR.nil (WN.seq ?_)
            refine WC.seq (WC.seq (WC.region ?_))
            refine WR.move rfl rfl ?_
            refine WR.move rfl rfl ?_
            refine WR.nilCheckP rfl rfl ?_
            refine WR.field rfl fa152_4 rfl ?_
            refine WR.load rfl Tryz.underlying110 rfl hb.c4 rfl ?_
            refine WR.bin rfl rfl rfl rfl ?_
            refine WR.nil (WN.seq ?_)
            refine WC.cond rfl (fun h275 => ?_) (fun h275 => ?_)
            · skip
              simp only [gt_iff_lt, decide_eq_true_eq] at h275
              omega
            · skip
              simp only [gt_iff_lt, decide_eq_false_iff_not, Int.not_lt] at h275
              refine WC.skip (WN.seq ?_)
              refine WC.seq (WC.region ?_)
              refine WR.move rfl rfl ?_
              refine WR.move rfl rfl ?_
              refine WR.nilCheckP rfl rfl ?_
              refine WR.field rfl fa152_1 rfl ?_
              refine WR.load rfl Tryz.underlying33 rfl hb.c1 rfl ?_
              refine WR.move rfl rfl ?_
              have hva : bts (num d len) (8 * bo1) 64 / 2 ^ bit1 < 2 ^ (64 - bit1) := by rw [div_of_bts _ _ _ (by omega)]; exact bts_lt _ _ _
              have hvj : bts (num d len) (8 * bo1) 64 / 2 ^ bit1 + bts (num d len) (8 * (bo1 + 8)) 64 % 2 ^ (n - (64 - bit1)) * 2 ^ (64 - bit1) < 18446744073709551616 := by rw [next_join (by omega) (by omega) (by omega)]; exact Nat.lt_of_lt_of_le (bts_lt _ _ n) (Nat.pow_le_pow_right (by decide) hn2)
              refine WR.callFS rfl rfl cf75 rfl rfl (trailing _ (n - (64 - bit1)) _ (bts_lt _ _ 64) (by omega)) ?_
              refine WR.move rfl rfl ?_
              refine WR.shl rfl rfl (by omega) (shl_nat _ (64 - bit1) rfl (by omega) (mul_pow_lt (by omega))) rfl ?_
              (refine WR.bin rfl rfl (ar_or (D := ((2 ^ (64 - bit1) : Nat) : Int)) (64 - bit1) rfl ?_ ?_ ?_ ?_) rfl ?_; (exact Int.natCast_nonneg _); (exact Int.ofNat_lt.2 hva); (exact Int.natCast_nonneg _); (exact cast_am_lt hvj))
              refine WR.assign rfl rfl ?_
              refine WR.nil (WN.seq ?_)
              refine WC.seq (WC.region ?_)
              refine WR.move rfl rfl ?_
              refine WR.move rfl rfl ?_
              refine WR.nilCheckP rfl rfl ?_
              refine WR.field rfl fa152_3 rfl ?_
              refine WR.storeK rfl rfl rfl sz110 hb.c3 (hb.fz 3) ?_
              intro w4 hn hs
              replace hb := hb.s3 hn
              replace hg := hg.same hs (by simp <;> omega)
              replace hr := hr.same hs (by simp <;> omega) (by simp <;> omega)
              replace hS := hS.trans hs (by simp)
              clear hn hs
              refine WR.nil (WN.seq ?_)
              refine WC.seq (WC.region ?_)
              refine WR.move rfl rfl ?_
              refine WR.assign rfl rfl ?_
              refine WR.assign rfl rfl ?_
              refine WR.nil (WN.seq ?_)
              refine WC.retR rfl rfl ?_
              refine ⟨?_, ⟨bo1 + 8, n - (64 - bit1), raw2, hb, by omega, by omega, by omega⟩, hS⟩
              rw [← next_join (B := num d len) (bo := bo1) (bit := bit1) (n := n) (by omega) (by omega) hn2]
              rw [cast_am]
              rfl
end Go.Proofs.YthmknddfkmklfaaGreatDoor.Vm
