/- Discard. -/
import Derived.Test.YthmknddfkmklfaaGreatDoorFnJ
namespace Go.Proofs.YthmknddfkmklfaaGreatDoor.Vm
open Go Mix Go.RowKit Num
set_option maxRecDepth 20000
set_option linter.unusedSimpArgs false
theorem cf64 (us : Array Value) (w : World) : (callFunc 64 us).run Tryz.prog w = .ok (.enter 64 us) w := by kernel_rfl
set_option maxHeartbeats 800000 in
theorem discard {w : World} {aE aU aP : Addr} (hg : Glob w aE aU aP) (b : Nat) (rb : RB) (db dO len cap n k pos : Nat) (d : Nat → Nat) (ha : At w b rb db dO len cap d pos) (hk : k ≤ 1099511627776) (hn1 : 1 ≤ n) (hn2 : n ≤ 64) (hfit : pos + n * k ≤ 8 * len) (hgb : 6 ≤ b) (hrb : 6 ≤ rb.blk) (hne : b ≠ rb.blk) (hnd : b ≠ db) (hrd : rb.blk ≠ db) :
    Ret Tryz.prog 57 #[.pointer (some ⟨b, 0, none⟩), .int .u64 (n : Int), .int .i64 (k : Int)] w fun v w' => v = .tuple #[.int .i64 (k : Nat), .nilIface] ∧ At w' b rb db dO len cap d (pos + n * k) ∧ Same [b] w w' := by
  have hS := Same.refl [b] w
  obtain ⟨bo, bit, B, V, raw, unp, p, r, hb, hr, hpos, hbit, hB⟩ := ha
  have hlen := hr.len_
  refine Ret.enter (vs := [.pointer (some ⟨b, 0, none⟩), .int .u64 (n : Int), .int .i64 (k : Int)]) Tryz.func57 Tryz.ntmps57 rfl rfl ?_
  refine WC.seq (WC.region ?_)
  refine WR.assign rfl rfl ?_
  refine WR.assign rfl rfl ?_
  refine WR.nil (WN.seq ?_)
  refine WC.seq (WC.seq (WC.region ?_))
  refine WR.move rfl rfl ?_
  refine WR.bin rfl rfl rfl rfl ?_
  refine WR.nil (WN.seq ?_)
  refine WC.cond rfl (fun h489 => ?_) (fun h489 => ?_)
  · skip
    simp only [gt_iff_lt, decide_eq_true_eq] at h489
    omega
  · skip
    simp only [gt_iff_lt, decide_eq_false_iff_not, Int.not_lt] at h489
    refine WC.skip (WN.seq ?_)
    refine WC.seq (WC.region ?_)
    refine WR.assign rfl rfl ?_
    refine WR.nil (WN.seq (WC.seq ?_))
    refine WC.cut (fun i : Nat => [(0, .pointer (some ⟨b, 0, none⟩)), (1, .int .u64 (n : Nat)), (2, .int .i64 (k : Nat)), (8, .int .i64 (i : Nat))]) (fun i w' => i ≤ k ∧ Glob w' aE aU aP ∧ Same [b] w w' ∧ ∃ (bo bit : Nat) (B V : Int) (raw unp : Nat → Value) (p r : Int), BR w' b rb B bo bit V raw unp ∧ Src w' rb db dO len cap p r d ∧ 8 * bo + bit = pos + n * i ∧ bit ≤ 64 ∧ (i < k → bit = 0)) ?_ ?_
    · skip
      refine WC.block ?_
      refine WC.loop (fun i : Nat => [(0, .pointer (some ⟨b, 0, none⟩)), (1, .int .u64 (n : Nat)), (2, .int .i64 (k : Nat)), (8, .int .i64 (i : Nat))]) (fun m i w' => i + m = k ∧ Glob w' aE aU aP ∧ Same [b] w w' ∧ ∃ (bo bit : Nat) (B V : Int) (raw unp : Nat → Value) (p r : Int), BR w' b rb B bo bit V raw unp ∧ Src w' rb db dO len cap p r d ∧ 8 * bo + bit = pos + n * i ∧ bit ≤ 64 ∧ (bit ≠ 0 → B = (bts (num d len) (8 * bo) 64 : Nat) ∧ V = (8 * min (len - bo) 8 : Nat))) k 0 ⟨rfl, rfl, rfl, rfl, trivial⟩ ⟨by omega, hg, hS, bo, bit, B, V, raw, unp, p, r, hb, hr, by omega, hbit, hB⟩ ?_
      clear hg hS hb hr hpos hbit hB
      rintro m i w1 ⟨hm, hg, hS, bo, bit, B, V, raw, unp, p, r, hb, hr, hpos, hbit, hB⟩
      rcases Nat.lt_or_ge i k with hi | hi
      · skip
        refine WC.seq (WC.seq (WC.region ?_))
        refine WR.move rfl rfl ?_
        refine WR.move rfl rfl ?_
        refine WR.bin rfl rfl rfl rfl ?_
        refine WR.move rfl rfl ?_
        refine WR.take rfl rfl (by first | rfl | assumption | simp_all) ?_
        refine WR.move rfl rfl ?_
        refine WR.take rfl rfl (by first | rfl | assumption | simp_all) ?_
        refine WR.nilCheckP rfl rfl ?_
        refine WR.take rfl rfl (by first | rfl | assumption | simp_all) ?_
        refine WR.field rfl fa152_3 rfl ?_
        refine WR.take rfl rfl (by first | rfl | assumption | simp_all) ?_
        refine WR.load rfl Tryz.underlying110 rfl hb.c3 rfl ?_
        refine WR.take rfl rfl (by first | rfl | assumption | simp_all) ?_
        refine WR.bin rfl rfl rfl rfl ?_
        refine WR.pickT rfl (by first | rfl | assumption | simp_all) rfl rfl ?_
        refine WR.nil (WN.seq ?_)
        refine WC.cond rfl (fun h494 => ?_) (fun h494 => ?_)
        · skip
          simp only [bne_iff_ne, ne_eq] at h494
          have hbt : bit ≠ 0 := by omega
          obtain ⟨rfl, rfl⟩ := hB hbt
          have hni := Nat.mul_le_mul_left n (show i + 1 ≤ k by omega)
          rw [Nat.mul_add_one] at hni
          refine WC.skip (WN.seq ?_)
          refine WC.seq (WC.block ?_)
          refine WC.seq (WC.region ?_)
          refine WR.move rfl rfl ?_
          refine WR.move rfl rfl ?_
          refine WR.callF rfl rfl cf69 rfl rfl (next_ hg b rb db dO len cap bo bit n p r d raw unp hb hr (by omega) hn1 hn2 (by omega) hgb hne hnd) ?_
          rintro _ w2 ⟨rfl, ⟨bo2, bit2, raw2, hb', hpos2, hbit1, hbit2⟩, hs⟩
          replace hb := hb'
          clear hb'
          replace hg := hg.same hs (by simp <;> omega)
          replace hr := hr.same hs (by simp <;> omega) (by simp <;> omega)
          replace hS := hS.trans hs (by simp <;> omega)
          refine WR.move rfl rfl ?_
          refine WR.extract rfl rfl rfl ?_
          refine WR.extract rfl rfl rfl ?_
          refine WR.assign rfl rfl ?_
          refine WR.assign rfl rfl ?_
          refine WR.nil (WN.seq ?_)
          refine WC.seq (WC.region ?_)
          refine WR.move rfl rfl ?_
          refine WR.neqNil rfl rfl Tryz.underlying54 rfl ?_
          refine WR.nil (WN.seq ?_)
          refine WC.cond rfl (fun h495 => ?_) (fun h495 => ?_)
          · skip
            cases h495
          · skip
            simp only at h495
            refine WC.skip (WN.block ?_)
            refine WN.seq (WC.region ?_)
            refine WR.move rfl rfl ?_
            (refine WR.bin rfl rfl (ar_add (wrap_i64 ?_ ?_)) rfl ?_; (omega); (omega))
            refine WR.assign rfl rfl ?_
            refine WR.nil ?_
            exact WN.loop (m - 1) (i + 1) (by omega) ⟨rfl, rfl, rfl, kint rfl (by omega), trivial⟩ ⟨by omega, hg, hS, bo2, bit2, _, _, raw2, unp, p, r, hb, hr, by rw [Nat.mul_add_one]; omega, by omega, fun _ => ⟨rfl, rfl⟩⟩
        · skip
          simp only [bne_eq_false_iff_eq] at h494
          refine WC.exit rfl ?_
          exact WN.loop 0 i (by decide) ⟨rfl, rfl, rfl, rfl, trivial⟩ ⟨by omega, hg, hS, bo, bit, B, V, raw, unp, p, r, hb, hr, hpos, hbit, fun _ => by omega⟩
      · skip
        refine WC.seq (WC.seq (WC.region ?_))
        refine WR.move rfl rfl ?_
        refine WR.move rfl rfl ?_
        refine WR.bin rfl rfl rfl rfl ?_
        refine WR.move rfl rfl ?_
        refine WR.pass rfl rfl rfl (by first | rfl | assumption | simp_all) ?_
        refine WR.pass rfl rfl rfl (by first | rfl | assumption | simp_all) ?_
        refine WR.pass rfl rfl rfl (by first | rfl | assumption | simp_all) ?_
        refine WR.pass rfl rfl rfl (by first | rfl | assumption | simp_all) ?_
        refine WR.pass rfl rfl rfl (by first | rfl | assumption | simp_all) ?_
        refine WR.pickF rfl (by first | rfl | assumption | simp_all) rfl rfl ?_
        refine WR.nil (WN.seq ?_)
        refine WC.cond rfl (fun h494 => ?_) (fun h494 => ?_)
        · skip
          cases h494
        · skip
          simp only at h494
          refine WC.exit rfl ?_
          exact WN.loop 0 i (by decide) ⟨rfl, rfl, rfl, rfl, trivial⟩ ⟨by omega, hg, hS, bo, bit, B, V, raw, unp, p, r, hb, hr, hpos, hbit, fun _ => by omega⟩
    · skip
      clear hg hS hb hr hpos hbit hB
      rintro i w9 ⟨hiL, hg, hS, bo, bit, B, V, raw, unp, p, r, hb, hr, hpos, hbit, hz⟩
      refine WN.seq (WC.seq ?_)
      refine WC.cut (fun i : Nat => [(0, .pointer (some ⟨b, 0, none⟩)), (1, .int .u64 (n : Nat)), (2, .int .i64 (k : Nat)), (8, .int .i64 (i : Nat))]) (fun i w' => i ≤ k ∧ Glob w' aE aU aP ∧ Same [b] w w' ∧ ∃ (bo bit : Nat) (B V : Int) (raw unp : Nat → Value) (p r : Int), BR w' b rb B bo bit V raw unp ∧ Src w' rb db dO len cap p r d ∧ 8 * bo + bit = pos + n * i ∧ bit ≤ 64) ?_ ?_
      · skip
        refine WC.seq (WC.region ?_)
        refine WR.move rfl rfl ?_
        refine WR.move rfl rfl ?_
        (refine WR.bin rfl rfl (ar_sub (z := ((k - i : Nat) : Int)) ?_) rfl ?_; (rw [wrap_i64 (by omega) (by omega)]; omega))
        refine WR.bin rfl rfl rfl rfl ?_
        refine WR.nil (WN.seq ?_)
        refine WC.cond rfl (fun h500 => ?_) (fun h500 => ?_)
        · skip
          simp only [gt_iff_lt, decide_eq_true_eq] at h500
          obtain rfl := hz (by omega)
          obtain ⟨y, hy⟩ : ∃ y, y = (k - i) / 32 := ⟨_, rfl⟩
          have hxy := Nat.mul_le_mul_left n (show i + 32 * y ≤ k by omega)
          rw [Nat.mul_add, Nat.mul_left_comm n 32 y] at hxy
          have hny : 0 < n * y := Nat.mul_pos hn1 (by omega)
          obtain ⟨bP, hbP⟩ : ∃ x, x = w9.heap.size := ⟨_, rfl⟩
          have hl1 := hr.rd.lt
          have hl2 := hr.lt
          have hl3 := hb.lt
          have hl5 := hS.size
          have hl6 := hg.size
          refine WC.seq (WC.region ?_)
          refine WR.move rfl rfl ?_
          refine WR.move rfl rfl ?_
          (refine WR.bin rfl rfl (ar_sub (z := ((k - i : Nat) : Int)) ?_) rfl ?_; (rw [wrap_i64 (by omega) (by omega)]; omega))
          refine WR.bin rfl rfl (ar_quo (z := ((y : Nat) : Int)) (by decide) (by rw [tdiv_pos (by omega), wrap_i64 (by omega) (by omega)]; omega)) rfl ?_
          (refine WR.bin rfl rfl (ar_mul (z := ((32 * y : Nat) : Int)) ?_) rfl ?_; (rw [wrap_i64 (by omega) (by omega)]; omega))
          refine WR.assign rfl rfl ?_
          refine WR.nil (WN.seq ?_)
          refine WC.seq (WC.region ?_)
          refine WR.move rfl rfl ?_
          refine WR.move rfl rfl ?_
          (refine WR.conv rfl Tryz.underlying110 Tryz.underlying3 (wrap_i64 ?_ ?_) rfl ?_; (omega); (omega))
          (refine WR.bin rfl rfl (ar_mul (z := ((32 * (n * y) : Nat) : Int)) ?_) rfl ?_; (rw [← Int.natCast_mul, show 32 * y * n = 32 * (n * y) by rw [Nat.mul_assoc, Nat.mul_comm y n]]; exact wrap_i64 (by omega) (by omega)))
          refine WR.callFS rfl rfl cf64 rfl rfl (bytesForBits ((32 * (n * y) : Nat) : Int) _ (by omega) (by omega)) ?_
          rw [show (((32 * (n * y) : Nat) : Int) + 7) / 8 = ((4 * (n * y) : Nat) : Int) by omega]
          refine WR.assign rfl rfl ?_
          refine WR.nil (WN.seq ?_)
          refine WC.seq (WC.seq (WC.region ?_))
          refine WR.move rfl rfl ?_
          refine WR.bin rfl rfl rfl rfl ?_
          refine WR.nil (WN.seq ?_)
          refine WC.cond rfl (fun h504 => ?_) (fun h504 => ?_)
          · skip
            simp only [gt_iff_lt, decide_eq_true_eq] at h504
            refine WC.seq (WC.region ?_)
            refine WR.alloc zv1 rfl rfl ?_
            intro w2 hn hs
            have hx : Row w2 bP 172 1 (fun i => (#[.int .u8 0] : Array Value).getD i undef) := by rw [hn, hbP]; exact Row.alloc _ _ _
            rw [← hbP]
            replace hg := hg.same hs (by simp <;> omega)
            replace hr := hr.same hs (by simp <;> omega) (by simp <;> omega)
            replace hb := hb.same hs (by simp <;> omega)
            replace hS := hS.trans hs (by simp <;> omega)
            clear hn hs
            refine WR.nil (WN.seq (WC.seq ?_))
            refine WC.mix [] mixed (by kernel_rfl) ?_
            replace hg := hg.same (Same.drew _) (by simp <;> omega)
            replace hr := hr.same (Same.drew _) (by simp <;> omega) (by simp <;> omega)
            replace hb := hb.same (Same.drew _) (by simp <;> omega)
            replace hS := hS.trans (Same.drew _) (by simp <;> omega)
            refine WR.move rfl rfl ?_
            refine WR.nilCheckP rfl rfl ?_
            refine WR.field rfl fa152_0 rfl ?_
            refine WR.load rfl Tryz.underlying148 rfl hb.c0 rfl ?_
            refine WR.sliceA rfl Tryz.underlying172 sz5 rfl rfl rfl ?_
            refine WR.move rfl rfl ?_
            refine WR.nilCheckP rfl rfl ?_
            refine WR.field rfl fa152_2 rfl ?_
            refine WR.load rfl Tryz.underlying2 rfl hb.c2 rfl ?_
            refine WR.move rfl rfl ?_
            (refine WR.bin rfl rfl (ar_add (z := ((bo + 4 * (n * y) : Nat) : Int)) ?_) rfl ?_; (rw [wrap_i64 (by omega) (by omega)]; omega))
            (refine WR.bin rfl rfl (ar_sub (z := ((bo + 4 * (n * y) - 1 : Nat) : Int)) ?_) rfl ?_; (rw [wrap_i64 (by omega) (by omega)]; omega))
            refine WR.nilCheckI rfl rfl ?_
            refine WR.move rfl rfl ?_
            refine WR.invoke rfl rfl rfl mtRdr_ReadAt cf148 rfl rfl (readAt hg rb db dO len cap bP 0 1 1 _ 1 p r (bo + 4 * (n * y) - 1 : Nat) d _ (by omega) hr.rd hr.data hr.nz (hx.same (Same.drew _) (by simp)) hr.cap_ (by omega) (by omega) (by omega) (by omega) (by omega)) ?_
            rintro _ w3 ⟨k2, hk2, rfl, hx', hs⟩
            rw [Int.toNat_natCast] at hk2
            replace hg := hg.same hs (by simp <;> omega)
            replace hr := hr.same hs (by simp <;> omega) (by simp <;> omega)
            replace hb := hb.same hs (by simp <;> omega)
            replace hS := hS.trans hs (by simp <;> omega)
            refine WR.move rfl rfl ?_
            refine WR.extract rfl rfl rfl ?_
            refine WR.extract rfl rfl rfl ?_
            refine WR.assign rfl rfl ?_
            refine WR.assign rfl rfl ?_
            refine WR.nil (WN.seq ?_)
            refine WC.seq (WC.region ?_)
            refine WR.move rfl rfl ?_
            refine WR.bin rfl rfl rfl rfl ?_
            refine WR.nil (WN.seq ?_)
            refine WC.cond rfl (fun h506 => ?_) (fun h506 => ?_)
            · skip
              simp only [bne_iff_ne, ne_eq] at h506
              omega
            · skip
              simp only [bne_eq_false_iff_eq] at h506
              refine WC.skip (WN.seq ?_)
              refine WC.seq (WC.region ?_)
              refine WR.move rfl rfl ?_
              refine WR.nilCheckP rfl rfl ?_
              refine WR.field rfl fa152_2 rfl ?_
              refine WR.load rfl Tryz.underlying2 rfl hb.c2 rfl ?_
              refine WR.move rfl rfl ?_
              (refine WR.bin rfl rfl (ar_add (z := ((bo + 4 * (n * y) : Nat) : Int)) ?_) rfl ?_; (rw [wrap_i64 (by omega) (by omega)]; omega))
              refine WR.nilCheckP rfl rfl ?_
              refine WR.field rfl fa152_2 rfl ?_
              refine WR.storeK rfl rfl rfl sz2 hb.c2 (hb.fz 2) ?_
              intro w4 hn hs
              replace hb := hb.s2 hn
              replace hg := hg.same hs (by simp <;> omega)
              replace hr := hr.same hs (by simp <;> omega) (by simp <;> omega)
              replace hS := hS.trans hs (by simp <;> omega)
              clear hn hs
              refine WR.nil (WN.seq (WC.region ?_))
              refine WR.move rfl rfl ?_
              refine WR.move rfl rfl ?_
              (refine WR.bin rfl rfl (ar_add (z := ((i + 32 * y : Nat) : Int)) ?_) rfl ?_; (rw [wrap_i64 (by omega) (by omega)]; omega))
              refine WR.assign rfl rfl ?_
              refine WR.nil ?_
              exact WN.loop 0 (i + 32 * y) (by decide) ⟨rfl, rfl, rfl, rfl, trivial⟩ ⟨by omega, hg, hS, bo + 4 * (n * y), 0, _, _, raw, unp, p, r, hb, hr, by rw [Nat.mul_add n, Nat.mul_left_comm n 32 y]; omega, by omega⟩
          · skip
            simp only [gt_iff_lt, decide_eq_false_iff_not, Int.not_lt] at h504
            omega
        · skip
          simp only [gt_iff_lt, decide_eq_false_iff_not, Int.not_lt] at h500
          refine WC.skip ?_
          exact WN.loop 0 i (by decide) ⟨rfl, rfl, rfl, rfl, trivial⟩ ⟨by omega, hg, hS, bo, bit, B, V, raw, unp, p, r, hb, hr, hpos, hbit⟩
      · skip
        clear hg hS hb hr hpos hbit hz
        rintro i w8 ⟨hiL, hg, hS, bo, bit, B, V, raw, unp, p, r, hb, hr, hpos, hbit⟩
        have hni0 := Nat.mul_le_mul_left n hiL
        refine WN.seq (WC.seq ?_)
        refine WC.seq (WC.region ?_)
        refine WR.move rfl rfl ?_
        refine WR.callF rfl rfl cf62 rfl rfl (fillbuffer hg b rb db dO len cap _ _ _ _ p r d _ _ hb hr (by omega) (by omega) hgb hne hnd) ?_
        rintro _ w2 ⟨rfl, ⟨raw2, hb'⟩, hs⟩
        replace hb := hb'
        clear hb'
        simp only [Int.toNat_natCast] at hb
        replace hg := hg.same hs (by simp <;> omega)
        replace hr := hr.same hs (by simp <;> omega) (by simp <;> omega)
        replace hS := hS.trans hs (by simp <;> omega)
        refine WR.assign rfl rfl ?_
        refine WR.nil (WN.seq ?_)
        refine WC.seq (WC.region ?_)
        refine WR.move rfl rfl ?_
        refine WR.neqNil rfl rfl Tryz.underlying54 rfl ?_
        refine WR.nil (WN.seq ?_)
        refine WC.cond rfl (fun h517 => ?_) (fun h517 => ?_)
        · skip
          cases h517
        · skip
          simp only at h517
          refine WC.skip (WN.seq ?_)
          refine WC.seq (WC.block ?_)
          refine WC.loop (fun i : Nat => [(0, .pointer (some ⟨b, 0, none⟩)), (1, .int .u64 (n : Nat)), (2, .int .i64 (k : Nat)), (8, .int .i64 (i : Nat))]) (fun m i w' => i + m = k ∧ Glob w' aE aU aP ∧ Same [b] w w' ∧ ∃ (bo bit : Nat) (raw unp : Nat → Value) (p r : Int), BR w' b rb (bts (num d len) (8 * bo) 64 : Nat) bo bit (8 * min (len - bo) 8 : Nat) raw unp ∧ Src w' rb db dO len cap p r d ∧ 8 * bo + bit = pos + n * i ∧ bit ≤ 64) (k - i) i ⟨rfl, rfl, rfl, rfl, trivial⟩ ⟨by omega, hg, hS, bo, bit, raw2, unp, p, r, hb, hr, hpos, hbit⟩ ?_
          clear hg hS hb hr hpos hbit hni0 hiL
          rintro m i w3 ⟨hm, hg, hS, bo, bit, raw, unp, p, r, hb, hr, hpos, hbit⟩
          refine WC.seq (WC.seq (WC.region ?_))
          refine WR.move rfl rfl ?_
          refine WR.move rfl rfl ?_
          refine WR.bin rfl rfl rfl rfl ?_
          refine WR.nil (WN.seq ?_)
          refine WC.cond rfl (fun h520 => ?_) (fun h520 => ?_)
          · skip
            simp only [decide_eq_true_eq] at h520
            have hni := Nat.mul_le_mul_left n (show i + 1 ≤ k by omega)
            rw [Nat.mul_add_one] at hni
            refine WC.skip (WN.seq ?_)
            refine WC.seq (WC.block ?_)
            refine WC.seq (WC.region ?_)
            refine WR.move rfl rfl ?_
            refine WR.move rfl rfl ?_
            refine WR.callF rfl rfl cf69 rfl rfl (next_ hg b rb db dO len cap bo bit n p r d raw unp hb hr (by omega) hn1 hn2 (by omega) hgb hne hnd) ?_
            rintro _ w4 ⟨rfl, ⟨bo2, bit2, raw2, hb', hpos2, hbit1, hbit2⟩, hs⟩
            replace hb := hb'
            clear hb'
            replace hg := hg.same hs (by simp <;> omega)
            replace hr := hr.same hs (by simp <;> omega) (by simp <;> omega)
            replace hS := hS.trans hs (by simp <;> omega)
            refine WR.move rfl rfl ?_
            refine WR.extract rfl rfl rfl ?_
            refine WR.extract rfl rfl rfl ?_
            refine WR.assign rfl rfl ?_
            refine WR.assign rfl rfl ?_
            refine WR.nil (WN.seq ?_)
            refine WC.seq (WC.region ?_)
            refine WR.move rfl rfl ?_
            refine WR.neqNil rfl rfl Tryz.underlying54 rfl ?_
            refine WR.nil (WN.seq ?_)
            refine WC.cond rfl (fun h521 => ?_) (fun h521 => ?_)
            · skip
              cases h521
            · skip
              simp only at h521
              refine WC.skip (WN.block ?_)
              refine WN.seq (WC.region ?_)
              refine WR.move rfl rfl ?_
              (refine WR.bin rfl rfl (ar_add (wrap_i64 ?_ ?_)) rfl ?_; (omega); (omega))
              refine WR.assign rfl rfl ?_
              refine WR.nil ?_
              exact WN.loop (m - 1) (i + 1) (by omega) ⟨rfl, rfl, rfl, kint rfl (by omega), trivial⟩ ⟨by omega, hg, hS, bo2, bit2, raw2, unp, p, r, hb, hr, by rw [Nat.mul_add_one]; omega, by omega⟩
          · skip
            simp only [decide_eq_false_iff_not, Int.not_lt] at h520
            obtain rfl : i = k := by omega
            refine WC.exit rfl ?_
            refine WN.seq (WC.seq (WC.region ?_))
            refine WR.move rfl rfl ?_
            refine WR.assign rfl rfl ?_
            refine WR.assign rfl rfl ?_
            refine WR.nil (WN.seq ?_)
            refine WC.retR rfl rfl ?_
            exact ⟨rfl, ⟨bo, bit, _, _, raw, unp, p, r, hb, hr, hpos, hbit, fun _ => ⟨rfl, rfl⟩⟩, hS⟩

end Go.Proofs.YthmknddfkmklfaaGreatDoor.Vm
