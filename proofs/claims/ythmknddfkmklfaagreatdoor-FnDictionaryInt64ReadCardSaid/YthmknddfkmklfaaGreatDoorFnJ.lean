/- GetBatchIndex. -/
import Derived.Test.YthmknddfkmklfaaGreatDoorFnI
import Derived.Test.YthmknddfkmklfaaGreatDoorVmMake
namespace Go.Proofs.YthmknddfkmklfaaGreatDoor.Vm
open Go Mix Go.RowKit Num
set_option maxRecDepth 20000
set_option linter.unusedSimpArgs false
theorem zv1 (w : World) : (zeroValue 172).run Tryz.prog w = .ok (.agg #[.int .u8 0]) w := by kernel_rfl
theorem w31 (B p n : Nat) (h : n ≤ 31) : IntKind.i32.wrap ((bts B p n : Nat) : Int) = ((bts B p n : Nat) : Int) := by
  have h1 := bts_lt B p n
  have h2 : 2 ^ n ≤ 2 ^ 31 := Nat.pow_le_pow_right (by decide) h
  exact wrap_i32 (by omega) (by omega)
theorem quo_nat {x n : Nat} (hn : 0 < n) (hx : x < 18446744073709551616) : arith .quo .u64 ((x : Nat) : Int) ((n : Nat) : Int) = some (.int .u64 ((x / n : Nat) : Int)) := by
  have h1 := Nat.div_le_self x n
  refine ar_quo (by omega) ?_
  rw [tdiv_pos (by omega), ← Int.natCast_ediv]
  exact wrap_u64 (Int.natCast_nonneg _) (Int.le_trans (Int.ofNat_le.2 h1) (by omega))
theorem cf150 (us : Array Value) (w : World) : (callFunc 150 us).run Tryz.prog w = .ok (.enter 150 us) w := by kernel_rfl
theorem cf60 (us : Array Value) (w : World) : (callFunc 60 us).run Tryz.prog w = .ok (.enter 60 us) w := by kernel_rfl
theorem cf61 (us : Array Value) (w : World) : (callFunc 61 us).run Tryz.prog w = .ok (.enter 61 us) w := by kernel_rfl
theorem cf69 (us : Array Value) (w : World) : (callFunc 69 us).run Tryz.prog w = .ok (.enter 69 us) w := by kernel_rfl
theorem mk109 : (Tryz.prog.info? 109).map (fun i => (i.size, i.bytes, i.zero)) = some (1, 4, some (.int .u32 0)) := by kernel_rfl
theorem mtRdr_Seek (p : Addr) (w : World) : (method (Tryz.prog.types.size + Made.depth) 120 (.pointer (some p)) "Seek").run Tryz.prog w = .ok (150, .pointer (some p)) w := by kernel_rfl
theorem sz21 : (Tryz.prog.info? 21).map (·.size) = some 1 := by kernel_rfl
set_option maxHeartbeats 1000000 in
theorem scalar {w : World} {aE aU aP : Addr} (hg : Glob w aE aU aP) (b : Nat) (rb : RB) (db dO len cap n L g o dc t N pos bo bit : Nat) (stop : Bool) (p r : Int) (d : Nat → Nat) (f raw unp : Nat → Value) (hb : BR w b rb (bts (num d len) (8 * bo) 64 : Nat) bo bit (8 * min (len - bo) 8 : Nat) raw unp) (hr : Src w rb db dO len cap p r d) (hpos : 8 * bo + bit = pos) (hbit : bit ≤ 64) (hF : Row w g t N f) (hoL : o + L ≤ N) (hLc : L ≤ dc) (hL : L ≤ 1099511627776) (hn1 : 1 ≤ n) (hn2 : n ≤ 31) (hfit : pos + n * L ≤ 8 * len) (hgb : 6 ≤ b) (hrb : 6 ≤ rb.blk) (hgg : 6 ≤ g) (hne : b ≠ rb.blk) (hnd : b ≠ db) (hrd : rb.blk ≠ db) (hx1 : g ≠ b) (hx2 : g ≠ rb.blk) (hx3 : g ≠ db) :
    Ret Tryz.prog 60 #[.pointer (some ⟨b, 0, none⟩), .int .u64 (n : Int), .slice (some ⟨g, o, none⟩) L dc, .bool stop] w fun v w' => ∃ i, v = .tuple #[.int .i64 (i : Nat), .nilIface] ∧ i ≤ L ∧ (stop = false → i = L) ∧ Glob w' aE aU aP ∧ Same [g, b, rb.blk] w w' ∧ (∃ F, Row w' g t N F ∧ Put F f o L i (fun j => Value.int .i32 (bts (num d len) (pos + n * j) n : Nat))) ∧ ∃ (bo bit : Nat) (B V : Int) (raw unp : Nat → Value) (p r : Int), BR w' b rb B bo bit V raw unp ∧ Src w' rb db dO len cap p r d ∧ 8 * bo + bit = pos + n * i ∧ bit ≤ 64 ∧ (bit ≠ 0 → B = (bts (num d len) (8 * bo) 64 : Nat) ∧ V = (8 * min (len - bo) 8 : Nat)) ∧ (i < L → bit = 0) := by
  have hS := Same.refl [g, b, rb.blk] w
  have hlen := hr.len_
  have hput := Put.zero f o L (fun j => Value.int .i32 (bts (num d len) (pos + n * j) n : Nat))
  refine Ret.enter (vs := [.pointer (some ⟨b, 0, none⟩), .int .u64 (n : Int), .slice (some ⟨g, o, none⟩) L dc, .bool stop]) Tryz.func60 Tryz.ntmps60 rfl rfl ?_
  refine WC.seq (WC.region ?_)
  refine WR.assign rfl rfl ?_
  refine WR.assign rfl rfl ?_
  refine WR.nil (WN.seq ?_)
  refine WC.seq (WC.region ?_)
  refine WR.assign rfl rfl ?_
  refine WR.nil (WN.seq ?_)
  refine WC.seq (WC.block ?_)
  refine WC.loop (fun i : Nat => [(0, .pointer (some ⟨b, 0, none⟩)), (1, .int .u64 (n : Nat)), (2, .slice (some ⟨g, o, none⟩) L dc), (3, .bool stop), (10, .int .i64 (i : Nat))]) (fun m i w' => i + m = L ∧ Glob w' aE aU aP ∧ Same [g, b, rb.blk] w w' ∧ ∃ F, Row w' g t N F ∧ Put F f o L i (fun j => Value.int .i32 (bts (num d len) (pos + n * j) n : Nat)) ∧ ∃ (bo bit : Nat) (raw unp : Nat → Value) (p r : Int), BR w' b rb (bts (num d len) (8 * bo) 64 : Nat) bo bit (8 * min (len - bo) 8 : Nat) raw unp ∧ Src w' rb db dO len cap p r d ∧ 8 * bo + bit = pos + n * i ∧ bit ≤ 64) L 0 ⟨rfl, rfl, rfl, rfl, rfl, trivial⟩ ⟨by omega, hg, hS, f, hF, hput, bo, bit, raw, unp, p, r, hb, hr, by omega, hbit⟩ ?_
  clear hg hS hF hput hb hr hpos hbit
  rintro m i w1 ⟨hm, hg, hS, F, hF, hput, bo, bit, raw, unp, p, r, hb, hr, hpos, hbit⟩
  have hni0 := Nat.mul_le_mul_left n (show i ≤ L by omega)
  refine WC.seq (WC.seq (WC.region ?_))
  refine WR.move rfl rfl ?_
  refine WR.move rfl rfl ?_
  refine WR.lenS rfl Tryz.underlying141 rfl ?_
  refine WR.bin rfl rfl rfl rfl ?_
  refine WR.nil (WN.seq ?_)
  refine WC.cond rfl (fun h305 => ?_) (fun h305 => ?_)
  · skip
    simp only [decide_eq_true_eq] at h305
    refine WC.skip (WN.seq ?_)
    refine WC.block (WC.seq ?_)
    refine WC.cut (fun _ : Unit => [(0, .pointer (some ⟨b, 0, none⟩)), (1, .int .u64 (n : Nat)), (2, .slice (some ⟨g, o, none⟩) L dc), (3, .bool stop), (10, .int .i64 (i : Nat))]) (fun _ w' => w' = w1) ?_ ?_
    · skip
      rcases (show stop = false ∨ (stop = true ∧ bit = 0) ∨ (stop = true ∧ bit ≠ 0) by cases stop <;> simp <;> omega) with hst | ⟨hst, hb0⟩ | ⟨hst, hb0⟩
      · skip
        subst hst
        refine WC.seq (WC.region ?_)
        refine WR.move rfl rfl ?_
        refine WR.move rfl rfl ?_
        refine WR.pass rfl rfl rfl rfl ?_
        refine WR.pass rfl rfl rfl rfl ?_
        refine WR.pass rfl rfl rfl rfl ?_
        refine WR.pass rfl rfl rfl rfl ?_
        refine WR.pass rfl rfl rfl rfl ?_
        refine WR.pass rfl rfl rfl rfl ?_
        refine WR.passU rfl rfl rfl ?_
        refine WR.passU rfl rfl rfl ?_
        refine WR.passU rfl rfl rfl ?_
        refine WR.passU rfl rfl rfl ?_
        refine WR.passU rfl rfl rfl ?_
        refine WR.pass rfl rfl rfl rfl ?_
        refine WR.pickF rfl rfl rfl rfl ?_
        refine WR.nil (WN.seq ?_)
        refine WC.cond rfl (fun h306 => ?_) (fun h306 => ?_)
        · skip
          cases h306
        · skip
          simp only at h306
          refine WC.skip ?_
          exact WN.loop 0 () (by decide) ⟨rfl, rfl, rfl, rfl, rfl, trivial⟩ rfl
      · skip
        subst hst
        subst hb0
        refine WC.seq (WC.region ?_)
        refine WR.move rfl rfl ?_
        refine WR.move rfl rfl ?_
        refine WR.take rfl rfl rfl ?_
        refine WR.move rfl rfl ?_
        refine WR.take rfl rfl rfl ?_
        refine WR.nilCheckP rfl rfl ?_
        refine WR.take rfl rfl rfl ?_
        refine WR.field rfl fa152_3 rfl ?_
        refine WR.take rfl rfl rfl ?_
        refine WR.load rfl Tryz.underlying110 rfl hb.c3 rfl ?_
        refine WR.take rfl rfl rfl ?_
        refine WR.bin rfl rfl rfl rfl ?_
        refine WR.take rfl rfl rfl ?_
        refine WR.move rfl rfl ?_
        refine WR.pass rfl rfl rfl rfl ?_
        refine WR.pass rfl rfl rfl rfl ?_
        refine WR.pass rfl rfl rfl rfl ?_
        refine WR.pass rfl rfl rfl rfl ?_
        refine WR.pass rfl rfl rfl rfl ?_
        refine WR.take rfl rfl rfl ?_
        refine WR.pickT rfl rfl rfl rfl ?_
        refine WR.pickT rfl rfl rfl rfl ?_
        refine WR.nil (WN.seq ?_)
        refine WC.cond rfl (fun h306 => ?_) (fun h306 => ?_)
        · skip
          simp only at h306
          refine WC.seq (WC.seq (WC.region ?_))
          refine WR.move rfl rfl ?_
          refine WR.nilCheckP rfl rfl ?_
          refine WR.field rfl fa152_3 rfl ?_
          refine WR.load rfl Tryz.underlying110 rfl hb.c3 rfl ?_
          refine WR.bin rfl rfl rfl rfl ?_
          refine WR.nil (WN.seq ?_)
          refine WC.cond rfl (fun h307 => ?_) (fun h307 => ?_)
          · skip
            simp only [beq_iff_eq] at h307
            omega
          · skip
            simp only [beq_eq_false_iff_ne, ne_eq] at h307
            refine WC.skip (WN.seq ?_)
            refine WC.seq (WC.region ?_)
            refine WR.move rfl rfl ?_
            refine WR.assign rfl rfl ?_
            refine WR.assign rfl rfl ?_
            refine WR.nil (WN.seq ?_)
            refine WC.retR rfl rfl ?_
            exact ⟨i, rfl, by omega, fun h => (by cases h), hg, hS, ⟨F, hF, hput⟩, bo, 0, _, _, raw, unp, p, r, hb, hr, by omega, by omega, fun h => absurd rfl h, fun _ => rfl⟩
        · skip
          cases h306
      · skip
        subst hst
        refine WC.seq (WC.region ?_)
        refine WR.move rfl rfl ?_
        refine WR.move rfl rfl ?_
        refine WR.take rfl rfl rfl ?_
        refine WR.move rfl rfl ?_
        refine WR.take rfl rfl rfl ?_
        refine WR.nilCheckP rfl rfl ?_
        refine WR.take rfl rfl rfl ?_
        refine WR.field rfl fa152_3 rfl ?_
        refine WR.take rfl rfl rfl ?_
        refine WR.load rfl Tryz.underlying110 rfl hb.c3 rfl ?_
        refine WR.take rfl rfl rfl ?_
        refine WR.bin rfl rfl rfl rfl ?_
        refine WR.take rfl rfl rfl ?_
        refine WR.move rfl rfl ?_
        refine WR.take rfl rfl (by first | rfl | assumption | simp_all) ?_
        refine WR.move rfl rfl ?_
        refine WR.take rfl rfl (by first | rfl | assumption | simp_all) ?_
        refine WR.nilCheckP rfl rfl ?_
        refine WR.take rfl rfl (by first | rfl | assumption | simp_all) ?_
        refine WR.field rfl fa152_3 rfl ?_
        refine WR.take rfl rfl (by first | rfl | assumption | simp_all) ?_
        refine WR.load rfl Tryz.underlying110 rfl hb.c3 rfl ?_
        refine WR.take rfl rfl (by first | rfl | assumption | simp_all) ?_
        refine WR.bin rfl rfl rfl rfl ?_
        refine WR.take rfl rfl rfl ?_
        refine WR.pickF rfl (by first | rfl | assumption | simp_all) rfl rfl ?_
        refine WR.pickT rfl rfl rfl rfl ?_
        refine WR.nil (WN.seq ?_)
        refine WC.cond rfl (fun h306 => ?_) (fun h306 => ?_)
        · skip
          simp only [beq_iff_eq] at h306
          refine WC.seq (WC.seq (WC.region ?_))
          refine WR.move rfl rfl ?_
          refine WR.nilCheckP rfl rfl ?_
          refine WR.field rfl fa152_3 rfl ?_
          refine WR.load rfl Tryz.underlying110 rfl hb.c3 rfl ?_
          refine WR.bin rfl rfl rfl rfl ?_
          refine WR.nil (WN.seq ?_)
          refine WC.cond rfl (fun h307 => ?_) (fun h307 => ?_)
          · skip
            simp only [beq_iff_eq] at h307
            refine WC.seq (WC.region ?_)
            refine WR.move rfl rfl ?_
            refine WR.nilCheckP rfl rfl ?_
            refine WR.field rfl fa152_2 rfl ?_
            refine WR.load rfl Tryz.underlying2 rfl hb.c2 rfl ?_
            (refine WR.bin rfl rfl (ar_add (z := ((bo + 8 : Nat) : Int)) ?_) rfl ?_; (rw [wrap_i64 (by omega) (by omega)]; omega))
            refine WR.nilCheckP rfl rfl ?_
            refine WR.field rfl fa152_2 rfl ?_
            refine WR.storeK rfl rfl rfl sz2 hb.c2 (hb.fz 2) ?_
            intro w2 hn hs
            replace hb := hb.s2 hn
            replace hg := hg.same hs (by simp <;> omega)
            replace hr := hr.same hs (by simp <;> omega) (by simp <;> omega)
            replace hF := hF.same hs (by simp <;> omega)
            replace hS := hS.trans hs (by simp)
            clear hn hs
            refine WR.nil (WN.seq (WC.region ?_))
            refine WR.move rfl rfl ?_
            refine WR.nilCheckP rfl rfl ?_
            refine WR.field rfl fa152_3 rfl ?_
            refine WR.storeK rfl rfl rfl sz110 hb.c3 (hb.fz 3) ?_
            intro w3 hn hs
            replace hb := hb.s3 hn
            replace hg := hg.same hs (by simp <;> omega)
            replace hr := hr.same hs (by simp <;> omega) (by simp <;> omega)
            replace hF := hF.same hs (by simp <;> omega)
            replace hS := hS.trans hs (by simp)
            clear hn hs
            refine WR.nil (WN.seq ?_)
            refine WC.seq (WC.region ?_)
            refine WR.move rfl rfl ?_
            refine WR.assign rfl rfl ?_
            refine WR.assign rfl rfl ?_
            refine WR.nil (WN.seq ?_)
            refine WC.retR rfl rfl ?_
            exact ⟨i, rfl, by omega, fun h => (by cases h), hg, hS, ⟨F, hF, hput⟩, bo + 8, 0, _, _, raw, unp, p, r, hb, hr, by omega, by omega, fun h => absurd rfl h, fun _ => rfl⟩
          · skip
            simp only [beq_eq_false_iff_ne, ne_eq] at h307
            omega
        · skip
          simp only [beq_eq_false_iff_ne, ne_eq] at h306
          refine WC.skip ?_
          exact WN.loop 0 () (by decide) ⟨rfl, rfl, rfl, rfl, rfl, trivial⟩ rfl
    · skip
      rintro _ w9 hw9
      have hw8 := hw9.symm
      clear hw9
      subst hw8
      refine WN.seq (WC.seq (WC.seq ?_))
      refine WC.mix [75] mixed (by kernel_rfl) ?_
      replace hg := hg.same (Same.drew _) (by simp <;> omega)
      replace hr := hr.same (Same.drew _) (by simp <;> omega) (by simp <;> omega)
      replace hb := hb.same (Same.drew _) (by simp <;> omega)
      replace hF := hF.same (Same.drew _) (by simp <;> omega)
      replace hS := hS.trans (Same.drew _) (by simp)
      refine WR.move rfl rfl ?_
      refine WR.nilCheckP rfl rfl ?_
      refine WR.field rfl fa152_3 rfl ?_
      refine WR.load rfl Tryz.underlying110 rfl hb.c3 rfl ?_
      refine WR.move rfl rfl ?_
      refine WR.nilCheckP rfl rfl ?_
      refine WR.field rfl fa152_4 rfl ?_
      refine WR.load rfl Tryz.underlying110 rfl hb.c4 rfl ?_
      refine WR.bin rfl rfl rfl rfl ?_
      refine WR.nil (WN.seq ?_)
      refine WC.cond rfl (fun h314 => ?_) (fun h314 => ?_)
      · skip
        simp only [decide_eq_true_eq] at h314
        refine WC.seq ?_
        refine WC.mix [75] mixed (by kernel_rfl) ?_
        replace hg := hg.same (Same.drew _) (by simp <;> omega)
        replace hr := hr.same (Same.drew _) (by simp <;> omega) (by simp <;> omega)
        replace hb := hb.same (Same.drew _) (by simp <;> omega)
        replace hF := hF.same (Same.drew _) (by simp <;> omega)
        replace hS := hS.trans (Same.drew _) (by simp)
        refine WR.move rfl rfl ?_
        refine WR.nilCheckP rfl rfl ?_
        refine WR.field rfl fa152_4 rfl ?_
        refine WR.load rfl Tryz.underlying110 rfl hb.c4 rfl ?_
        refine WR.move rfl rfl ?_
        refine WR.nilCheckP rfl rfl ?_
        refine WR.field rfl fa152_3 rfl ?_
        refine WR.load rfl Tryz.underlying110 rfl hb.c3 rfl ?_
        (refine WR.bin rfl rfl (ar_sub (z := ((8 * min (len - bo) 8 - bit : Nat) : Int)) ?_) rfl ?_; (rw [wrap_u64 (by omega) (by omega)]; omega))
        refine WR.move rfl rfl ?_
        refine WR.bin rfl rfl (quo_nat hn1 (by omega)) rfl ?_
        refine WR.conv rfl Tryz.underlying110 Tryz.underlying3 (wrap_i64 (Int.natCast_nonneg _) (Int.le_trans (Int.ofNat_le.2 (Nat.div_le_self _ n)) (by omega))) rfl ?_
        refine WR.assign rfl rfl ?_
        refine WR.nil (WN.seq ?_)
        refine WC.seq (WC.region ?_)
        refine WR.move rfl rfl ?_
        refine WR.move rfl rfl ?_
        refine WR.lenS rfl Tryz.underlying141 rfl ?_
        refine WR.move rfl rfl ?_
        (refine WR.bin rfl rfl (ar_sub (z := ((L - i : Nat) : Int)) ?_) rfl ?_; (rw [wrap_i64 (by omega) (by omega)]; omega))
        refine WR.min2 rfl rfl rfl ?_
        obtain ⟨kk, hkk⟩ : ∃ kk, kk = min ((8 * min (len - bo) 8 - bit) / n) (L - i) := ⟨_, rfl⟩
        rw [show (if ((L - i : Nat) : Int) < (((8 * min (len - bo) 8 - bit) / n : Nat) : Int) then ((L - i : Nat) : Int) else (((8 * min (len - bo) 8 - bit) / n : Nat) : Int)) = ((kk : Nat) : Int) by split <;> omega]
        have hkn : n * kk ≤ 8 * min (len - bo) 8 - bit := Nat.le_trans (Nat.mul_le_mul_left n (show kk ≤ (8 * min (len - bo) 8 - bit) / n by omega)) (Nat.mul_div_le _ n)
        have hki : kk ≤ L - i := by omega
        clear hkk
        refine WR.assign rfl rfl ?_
        refine WR.nil (WN.seq ?_)
        refine WC.seq (WC.seq (WC.region ?_))
        refine WR.move rfl rfl ?_
        refine WR.move rfl rfl ?_
        refine WR.nil (WN.seq (WC.block ?_))
        refine WC.loop (fun j : Nat => [(77, .int .i64 (kk : Nat)), (78, .int .i64 (j : Nat)), (11, .int .i64 (kk : Nat)), (10, .int .i64 (i + j : Nat)), (0, .pointer (some ⟨b, 0, none⟩)), (1, .int .u64 (n : Nat)), (2, .slice (some ⟨g, o, none⟩) L dc), (3, .bool stop)]) (fun m j w' => j + m = kk ∧ Glob w' aE aU aP ∧ Same [g, b, rb.blk] w w' ∧ ∃ F, Row w' g t N F ∧ Put F f o L (i + j) (fun j => Value.int .i32 (bts (num d len) (pos + n * j) n : Nat)) ∧ BR w' b rb (bts (num d len) (8 * bo) 64 : Nat) bo (bit + n * j : Nat) (8 * min (len - bo) 8 : Nat) raw unp ∧ Src w' rb db dO len cap p r d) kk 0 ⟨rfl, rfl, rfl, rfl, rfl, rfl, rfl, rfl, trivial⟩ ⟨by omega, hg, hS, F, hF, hput, hb, hr⟩ ?_
        clear hg hS hF hput hb hr
        rintro m2 j w2 ⟨hm2, hg, hS, F, hF, hput, hb, hr⟩
        refine WC.seq (WC.region ?_)
        refine WR.bin rfl rfl rfl rfl ?_
        refine WR.nil (WN.seq (WC.seq ?_))
        refine WC.cond rfl (fun h317 => ?_) (fun h317 => ?_)
        · skip
          simp only [decide_eq_true_eq] at h317
          have hnj := Nat.mul_le_mul_left n (show j + 1 ≤ kk by omega)
          rw [Nat.mul_add_one] at hnj
          refine WC.skip (WN.seq ?_)
          refine WC.seq (WC.block ?_)
          refine WC.seq (WC.region ?_)
          refine WR.move rfl rfl ?_
          refine WR.nilCheckP rfl rfl ?_
          refine WR.field rfl fa152_3 rfl ?_
          refine WR.load rfl Tryz.underlying110 rfl hb.c3 rfl ?_
          refine WR.move rfl rfl ?_
          (refine WR.bin rfl rfl (ar_add (z := ((bit + n * j + n : Nat) : Int)) ?_) rfl ?_; (rw [wrap_u64 (by omega) (by omega)]; omega))
          refine WR.assign rfl rfl ?_
          refine WR.nil (WN.seq (WC.seq ?_))
          refine WC.mix [75] mixed (by kernel_rfl) ?_
          replace hg := hg.same (Same.drew _) (by simp <;> omega)
          replace hr := hr.same (Same.drew _) (by simp <;> omega) (by simp <;> omega)
          replace hb := hb.same (Same.drew _) (by simp <;> omega)
          replace hF := hF.same (Same.drew _) (by simp <;> omega)
          replace hS := hS.trans (Same.drew _) (by simp)
          refine WR.move rfl rfl ?_
          refine WR.move rfl rfl ?_
          refine WR.move rfl rfl ?_
          refine WR.nilCheckP rfl rfl ?_
          refine WR.field rfl fa152_1 rfl ?_
          refine WR.load rfl Tryz.underlying33 rfl hb.c1 rfl ?_
          refine WR.move rfl rfl ?_
          refine WR.callFS rfl rfl cf75 rfl rfl (trailing _ (bit + n * j + n) _ (bts_lt _ _ 64) (by omega)) ?_
          refine WR.move rfl rfl ?_
          refine WR.nilCheckP rfl rfl ?_
          refine WR.field rfl fa152_3 rfl ?_
          refine WR.load rfl Tryz.underlying110 rfl hb.c3 rfl ?_
          refine WR.shr rfl rfl (by omega) (shr_nat _ _ (by omega)) rfl ?_
          refine WR.conv rfl Tryz.underlying33 Tryz.underlying21 (show _ = ((bts (num d len) (8 * bo + (bit + n * j)) n : Nat) : Int) by rw [next_plain (by omega)]; exact w31 _ _ _ hn2) rfl ?_
          refine WR.idxK (i + j) rfl rfl Tryz.underlying141 sz21 (by omega) (by omega) rfl ?_
          refine WR.storeK rfl rfl rfl sz21 (hF.cell (by omega)) (hF.fz _) ?_
          intro w3 hn hs
          replace hF := hF.set' hn
          replace hg := hg.same hs (by simp <;> omega)
          replace hr := hr.same hs (by simp <;> omega) (by simp <;> omega)
          replace hb := hb.same hs (by simp <;> omega)
          replace hS := hS.trans hs (by simp)
          clear hn hs
          refine WR.nil (WN.seq ?_)
          refine WC.seq (WC.region ?_)
          refine WR.move rfl rfl ?_
          refine WR.move rfl rfl ?_
          refine WR.nilCheckP rfl rfl ?_
          refine WR.field rfl fa152_3 rfl ?_
          refine WR.storeK rfl rfl rfl sz110 hb.c3 (hb.fz 3) ?_
          intro w4 hn hs
          replace hb := hb.s3 hn
          replace hg := hg.same hs (by simp <;> omega)
          replace hr := hr.same hs (by simp <;> omega) (by simp <;> omega)
          replace hF := hF.same hs (by simp <;> omega)
          replace hS := hS.trans hs (by simp)
          clear hn hs
          refine WR.nil (WN.seq (WC.region ?_))
          refine WR.move rfl rfl ?_
          (refine WR.bin rfl rfl (ar_add (wrap_i64 ?_ ?_)) rfl ?_; (omega); (omega))
          refine WR.assign rfl rfl ?_
          refine WR.nil (WN.block ?_)
          refine WN.seq (WC.region ?_)
          (refine WR.bin rfl rfl (ar_add (wrap_i64 ?_ ?_)) rfl ?_; (omega); (omega))
          refine WR.move rfl rfl ?_
          refine WR.nil ?_
          rw [show bit + n * j + n = bit + n * (j + 1) by rw [Nat.mul_add_one]; omega] at hb
          exact WN.loop (m2 - 1) (j + 1) (by omega) ⟨rfl, kint rfl (by omega), rfl, kint rfl (by omega), rfl, rfl, rfl, rfl, trivial⟩ ⟨by omega, hg, hS, _, hF, hput.step (by omega) (by rw [show 8 * bo + (bit + n * j) = pos + n * (i + j) by rw [Nat.mul_add]; omega]), hb, hr⟩
        · skip
          simp only [decide_eq_false_iff_not, Int.not_lt] at h317
          have hjk : j = kk := by omega
          subst hjk
          refine WC.exit rfl ?_
          refine WN.seq (WC.seq (WC.region ?_))
          refine WR.move rfl rfl ?_
          refine WR.bin rfl rfl rfl rfl ?_
          refine WR.nil (WN.seq ?_)
          refine WC.cond rfl (fun h323 => ?_) (fun h323 => ?_)
          · skip
            simp only [gt_iff_lt, decide_eq_true_eq] at h323
            have hk0 : 0 < j := by omega
            refine WC.exit rfl ?_
            exact WN.loop (m - j) (i + j) (by omega) ⟨rfl, rfl, rfl, rfl, kint rfl (by omega), trivial⟩ ⟨by omega, hg, hS, F, hF, hput, bo, bit + n * j, raw, unp, p, r, hb, hr, by rw [Nat.mul_add]; omega, by omega⟩
          · skip
            simp only [gt_iff_lt, decide_eq_false_iff_not, Int.not_lt] at h323
            obtain rfl : j = 0 := by omega
            rw [Nat.mul_zero, Nat.add_zero] at hb
            refine WC.skip (WN.seq ?_)
            refine WC.seq (WC.region ?_)
            refine WR.move rfl rfl ?_
            refine WR.move rfl rfl ?_
            have hni := Nat.mul_le_mul_left n (show i + 1 ≤ L by omega)
            rw [Nat.mul_add_one] at hni
            refine WR.callF rfl rfl cf69 rfl rfl (next_ hg b rb db dO len cap bo bit n p r d raw unp hb hr (by omega) hn1 (by omega) (by omega) hgb hne hnd) ?_
            rintro _ w3 ⟨rfl, ⟨bo2, bit2, raw2, hb', hpos2, hbit1, hbit2⟩, hs⟩
            replace hb := hb'
            clear hb'
            replace hg := hg.same hs (by simp <;> omega)
            replace hr := hr.same hs (by simp <;> omega) (by simp <;> omega)
            replace hF := hF.same hs (by simp <;> omega)
            replace hS := hS.trans hs (by simp)
            refine WR.move rfl rfl ?_
            refine WR.extract rfl rfl rfl ?_
            refine WR.extract rfl rfl rfl ?_
            refine WR.assign rfl rfl ?_
            refine WR.assign rfl rfl ?_
            refine WR.nil (WN.seq ?_)
            refine WC.seq (WC.seq (WC.region ?_))
            refine WR.move rfl rfl ?_
            refine WR.neqNil rfl rfl Tryz.underlying54 rfl ?_
            refine WR.nil (WN.seq ?_)
            refine WC.cond rfl (fun h329 => ?_) (fun h329 => ?_)
            · skip
              cases h329
            · skip
              simp only at h329
              refine WC.skip (WN.seq ?_)
              refine WC.seq (WC.region ?_)
              refine WR.move rfl rfl ?_
              refine WR.move rfl rfl ?_
              refine WR.move rfl rfl ?_
              refine WR.conv rfl Tryz.underlying33 Tryz.underlying21 (w31 _ _ _ hn2) rfl ?_
              refine WR.idxK (i) rfl rfl Tryz.underlying141 sz21 (by omega) (by omega) rfl ?_
              refine WR.storeK rfl rfl rfl sz21 (hF.cell (by omega)) (hF.fz _) ?_
              intro w4 hn hs
              replace hF := hF.set' hn
              replace hg := hg.same hs (by simp <;> omega)
              replace hr := hr.same hs (by simp <;> omega) (by simp <;> omega)
              replace hb := hb.same hs (by simp <;> omega)
              replace hS := hS.trans hs (by simp)
              clear hn hs
              refine WR.nil (WN.seq (WC.region ?_))
              refine WR.move rfl rfl ?_
              (refine WR.bin rfl rfl (ar_add (wrap_i64 ?_ ?_)) rfl ?_; (omega); (omega))
              refine WR.assign rfl rfl ?_
              refine WR.nil (WN.block ?_)
              exact WN.loop (m - 1) (i + 1) (by omega) ⟨rfl, rfl, rfl, rfl, kint rfl (by omega), trivial⟩ ⟨by omega, hg, hS, _, hF, hput.step (by omega) (by rw [hpos]; try rfl), bo2, bit2, raw2, unp, p, r, hb, hr, by rw [Nat.mul_add_one]; omega, by omega⟩
      · skip
        simp only [decide_eq_false_iff_not, Int.not_lt] at h314
        refine WC.skip (WN.seq ?_)
        refine WC.seq (WC.region ?_)
        refine WR.move rfl rfl ?_
        refine WR.move rfl rfl ?_
        have hni := Nat.mul_le_mul_left n (show i + 1 ≤ L by omega)
        rw [Nat.mul_add_one] at hni
        refine WR.callF rfl rfl cf69 rfl rfl (next_ hg b rb db dO len cap bo bit n p r d raw unp hb hr (by omega) hn1 (by omega) (by omega) hgb hne hnd) ?_
        rintro _ w2 ⟨rfl, ⟨bo2, bit2, raw2, hb', hpos2, hbit1, hbit2⟩, hs⟩
        replace hb := hb'
        clear hb'
        replace hg := hg.same hs (by simp <;> omega)
        replace hr := hr.same hs (by simp <;> omega) (by simp <;> omega)
        replace hF := hF.same hs (by simp <;> omega)
        replace hS := hS.trans hs (by simp)
        refine WR.move rfl rfl ?_
        refine WR.extract rfl rfl rfl ?_
        refine WR.extract rfl rfl rfl ?_
        refine WR.assign rfl rfl ?_
        refine WR.assign rfl rfl ?_
        refine WR.nil (WN.seq ?_)
        refine WC.seq (WC.seq (WC.region ?_))
        refine WR.move rfl rfl ?_
        refine WR.neqNil rfl rfl Tryz.underlying54 rfl ?_
        refine WR.nil (WN.seq ?_)
        refine WC.cond rfl (fun h329 => ?_) (fun h329 => ?_)
        · skip
          cases h329
        · skip
          simp only at h329
          refine WC.skip (WN.seq ?_)
          refine WC.seq (WC.region ?_)
          refine WR.move rfl rfl ?_
          refine WR.move rfl rfl ?_
          refine WR.move rfl rfl ?_
          refine WR.conv rfl Tryz.underlying33 Tryz.underlying21 (w31 _ _ _ hn2) rfl ?_
          refine WR.idxK (i) rfl rfl Tryz.underlying141 sz21 (by omega) (by omega) rfl ?_
          refine WR.storeK rfl rfl rfl sz21 (hF.cell (by omega)) (hF.fz _) ?_
          intro w3 hn hs
          replace hF := hF.set' hn
          replace hg := hg.same hs (by simp <;> omega)
          replace hr := hr.same hs (by simp <;> omega) (by simp <;> omega)
          replace hb := hb.same hs (by simp <;> omega)
          replace hS := hS.trans hs (by simp)
          clear hn hs
          refine WR.nil (WN.seq (WC.region ?_))
          refine WR.move rfl rfl ?_
          (refine WR.bin rfl rfl (ar_add (wrap_i64 ?_ ?_)) rfl ?_; (omega); (omega))
          refine WR.assign rfl rfl ?_
          refine WR.nil (WN.block ?_)
          exact WN.loop (m - 1) (i + 1) (by omega) ⟨rfl, rfl, rfl, rfl, kint rfl (by omega), trivial⟩ ⟨by omega, hg, hS, _, hF, hput.step (by omega) (by rw [hpos]; try rfl), bo2, bit2, raw2, unp, p, r, hb, hr, by rw [Nat.mul_add_one]; omega, by omega⟩
  · skip
    simp only [decide_eq_false_iff_not, Int.not_lt] at h305
    obtain rfl : i = L := by omega
    refine WC.exit rfl ?_
    refine WN.seq (WC.seq (WC.region ?_))
    refine WR.move rfl rfl ?_
    refine WR.assign rfl rfl ?_
    refine WR.assign rfl rfl ?_
    refine WR.nil (WN.seq ?_)
    refine WC.retR rfl rfl ?_
    exact ⟨i, rfl, by omega, fun _ => rfl, hg, hS, ⟨F, hF, hput⟩, bo, bit, _, _, raw, unp, p, r, hb, hr, hpos, hbit, fun _ => ⟨rfl, rfl⟩, fun h => by omega⟩

theorem Put.join {F F2 f : Nat → Value} {o o2 L i n pos : Nat} {B : Nat} {k : IntKind} (h1 : Put F f o L i (fun j => Value.int k (bts B (pos + n * j) n : Nat))) (h2 : Put F2 F o2 (L - i) (L - i) (fun j => Value.int k (bts B (pos + n * i + n * j) n : Nat)))
    (hi : i ≤ L) (ho : o2 = o + i ∨ (L - i = 0 ∧ o2 = o)) : Put F2 f o L L (fun j => Value.int k (bts B (pos + n * j) n : Nat)) := by
  refine ⟨fun j hj => ?_, fun x hx => ?_⟩
  · by_cases hji : j < i
    · rw [h2.2 _ (by omega)]
      exact h1.1 j hji
    · have h3 := h2.1 (j - i) (by omega)
      rw [show o2 + (j - i) = o + j by omega] at h3
      rw [h3]
      show (Value.int k (bts B (pos + n * i + n * (j - i)) n : Nat)) = Value.int k (bts B (pos + n * j) n : Nat)
      rw [show pos + n * i + n * (j - i) = pos + n * j by rw [Nat.add_assoc, ← Nat.mul_add, show i + (j - i) = j by omega]]
  · rw [h2.2 _ (by omega), h1.2 _ hx]

set_option maxHeartbeats 1000000 in
theorem batchIndex {w : World} {aE aU aP : Addr} (hg : Glob w aE aU aP) (b : Nat) (rb : RB) (db dO len cap n L g o dc t N pos : Nat) (d : Nat → Nat) (f : Nat → Value) (ha : At w b rb db dO len cap d pos) (hF : Row w g t N f) (hoL : o + L ≤ N) (hLc : L ≤ dc) (hL : L ≤ 1099511627776) (hn1 : 1 ≤ n) (hn2 : n ≤ 31) (hfit : pos + n * L ≤ 8 * len) (hgb : 6 ≤ b) (hrb : 6 ≤ rb.blk) (hgg : 6 ≤ g) (hne : b ≠ rb.blk) (hnd : b ≠ db) (hrd : rb.blk ≠ db) (hx1 : g ≠ b) (hx2 : g ≠ rb.blk) (hx3 : g ≠ db) :
    Ret Tryz.prog 55 #[.pointer (some ⟨b, 0, none⟩), .int .u64 (n : Int), .slice (some ⟨g, o, none⟩) L dc] w fun v w' => v = .tuple #[.int .i64 (L : Nat), .nilIface] ∧ At w' b rb db dO len cap d (pos + n * L) ∧ (∃ F, Row w' g t N F ∧ Put F f o L L (fun j => Value.int .i32 (bts (num d len) (pos + n * j) n : Nat))) ∧ Same [g, b, rb.blk] w w' := by
  have hS := Same.refl [g, b, rb.blk] w
  obtain ⟨bo, bit, B, V, raw, unp, p, r, hb, hr, hpos, hbit, hB⟩ := ha
  have hlen := hr.len_
  have hput := Put.zero f o L (fun j => Value.int .i32 (bts (num d len) (pos + n * j) n : Nat))
  refine Ret.enter (vs := [.pointer (some ⟨b, 0, none⟩), .int .u64 (n : Int), .slice (some ⟨g, o, none⟩) L dc]) Tryz.func55 Tryz.ntmps55 rfl rfl ?_
  refine WC.seq (WC.region ?_)
  refine WR.assign rfl rfl ?_
  refine WR.assign rfl rfl ?_
  refine WR.nil (WN.seq ?_)
  refine WC.seq (WC.seq (WC.region ?_))
  refine WR.move rfl rfl ?_
  refine WR.bin rfl rfl rfl rfl ?_
  refine WR.nil (WN.seq ?_)
  refine WC.cond rfl (fun h343 => ?_) (fun h343 => ?_)
  · skip
    simp only [gt_iff_lt, decide_eq_true_eq] at h343
    omega
  · skip
    simp only [gt_iff_lt, decide_eq_false_iff_not, Int.not_lt] at h343
    refine WC.skip (WN.seq ?_)
    refine WC.seq (WC.seq (WC.region ?_))
    refine WR.move rfl rfl ?_
    refine WR.bin rfl rfl rfl rfl ?_
    refine WR.nil (WN.seq ?_)
    refine WC.cond rfl (fun h346 => ?_) (fun h346 => ?_)
    · skip
      simp only [beq_iff_eq] at h346
      omega
    · skip
      simp only [beq_eq_false_iff_ne, ne_eq] at h346
      refine WC.skip (WN.seq ?_)
      refine WC.seq (WC.region ?_)
      refine WR.move rfl rfl ?_
      refine WR.lenS rfl Tryz.underlying141 rfl ?_
      refine WR.assign rfl rfl ?_
      refine WR.nil (WN.seq (WC.seq ?_))
      refine WC.cut (fun i : Nat => [(0, .pointer (some ⟨b, 0, none⟩)), (1, .int .u64 (n : Nat)), (2, .slice (some ⟨g, o, none⟩) L dc), (6, .int .i64 (i : Nat)), (8, .int .i64 (L : Nat))]) (fun i w' => i ≤ L ∧ Glob w' aE aU aP ∧ Same [g, b, rb.blk] w w' ∧ ∃ F, Row w' g t N F ∧ Put F f o L i (fun j => Value.int .i32 (bts (num d len) (pos + n * j) n : Nat)) ∧ ∃ (bo : Nat) (B V : Int) (raw unp : Nat → Value) (p r : Int), BR w' b rb B bo (0 : Nat) V raw unp ∧ Src w' rb db dO len cap p r d ∧ 8 * bo = pos + n * i) ?_ ?_
      · skip
        refine WC.seq (WC.region ?_)
        refine WR.move rfl rfl ?_
        refine WR.nilCheckP rfl rfl ?_
        refine WR.field rfl fa152_3 rfl ?_
        refine WR.load rfl Tryz.underlying110 rfl hb.c3 rfl ?_
        refine WR.bin rfl rfl rfl rfl ?_
        refine WR.nil (WN.seq ?_)
        refine WC.cond rfl (fun h353 => ?_) (fun h353 => ?_)
        · skip
          simp only [bne_iff_ne, ne_eq] at h353
          have hbt : bit ≠ 0 := by omega
          obtain ⟨rfl, rfl⟩ := hB hbt
          refine WC.seq (WC.region ?_)
          refine WR.assign rfl rfl ?_
          refine WR.nil (WN.seq ?_)
          refine WC.seq (WC.region ?_)
          refine WR.move rfl rfl ?_
          refine WR.move rfl rfl ?_
          refine WR.move rfl rfl ?_
          refine WR.callF rfl rfl cf60 rfl rfl (scalar hg b rb db dO len cap n L g o dc t N pos bo bit true p r d f raw unp hb hr hpos hbit hF hoL hLc hL hn1 hn2 hfit hgb hrb hgg hne hnd hrd hx1 hx2 hx3) ?_
          rintro _ w1 ⟨i, rfl, hiL, -, hg, hs, ⟨F, hF, hput⟩, bo2, bit2, B2, V2, raw3, unp3, p3, r3, hb, hr, hpos2, hbit2, hB2, hz2⟩
          replace hS := hS.trans hs (by simp)
          refine WR.move rfl rfl ?_
          refine WR.extract rfl rfl rfl ?_
          refine WR.extract rfl rfl rfl ?_
          refine WR.assign rfl rfl ?_
          refine WR.assign rfl rfl ?_
          refine WR.nil (WN.seq ?_)
          refine WC.seq (WC.region ?_)
          refine WR.move rfl rfl ?_
          refine WR.move rfl rfl ?_
          (refine WR.bin rfl rfl (ar_add (z := ((i : Nat) : Int)) ?_) rfl ?_; (rw [wrap_i64 (by omega) (by omega)]; omega))
          refine WR.assign rfl rfl ?_
          refine WR.nil (WN.seq ?_)
          refine WC.seq (WC.seq (WC.region ?_))
          refine WR.move rfl rfl ?_
          refine WR.neqNil rfl rfl Tryz.underlying54 rfl ?_
          refine WR.nil (WN.seq ?_)
          refine WC.cond rfl (fun h357 => ?_) (fun h357 => ?_)
          · skip
            cases h357
          · skip
            simp only at h357
            refine WC.skip (WN.seq ?_)
            refine WC.seq (WC.region ?_)
            refine WR.move rfl rfl ?_
            refine WR.move rfl rfl ?_
            refine WR.bin rfl rfl rfl rfl ?_
            refine WR.nil (WN.seq ?_)
            refine WC.cond rfl (fun h360 => ?_) (fun h360 => ?_)
            · skip
              simp only [beq_iff_eq] at h360
              refine WC.seq (WC.region ?_)
              refine WR.move rfl rfl ?_
              refine WR.assign rfl rfl ?_
              refine WR.assign rfl rfl ?_
              refine WR.nil (WN.seq ?_)
              refine WC.retR rfl rfl ?_
              obtain rfl : i = L := by omega
              exact ⟨rfl, ⟨bo2, bit2, B2, V2, raw3, unp3, p3, r3, hb, hr, hpos2, hbit2, hB2⟩, ⟨F, hF, hput⟩, hS⟩
            · skip
              simp only [beq_eq_false_iff_ne, ne_eq] at h360
              obtain rfl := hz2 (by omega)
              refine WC.skip ?_
              exact WN.loop 0 i (by decide) ⟨rfl, rfl, rfl, rfl, rfl, trivial⟩ ⟨hiL, hg, hS, F, hF, hput, bo2, B2, V2, raw3, unp3, p3, r3, hb, hr, by omega⟩
        · skip
          simp only [bne_eq_false_iff_eq] at h353
          refine WC.skip ?_
          exact WN.loop 0 0 (by decide) ⟨rfl, rfl, rfl, rfl, rfl, trivial⟩ ⟨by omega, hg, hS, f, hF, hput, bo, B, V, raw, unp, p, r, by rwa [show bit = 0 by omega] at hb, hr, by omega⟩
      · skip
        clear hg hS hF hput hb hr hpos hbit hB
        rintro i w9 ⟨hiL, hg, hS, F, hF, hput, bo, B, V, raw, unp, p, r, hb, hr, hpos⟩
        refine WN.seq (WC.seq (WC.seq ?_))
        refine WC.mix [] mixed (by kernel_rfl) ?_
        replace hg := hg.same (Same.drew _) (by simp <;> omega)
        replace hr := hr.same (Same.drew _) (by simp <;> omega) (by simp <;> omega)
        replace hb := hb.same (Same.drew _) (by simp <;> omega)
        replace hF := hF.same (Same.drew _) (by simp <;> omega)
        replace hS := hS.trans (Same.drew _) (by simp <;> omega)
        refine WR.move rfl rfl ?_
        refine WR.nilCheckP rfl rfl ?_
        refine WR.field rfl fa152_0 rfl ?_
        refine WR.load rfl Tryz.underlying148 rfl hb.c0 rfl ?_
        refine WR.move rfl rfl ?_
        refine WR.nilCheckP rfl rfl ?_
        refine WR.field rfl fa152_2 rfl ?_
        refine WR.load rfl Tryz.underlying2 rfl hb.c2 rfl ?_
        refine WR.nilCheckI rfl rfl ?_
        refine WR.move rfl rfl ?_
        refine WR.invoke rfl rfl rfl mtRdr_Seek cf150 rfl rfl (seek rb db dO len cap p r bo hr.rd (by omega)) ?_
        rintro _ w1 ⟨rfl, hr', hs⟩
        replace hr := Src.of_two (hr.two.same hs (by simp <;> omega)) hr' hrb
        clear hr'
        replace hg := hg.same hs (by simp <;> omega)
        replace hb := hb.same hs (by simp <;> omega)
        replace hF := hF.same hs (by simp <;> omega)
        replace hS := hS.trans hs (by simp <;> omega)
        refine WR.move rfl rfl ?_
        refine WR.extract rfl rfl rfl ?_
        refine WR.extract rfl rfl rfl ?_
        refine WR.assign rfl rfl ?_
        refine WR.nil (WN.seq ?_)
        refine WC.seq (WC.region ?_)
        refine WR.move rfl rfl ?_
        refine WR.neqNil rfl rfl Tryz.underlying54 rfl ?_
        refine WR.nil (WN.seq ?_)
        refine WC.cond rfl (fun h365 => ?_) (fun h365 => ?_)
        · skip
          cases h365
        · skip
          simp only at h365
          refine WC.skip (WN.seq (WC.seq ?_))
          refine WC.cut (fun i : Nat => [(0, .pointer (some ⟨b, 0, none⟩)), (1, .int .u64 (n : Nat)), (2, .slice (some ⟨g, o, none⟩) L dc), (6, .int .i64 (i : Nat)), (8, .int .i64 (L : Nat))]) (fun i w' => i ≤ L ∧ Glob w' aE aU aP ∧ Same [g, b, rb.blk] w w' ∧ ∃ F, Row w' g t N F ∧ Put F f o L i (fun j => Value.int .i32 (bts (num d len) (pos + n * j) n : Nat)) ∧ ∃ (bo : Nat) (B V : Int) (raw unp : Nat → Value) (p r : Int), BR w' b rb B bo (0 : Nat) V raw unp ∧ Src w' rb db dO len cap p r d ∧ 8 * bo = pos + n * i) ?_ ?_
          · skip
            refine WC.seq (WC.region ?_)
            refine WR.move rfl rfl ?_
            refine WR.move rfl rfl ?_
            refine WR.bin rfl rfl rfl rfl ?_
            refine WR.nil (WN.seq ?_)
            refine WC.cond rfl (fun h369 => ?_) (fun h369 => ?_)
            · skip
              simp only [decide_eq_true_eq] at h369
              have hl1 := hr.rd.lt
              have hl2 := hr.lt
              have hl3 := hb.lt
              have hl4 := hF.lt
              have hl5 := hS.size
              have hl6 := hg.size
              refine WC.seq (WC.region ?_)
              refine WR.move rfl rfl ?_
              refine WR.move rfl rfl ?_
              (refine WR.bin rfl rfl (ar_sub (z := ((L - i : Nat) : Int)) ?_) rfl ?_; (rw [wrap_i64 (by omega) (by omega)]; omega))
              obtain ⟨bM, hbM⟩ : ∃ x, x = w1.heap.size := ⟨_, rfl⟩
              refine WR.make (n := L - i) rfl rfl Tryz.underlying156 mk109 rfl (by decide) (by omega) rfl rfl ?_
              rw [← hbM]
              intro w2 hu hs
              replace hg := hg.same hs (by simp <;> omega)
              replace hr := hr.same hs (by simp <;> omega) (by simp <;> omega)
              replace hb := hb.same hs (by simp <;> omega)
              replace hF := hF.same hs (by simp <;> omega)
              replace hS := hS.trans hs (by simp <;> omega)
              clear hs
              refine WR.assign rfl rfl ?_
              refine WR.nil (WN.seq ?_)
              refine WC.seq (WC.region ?_)
              refine WR.move rfl rfl ?_
              refine WR.nilCheckP rfl rfl ?_
              refine WR.field rfl fa152_0 rfl ?_
              refine WR.load rfl Tryz.underlying148 rfl hb.c0 rfl ?_
              refine WR.move rfl rfl ?_
              refine WR.move rfl rfl ?_
              (refine WR.conv rfl Tryz.underlying110 Tryz.underlying3 (wrap_i64 ?_ ?_) rfl ?_; (omega); (omega))
              obtain ⟨y, hy⟩ : ∃ y, y = (L - i) / 32 := ⟨_, rfl⟩
              have hxy := Nat.mul_le_mul_left n (show i + 32 * y ≤ L by omega)
              rw [Nat.mul_add, Nat.mul_left_comm n 32 y] at hxy
              have hny : 4 * n * y = 4 * (n * y) := Nat.mul_assoc 4 n y
              have hyn : n * y ≤ 31 * 1099511627776 := Nat.mul_le_mul hn2 (by omega)
              refine WR.callF rfl rfl cf61 rfl rfl (unpack32 rb db dO len cap bM 0 (L - i) (L - i) 109 (L - i) bo n y _ d _ hr.rd hr.two hu (by omega) (by omega) hn1 (by omega) (by omega) (by omega) (by omega) (by omega) hrd hg.size (by omega)) ?_
              rintro _ w3 ⟨rfl, ⟨r2, hr'⟩, ⟨Fu, hu', hu1, hu2⟩, hs⟩
              rw [hny] at hr'
              replace hr := Src.of_two (hr.two.same hs (by simp <;> omega)) hr' hrb
              replace hu := hu'
              clear hr' hu' hu2
              replace hg := hg.same hs (by simp <;> omega)
              replace hb := hb.same hs (by simp <;> omega)
              replace hF := hF.same hs (by simp <;> omega)
              replace hS := hS.trans hs (by simp <;> omega)
              refine WR.move rfl rfl ?_
              refine WR.extract rfl rfl rfl ?_
              refine WR.extract rfl rfl rfl ?_
              refine WR.assign rfl rfl ?_
              refine WR.assign rfl rfl ?_
              refine WR.nil (WN.seq ?_)
              refine WC.seq (WC.seq (WC.region ?_))
              refine WR.move rfl rfl ?_
              refine WR.move rfl rfl ?_
              refine WR.nil (WN.seq (WC.block ?_))
              refine WC.loop (fun j : Nat => [(84, .int .i64 (32 * y : Nat)), (85, .int .i64 (j : Nat)), (10, .slice (some ⟨bM, 0, none⟩) (L - i) (L - i)), (11, .int .i64 (32 * y : Nat)), (12, .nilIface), (0, .pointer (some ⟨b, 0, none⟩)), (1, .int .u64 (n : Nat)), (2, .slice (some ⟨g, o, none⟩) L dc), (6, .int .i64 (i : Nat)), (8, .int .i64 (L : Nat))]) (fun m j w' => j + m = 32 * y ∧ Glob w' aE aU aP ∧ Same [g, b, rb.blk] w w' ∧ ∃ F, Row w' g t N F ∧ Put F f o L (i + j) (fun j => Value.int .i32 (bts (num d len) (pos + n * j) n : Nat)) ∧ BR w' b rb B bo (0 : Nat) V raw unp ∧ Src w' rb db dO len cap (bo + 4 * (n * y) : Nat) (r2 : Int) d ∧ Row w' bM 109 (L - i) Fu) (32 * y) 0 ⟨rfl, rfl, rfl, rfl, rfl, rfl, rfl, rfl, rfl, rfl, trivial⟩ ⟨by omega, hg, hS, F, hF, hput, hb, hr, hu⟩ ?_
              clear hg hS hF hput hb hr hu
              rintro m2 j w4 ⟨hm2, hg, hS, F, hF, hput, hb, hr, hu⟩
              refine WC.seq (WC.region ?_)
              refine WR.bin rfl rfl rfl rfl ?_
              refine WR.nil (WN.seq (WC.seq ?_))
              refine WC.cond rfl (fun h372 => ?_) (fun h372 => ?_)
              · skip
                simp only [decide_eq_true_eq] at h372
                refine WC.skip (WN.seq ?_)
                refine WC.seq (WC.block ?_)
                refine WC.seq (WC.region ?_)
                refine WR.move rfl rfl ?_
                refine WR.assign rfl rfl ?_
                refine WR.nil (WN.seq (WC.region ?_))
                refine WR.move rfl rfl ?_
                refine WR.move rfl rfl ?_
                refine WR.move rfl rfl ?_
                (refine WR.bin rfl rfl (ar_add (z := ((i + j : Nat) : Int)) ?_) rfl ?_; (rw [wrap_i64 (by omega) (by omega)]; omega))
                refine WR.move rfl rfl ?_
                refine WR.move rfl rfl ?_
                refine WR.idxK (j) rfl rfl Tryz.underlying156 sz109 (by omega) (by omega) rfl ?_
                refine WR.load rfl Tryz.underlying109 rfl ((hu.cell (by omega)).trans (congrArg some (hu1 j (by omega)))) rfl ?_
                refine WR.conv rfl Tryz.underlying109 Tryz.underlying21 (show _ = ((bts (num d len) (8 * bo + n * j) n : Nat) : Int) by exact w31 _ _ _ hn2) rfl ?_
                refine WR.idxK (i + j) rfl rfl Tryz.underlying141 sz21 (by omega) (by omega) rfl ?_
                refine WR.storeK rfl rfl rfl sz21 (hF.cell (by omega)) (hF.fz _) ?_
                intro w5 hn hs
                replace hF := hF.set' hn
                replace hg := hg.same hs (by simp <;> omega)
                replace hr := hr.same hs (by simp <;> omega) (by simp <;> omega)
                replace hb := hb.same hs (by simp <;> omega)
                replace hS := hS.trans hs (by simp <;> omega)
                replace hu := hu.same hs (by simp <;> omega)
                clear hn hs
                refine WR.nil (WN.block ?_)
                refine WN.seq (WC.region ?_)
                (refine WR.bin rfl rfl (ar_add (wrap_i64 ?_ ?_)) rfl ?_; (omega); (omega))
                refine WR.move rfl rfl ?_
                refine WR.nil ?_
                exact WN.loop (m2 - 1) (j + 1) (by omega) ⟨rfl, kint rfl (by omega), rfl, rfl, rfl, rfl, rfl, rfl, rfl, rfl, trivial⟩ ⟨by omega, hg, hS, _, hF, hput.step (by omega) (by rw [show 8 * bo + n * j = pos + n * (i + j) by rw [Nat.mul_add]; omega]; try rfl), hb, hr, hu⟩
              · skip
                simp only [decide_eq_false_iff_not, Int.not_lt] at h372
                obtain rfl : j = 32 * y := by omega
                refine WC.exit rfl ?_
                refine WN.seq (WC.seq (WC.region ?_))
                refine WR.move rfl rfl ?_
                refine WR.move rfl rfl ?_
                (refine WR.bin rfl rfl (ar_add (z := ((i + 32 * y : Nat) : Int)) ?_) rfl ?_; (rw [wrap_i64 (by omega) (by omega)]; omega))
                refine WR.assign rfl rfl ?_
                refine WR.nil (WN.seq ?_)
                refine WC.seq (WC.region ?_)
                refine WR.move rfl rfl ?_
                refine WR.nilCheckP rfl rfl ?_
                refine WR.field rfl fa152_2 rfl ?_
                refine WR.load rfl Tryz.underlying2 rfl hb.c2 rfl ?_
                refine WR.move rfl rfl ?_
                refine WR.move rfl rfl ?_
                (refine WR.conv rfl Tryz.underlying110 Tryz.underlying3 (wrap_i64 ?_ ?_) rfl ?_; (omega); (omega))
                (refine WR.bin rfl rfl (ar_mul (z := ((32 * (n * y) : Nat) : Int)) ?_) rfl ?_; (rw [← Int.natCast_mul, show 32 * y * n = 32 * (n * y) by rw [Nat.mul_assoc, Nat.mul_comm y n]]; exact wrap_i64 (by omega) (by omega)))
                refine WR.bin rfl rfl (ar_quo (z := ((4 * (n * y) : Nat) : Int)) (by decide) (by rw [tdiv_pos (by omega), wrap_i64 (by omega) (by omega)]; omega)) rfl ?_
                (refine WR.bin rfl rfl (ar_add (z := ((bo + 4 * (n * y) : Nat) : Int)) ?_) rfl ?_; (rw [wrap_i64 (by omega) (by omega)]; omega))
                refine WR.nilCheckP rfl rfl ?_
                refine WR.field rfl fa152_2 rfl ?_
                refine WR.storeK rfl rfl rfl sz2 hb.c2 (hb.fz 2) ?_
                intro w5 hn hs
                replace hb := hb.s2 hn
                replace hg := hg.same hs (by simp <;> omega)
                replace hr := hr.same hs (by simp <;> omega) (by simp <;> omega)
                replace hF := hF.same hs (by simp <;> omega)
                replace hS := hS.trans hs (by simp <;> omega)
                replace hu := hu.same hs (by simp <;> omega)
                clear hn hs
                refine WR.nil (WN.seq ?_)
                refine WC.seq (WC.region ?_)
                refine WR.move rfl rfl ?_
                refine WR.neqNil rfl rfl Tryz.underlying54 rfl ?_
                refine WR.nil (WN.seq ?_)
                refine WC.cond rfl (fun h377 => ?_) (fun h377 => ?_)
                · skip
                  cases h377
                · skip
                  simp only at h377
                  refine WC.skip ?_
                  exact WN.loop 0 (i + 32 * y) (by decide) ⟨rfl, rfl, rfl, rfl, rfl, trivial⟩ ⟨by omega, hg, hS, F, hF, hput, bo + 4 * (n * y), _, _, raw, unp, _, _, hb, hr, by rw [Nat.mul_add n, Nat.mul_left_comm n 32 y]; omega⟩
            · skip
              simp only [decide_eq_false_iff_not, Int.not_lt] at h369
              refine WC.skip ?_
              exact WN.loop 0 i (by decide) ⟨rfl, rfl, rfl, rfl, rfl, trivial⟩ ⟨hiL, hg, hS, F, hF, hput, bo, B, V, raw, unp, _, _, hb, hr, hpos⟩
          · skip
            clear hg hS hF hput hb hr hpos
            rintro i w9 ⟨hiL, hg, hS, F, hF, hput, bo, B, V, raw, unp, p, r, hb, hr, hpos⟩
            have hni0 := Nat.mul_le_mul_left n hiL
            refine WN.seq (WC.seq ?_)
            refine WC.seq (WC.region ?_)
            refine WR.move rfl rfl ?_
            refine WR.callF rfl rfl cf62 rfl rfl (fillbuffer hg b rb db dO len cap _ _ _ _ p r d _ _ hb hr (by omega) (by omega) hgb hne hnd) ?_
            rintro _ w2 ⟨rfl, ⟨raw2, hb'⟩, hs⟩
            replace hb := hb'
            clear hb'
            simp only [Int.toNat_natCast] at hb
            replace hg := hg.same hs (by simp <;> omega)
            replace hr := hr.same hs (by simp <;> omega) (by simp <;> omega)
            replace hF := hF.same hs (by simp <;> omega)
            replace hS := hS.trans hs (by simp <;> omega)
            refine WR.assign rfl rfl ?_
            refine WR.nil (WN.seq ?_)
            refine WC.seq (WC.region ?_)
            refine WR.move rfl rfl ?_
            refine WR.neqNil rfl rfl Tryz.underlying54 rfl ?_
            refine WR.nil (WN.seq ?_)
            refine WC.cond rfl (fun h383 => ?_) (fun h383 => ?_)
            · skip
              cases h383
            · skip
              simp only at h383
              refine WC.skip (WN.seq ?_)
              refine WC.seq (WC.region ?_)
              refine WR.move rfl rfl ?_
              refine WR.move rfl rfl ?_
              refine WR.move rfl rfl ?_
              refine WR.move rfl rfl ?_
              refine WR.slice rfl Tryz.underlying141 sz21 rfl ⟨_, _, rfl, by omega, by omega, show i = Int.toNat _ by omega⟩ rfl ?_
              generalize ho2 : (if dc = i then o else o + i * 1) = o2
              have ho3 : o2 = o + i ∨ (L - i = 0 ∧ o2 = o) := by rw [← ho2]; split <;> omega
              have hnl : n * i + n * (L - i) = n * L := by rw [← Nat.mul_add, show i + (L - i) = L by omega]
              refine WR.callF rfl rfl cf60 rfl rfl (scalar hg b rb db dO len cap n (L - i) g o2 (dc - i) t N (pos + n * i) bo 0 false p r d F raw2 unp hb hr (by omega) (by omega) hF (by omega) (by omega) (by omega) hn1 hn2 (by omega) hgb hrb hgg hne hnd hrd hx1 hx2 hx3) ?_
              rintro _ w3 ⟨i2, rfl, hi2, hst, hg, hs, ⟨F2, hF2, hput2⟩, bo2, bit2, B2, V2, raw3, unp3, p3, r3, hb, hr, hpos2, hbit2, hB2, hz2⟩
              obtain rfl := hst rfl
              replace hS := hS.trans hs (by simp)
              refine WR.move rfl rfl ?_
              refine WR.extract rfl rfl rfl ?_
              refine WR.extract rfl rfl rfl ?_
              refine WR.assign rfl rfl ?_
              refine WR.assign rfl rfl ?_
              refine WR.nil (WN.seq ?_)
              refine WC.seq (WC.region ?_)
              refine WR.move rfl rfl ?_
              refine WR.move rfl rfl ?_
              (refine WR.bin rfl rfl (ar_add (z := ((L : Nat) : Int)) ?_) rfl ?_; (rw [wrap_i64 (by omega) (by omega)]; omega))
              refine WR.assign rfl rfl ?_
              refine WR.nil (WN.seq ?_)
              refine WC.seq (WC.region ?_)
              refine WR.move rfl rfl ?_
              refine WR.move rfl rfl ?_
              refine WR.assign rfl rfl ?_
              refine WR.assign rfl rfl ?_
              refine WR.nil (WN.seq ?_)
              refine WC.retR rfl rfl ?_
              exact ⟨rfl, ⟨bo2, bit2, B2, V2, raw3, unp3, p3, r3, hb, hr, by omega, hbit2, hB2⟩, ⟨F2, hF2, hput.join hput2 hiL ho3⟩, hS⟩

end Go.Proofs.YthmknddfkmklfaaGreatDoor.Vm
