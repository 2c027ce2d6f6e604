/- GetBatchLevels. -/
import Derived.Test.YtajgdpiodpoooaaGreatDoorFnJ
namespace Go.Proofs.YtajgdpiodpoooaaGreatDoor.Vm
open Go Mix Go.RowKit Num
set_option maxRecDepth 20000
set_option linter.unusedSimpArgs false
theorem w15 (B p n : Nat) (h : n ≤ 15) : IntKind.i16.wrap ((bts B p n : Nat) : Int) = ((bts B p n : Nat) : Int) := by
  have h1 := bts_lt B p n
  have h2 : 2 ^ n ≤ 2 ^ 15 := Nat.pow_le_pow_right (by decide) h
  exact wrap_i16 (by omega) (by omega)
theorem sz75 : (Tryz.prog.info? 75).map (·.size) = some 1 := by kernel_rfl
set_option maxHeartbeats 1000000 in
theorem getLevels {w : World} {aE aU aP : Addr} (hg : Glob w aE aU aP) (b rb db dO len cap n L g o dc t N pos : Nat) (e : Int) (d : Nat → Nat) (f : Nat → Value) (ha : At w b rb db dO len cap d pos) (hF : Row w g t N f) (hoL : o + L ≤ N) (hLc : L ≤ dc) (hL : L ≤ 1099511627776) (hn1 : 1 ≤ n) (hn2 : n ≤ 15) (hfit : pos + n * L ≤ 8 * len) (hgb : 7 ≤ b) (hrb : 7 ≤ rb) (hgg : 7 ≤ g) (hne : b ≠ rb) (hnd : b ≠ db) (hrd : rb ≠ db) (hx1 : g ≠ b) (hx2 : g ≠ rb) (hx3 : g ≠ db) :
    Ret Tryz.prog 23 #[.pointer (some ⟨b, 0, none⟩), .int .u64 (n : Int), .slice (some ⟨g, o, none⟩) L dc, .int .i16 e] w fun v w' => (∃ c, v = .tuple #[.int .i64 (L : Nat), .int .i64 c, .nilIface]) ∧ At w' b rb db dO len cap d (pos + n * L) ∧ (∃ F, Row w' g t N F ∧ Put F f o L L (fun j => Value.int .i16 (bts (num d len) (pos + n * j) n : Nat))) ∧ Same [g, b, rb] w w' := by
  have hS := Same.refl [g, b, rb] w
  obtain ⟨bo, bit, B, V, raw, unp, p, r, hb, hr, hpos, hbit, hB⟩ := ha
  have hlen := hr.len_
  have hput := Put.zero f o L (fun j => Value.int .i16 (bts (num d len) (pos + n * j) n : Nat))
  refine Ret.enter (vs := [.pointer (some ⟨b, 0, none⟩), .int .u64 (n : Int), .slice (some ⟨g, o, none⟩) L dc, .int .i16 e]) Tryz.func23 Tryz.ntmps23 rfl rfl ?_
  refine WC.seq ?_
  refine WC.region ?_
  refine WR.assign rfl rfl ?_
  refine WR.assign rfl rfl ?_
  refine WR.assign rfl rfl ?_
  refine WR.nil ?_
  refine WN.seq ?_
  refine WC.seq ?_
  refine WC.seq ?_
  refine WC.region ?_
  refine WR.move rfl rfl ?_
  refine WR.bin rfl rfl rfl rfl ?_
  refine WR.nil ?_
  refine WN.seq ?_
  refine WC.cond rfl (fun h591 => ?_) (fun h591 => ?_)
  · skip
    (try simp only [decide_eq_true_eq, decide_eq_false_iff_not, beq_iff_eq, beq_eq_false_iff_ne, bne_iff_ne, bne_eq_false_iff_eq, gt_iff_lt, ge_iff_le, Int.not_lt, Int.not_le, ne_eq, Bool.not_eq_true, Bool.not_eq_false, Bool.and_eq_true, Bool.and_eq_false_iff, Bool.or_eq_true, Bool.or_eq_false_iff] at h591)
    omega
  · skip
    (try simp only [decide_eq_true_eq, decide_eq_false_iff_not, beq_iff_eq, beq_eq_false_iff_ne, bne_iff_ne, bne_eq_false_iff_eq, gt_iff_lt, ge_iff_le, Int.not_lt, Int.not_le, ne_eq, Bool.not_eq_true, Bool.not_eq_false, Bool.and_eq_true, Bool.and_eq_false_iff, Bool.or_eq_true, Bool.or_eq_false_iff] at h591)
    refine WC.skip ?_
    refine WN.seq ?_
    refine WC.seq ?_
    refine WC.region ?_
    refine WR.assign rfl rfl ?_
    refine WR.nil ?_
    refine WN.seq ?_
    refine WC.seq ?_
    refine WC.region ?_
    refine WR.move rfl rfl ?_
    refine WR.lenS rfl Tryz.underlying72 rfl ?_
    refine WR.assign rfl rfl ?_
    refine WR.nil ?_
    refine WN.seq ?_
    refine WC.seq ?_
    refine WC.region ?_
    refine WR.assign rfl rfl ?_
    refine WR.nil ?_
    refine WN.seq ?_
    refine WC.seq ?_
    refine WC.cut (fun x : Nat × Int => [(0, .pointer (some ⟨b, 0, none⟩)), (1, .int .u64 (n : Nat)), (2, .slice (some ⟨g, o, none⟩) L dc), (3, .int .i16 e), (12, .int .i64 (L : Nat)), (13, .int .i64 (x.1 : Nat)), (11, .int .i64 x.2)]) (fun x w' => x.1 ≤ L ∧ Glob w' aE aU aP ∧ Same [g, b, rb] w w' ∧ ∃ F, Row w' g t N F ∧ Put F f o L x.1 (fun j => Value.int .i16 (bts (num d len) (pos + n * j) n : Nat)) ∧ ∃ (bo bit : Nat) (B V : Int) (raw unp : Nat → Value) (p r : Int), BR w' b rb B bo bit V raw unp ∧ Src w' rb db dO len cap p r d ∧ 8 * bo + bit = pos + n * x.1 ∧ bit ≤ 64 ∧ (x.1 < L → bit = 0)) ?_ ?_
    · skip
      refine WC.block ?_
      refine WC.loop (fun x : Nat × Int => [(0, .pointer (some ⟨b, 0, none⟩)), (1, .int .u64 (n : Nat)), (2, .slice (some ⟨g, o, none⟩) L dc), (3, .int .i16 e), (12, .int .i64 (L : Nat)), (13, .int .i64 (x.1 : Nat)), (11, .int .i64 x.2)]) (fun m x w' => x.1 + m = L ∧ Glob w' aE aU aP ∧ Same [g, b, rb] w w' ∧ ∃ F, Row w' g t N F ∧ Put F f o L x.1 (fun j => Value.int .i16 (bts (num d len) (pos + n * j) n : Nat)) ∧ ∃ (bo bit : Nat) (B V : Int) (raw unp : Nat → Value) (p r : Int), BR w' b rb B bo bit V raw unp ∧ Src w' rb db dO len cap p r d ∧ 8 * bo + bit = pos + n * x.1 ∧ bit ≤ 64 ∧ (bit ≠ 0 → B = (bts (num d len) (8 * bo) 64 : Nat) ∧ V = (8 * min (len - bo) 8 : Nat))) L (0, 0) ⟨rfl, rfl, rfl, rfl, rfl, rfl, rfl, trivial⟩ ⟨by show 0 + L = L; omega, hg, hS, f, hF, hput, bo, bit, B, V, raw, unp, p, r, hb, hr, by show _ = pos + n * 0; omega, hbit, hB⟩ ?_
      clear hg hS hF hput hb hr hpos hbit hB
      rintro m ⟨i, c⟩ w1 ⟨hm, hg, hS, F, hF, hput, bo, bit, B, V, raw, unp, p, r, hb, hr, hpos, hbit, hB⟩
      simp only [] at hm hput hpos
      rcases Nat.lt_or_ge i L with hi | hi
      · skip
        refine WC.seq ?_
        refine WC.seq ?_
        refine WC.region ?_
        refine WR.move rfl rfl ?_
        refine WR.move rfl rfl ?_
        refine WR.bin rfl rfl rfl rfl ?_
        refine WR.move rfl rfl ?_
        refine WR.take rfl rfl (by first | rfl | assumption | simp_all) ?_
        refine WR.move rfl rfl ?_
        refine WR.take rfl rfl (by first | rfl | assumption | simp_all) ?_
        refine WR.nilCheckP rfl rfl ?_
        refine WR.take rfl rfl (by first | rfl | assumption | simp_all) ?_
        refine WR.field rfl fa53_3 rfl ?_
        refine WR.take rfl rfl (by first | rfl | assumption | simp_all) ?_
        refine WR.load rfl Tryz.underlying44 rfl hb.c3 rfl ?_
        refine WR.take rfl rfl (by first | rfl | assumption | simp_all) ?_
        refine WR.bin rfl rfl rfl rfl ?_
        refine WR.pickT rfl (by first | rfl | assumption | simp_all) rfl rfl ?_
        refine WR.nil ?_
        refine WN.seq ?_
        refine WC.cond rfl (fun h599 => ?_) (fun h599 => ?_)
        · skip
          (try simp only [decide_eq_true_eq, decide_eq_false_iff_not, beq_iff_eq, beq_eq_false_iff_ne, bne_iff_ne, bne_eq_false_iff_eq, gt_iff_lt, ge_iff_le, Int.not_lt, Int.not_le, ne_eq, Bool.not_eq_true, Bool.not_eq_false, Bool.and_eq_true, Bool.and_eq_false_iff, Bool.or_eq_true, Bool.or_eq_false_iff] at h599)
          have hbt : bit ≠ 0 := by omega
          obtain ⟨rfl, rfl⟩ := hB hbt
          have hni := Nat.mul_le_mul_left n (show i + 1 ≤ L by omega)
          rw [Nat.mul_add_one] at hni
          refine WC.skip ?_
          refine WN.seq ?_
          refine WC.seq ?_
          refine WC.block ?_
          refine WC.seq ?_
          refine WC.region ?_
          refine WR.move rfl rfl ?_
          refine WR.move rfl rfl ?_
          refine WR.callF rfl rfl cf16 rfl rfl (next_ hg b rb db dO len cap bo bit n p r d raw unp hb hr (by omega) hn1 (by omega) (by omega) hgb hne hnd) ?_
          rintro _ w2 ⟨rfl, ⟨bo2, bit2, raw2, hb', hpos2, hbit1, hbit2⟩, hs⟩
          replace hb := hb'
          clear hb'
          replace hg := hg.same hs (by simp <;> omega)
          replace hr := hr.same hs (by simp <;> omega) (by simp <;> omega)
          replace hF := hF.same hs (by simp <;> omega)
          replace hS := hS.trans hs (by simp)
          refine WR.move rfl rfl ?_
          refine WR.extract rfl rfl rfl ?_
          refine WR.extract rfl rfl rfl ?_
          refine WR.assign rfl rfl ?_
          refine WR.assign rfl rfl ?_
          refine WR.nil ?_
          refine WN.seq ?_
          refine WC.seq ?_
          refine WC.seq ?_
          refine WC.region ?_
          refine WR.move rfl rfl ?_
          refine WR.neqNil rfl rfl Tryz.underlying41 rfl ?_
          refine WR.nil ?_
          refine WN.seq ?_
          refine WC.cond rfl (fun h601 => ?_) (fun h601 => ?_)
          · skip
            cases h601
          · skip
            (try simp only [decide_eq_true_eq, decide_eq_false_iff_not, beq_iff_eq, beq_eq_false_iff_ne, bne_iff_ne, bne_eq_false_iff_eq, gt_iff_lt, ge_iff_le, Int.not_lt, Int.not_le, ne_eq, Bool.not_eq_true, Bool.not_eq_false, Bool.and_eq_true, Bool.and_eq_false_iff, Bool.or_eq_true, Bool.or_eq_false_iff] at h601)
            refine WC.skip ?_
            refine WN.seq ?_
            refine WC.seq ?_
            refine WC.region ?_
            refine WR.move rfl rfl ?_
            refine WR.conv rfl Tryz.underlying28 Tryz.underlying75 (show _ = ((bts (num d len) (8 * bo + bit) n : Nat) : Int) by exact w15 _ _ _ hn2) rfl ?_
            refine WR.assign rfl rfl ?_
            refine WR.nil ?_
            refine WN.seq ?_
            refine WC.seq ?_
            refine WC.region ?_
            refine WR.move rfl rfl ?_
            refine WR.move rfl rfl ?_
            refine WR.move rfl rfl ?_
            refine WR.idxK (i) rfl rfl Tryz.underlying72 sz75 (by omega) (by omega) rfl ?_
            refine WR.storeK rfl rfl rfl sz75 (hF.cell (by omega)) (hF.fz _) ?_
            intro w3 hn hs
            replace hF := hF.set' hn
            replace hg := hg.same hs (by simp <;> omega)
            replace hr := hr.same hs (by simp <;> omega) (by simp <;> omega)
            replace hb := hb.same hs (by simp <;> omega)
            replace hS := hS.trans hs (by simp)
            clear hn hs
            refine WR.nil ?_
            refine WN.seq ?_
            refine WC.seq ?_
            refine WC.region ?_
            refine WR.move rfl rfl ?_
            refine WR.move rfl rfl ?_
            refine WR.bin rfl rfl rfl rfl ?_
            refine WR.nil ?_
            refine WN.seq ?_
            refine WC.cond rfl (fun h606 => ?_) (fun h606 => ?_)
            · skip
              (try simp only [decide_eq_true_eq, decide_eq_false_iff_not, beq_iff_eq, beq_eq_false_iff_ne, bne_iff_ne, bne_eq_false_iff_eq, gt_iff_lt, ge_iff_le, Int.not_lt, Int.not_le, ne_eq, Bool.not_eq_true, Bool.not_eq_false, Bool.and_eq_true, Bool.and_eq_false_iff, Bool.or_eq_true, Bool.or_eq_false_iff] at h606)
              refine WC.region ?_
              refine WR.move rfl rfl ?_
              refine WR.bin rfl rfl (ar_add rfl) rfl ?_
              refine WR.assign rfl rfl ?_
              refine WR.nil ?_
              refine WN.block ?_
              refine WN.seq ?_
              refine WC.region ?_
              refine WR.move rfl rfl ?_
              first
                | (refine WR.bin rfl rfl (ar_add (wrap_i64 ?_ ?_)) rfl ?_; (omega); (omega))
                | refine WR.bin rfl rfl (ar_add rfl) rfl ?_
              refine WR.assign rfl rfl ?_
              refine WR.nil ?_
              exact WN.loop (m - 1) (i + 1, _) (by omega) ⟨rfl, rfl, rfl, rfl, rfl, kint rfl (by show _ = ((i + 1 : Nat) : Int); omega), rfl, trivial⟩ ⟨by show i + 1 + (m - 1) = L; omega, hg, hS, _, hF, hput.step hi (by rw [hpos]; try rfl), bo2, bit2, _, _, raw2, unp, p, r, hb, hr, by show _ = pos + n * (i + 1); rw [Nat.mul_add_one]; omega, by omega, fun _ => ⟨rfl, rfl⟩⟩
            · skip
              (try simp only [decide_eq_true_eq, decide_eq_false_iff_not, beq_iff_eq, beq_eq_false_iff_ne, bne_iff_ne, bne_eq_false_iff_eq, gt_iff_lt, ge_iff_le, Int.not_lt, Int.not_le, ne_eq, Bool.not_eq_true, Bool.not_eq_false, Bool.and_eq_true, Bool.and_eq_false_iff, Bool.or_eq_true, Bool.or_eq_false_iff] at h606)
              refine WC.skip ?_
              refine WN.block ?_
              refine WN.seq ?_
              refine WC.region ?_
              refine WR.move rfl rfl ?_
              first
                | (refine WR.bin rfl rfl (ar_add (wrap_i64 ?_ ?_)) rfl ?_; (omega); (omega))
                | refine WR.bin rfl rfl (ar_add rfl) rfl ?_
              refine WR.assign rfl rfl ?_
              refine WR.nil ?_
              exact WN.loop (m - 1) (i + 1, _) (by omega) ⟨rfl, rfl, rfl, rfl, rfl, kint rfl (by show _ = ((i + 1 : Nat) : Int); omega), rfl, trivial⟩ ⟨by show i + 1 + (m - 1) = L; omega, hg, hS, _, hF, hput.step hi (by rw [hpos]; try rfl), bo2, bit2, _, _, raw2, unp, p, r, hb, hr, by show _ = pos + n * (i + 1); rw [Nat.mul_add_one]; omega, by omega, fun _ => ⟨rfl, rfl⟩⟩
        · skip
          (try simp only [decide_eq_true_eq, decide_eq_false_iff_not, beq_iff_eq, beq_eq_false_iff_ne, bne_iff_ne, bne_eq_false_iff_eq, gt_iff_lt, ge_iff_le, Int.not_lt, Int.not_le, ne_eq, Bool.not_eq_true, Bool.not_eq_false, Bool.and_eq_true, Bool.and_eq_false_iff, Bool.or_eq_true, Bool.or_eq_false_iff] at h599)
          refine WC.exit rfl ?_
          exact WN.loop 0 (i, c) (by decide) ⟨rfl, rfl, rfl, rfl, rfl, rfl, rfl, trivial⟩ ⟨by show i ≤ L; omega, hg, hS, F, hF, hput, bo, bit, B, V, raw, unp, p, r, hb, hr, hpos, hbit, fun h => by have : i < L := h; omega⟩
      · skip
        refine WC.seq ?_
        refine WC.seq ?_
        refine WC.region ?_
        refine WR.move rfl rfl ?_
        refine WR.move rfl rfl ?_
        refine WR.bin rfl rfl rfl rfl ?_
        refine WR.move rfl rfl ?_
        refine WR.pass rfl rfl rfl (by first | rfl | assumption | simp_all) ?_
        refine WR.pass rfl rfl rfl (by first | rfl | assumption | simp_all) ?_
        refine WR.pass rfl rfl rfl (by first | rfl | assumption | simp_all) ?_
        refine WR.pass rfl rfl rfl (by first | rfl | assumption | simp_all) ?_
        refine WR.pass rfl rfl rfl (by first | rfl | assumption | simp_all) ?_
        refine WR.pickF rfl (by first | rfl | assumption | simp_all) rfl rfl ?_
        refine WR.nil ?_
        refine WN.seq ?_
        refine WC.cond rfl (fun h599 => ?_) (fun h599 => ?_)
        · skip
          cases h599
        · skip
          (try simp only [decide_eq_true_eq, decide_eq_false_iff_not, beq_iff_eq, beq_eq_false_iff_ne, bne_iff_ne, bne_eq_false_iff_eq, gt_iff_lt, ge_iff_le, Int.not_lt, Int.not_le, ne_eq, Bool.not_eq_true, Bool.not_eq_false, Bool.and_eq_true, Bool.and_eq_false_iff, Bool.or_eq_true, Bool.or_eq_false_iff] at h599)
          refine WC.exit rfl ?_
          exact WN.loop 0 (i, c) (by decide) ⟨rfl, rfl, rfl, rfl, rfl, rfl, rfl, trivial⟩ ⟨by show i ≤ L; omega, hg, hS, F, hF, hput, bo, bit, B, V, raw, unp, p, r, hb, hr, hpos, hbit, fun h => by have : i < L := h; omega⟩
    · skip
      clear hg hS hF hput hb hr hpos hbit hB
      rintro ⟨i, c⟩ w9 ⟨hiL, hg, hS, F, hF, hput, bo, bit, B, V, raw, unp, p, r, hb, hr, hpos, hbit, hz⟩
      simp only [] at hiL hput hpos hz
      refine WN.seq ?_
      refine WC.seq ?_
      refine WC.seq ?_
      refine WC.mix [] mixed (by kernel_rfl) ?_
      replace hg := hg.same (Same.drew _) (by simp <;> omega)
      replace hr := hr.same (Same.drew _) (by simp <;> omega) (by simp <;> omega)
      replace hb := hb.same (Same.drew _) (by simp <;> omega)
      replace hF := hF.same (Same.drew _) (by simp <;> omega)
      replace hS := hS.trans (Same.drew _) (by simp)
      refine WR.move rfl rfl ?_
      refine WR.nilCheckP rfl rfl ?_
      refine WR.field rfl fa53_0 rfl ?_
      refine WR.load rfl Tryz.underlying48 rfl hb.c0 rfl ?_
      refine WR.move rfl rfl ?_
      refine WR.nilCheckP rfl rfl ?_
      refine WR.field rfl fa53_2 rfl ?_
      refine WR.load rfl Tryz.underlying2 rfl hb.c2 rfl ?_
      refine WR.nilCheckI rfl rfl ?_
      refine WR.move rfl rfl ?_
      refine WR.invoke rfl rfl rfl mtRdr_Seek cf119 rfl rfl (seek rb db dO len cap p r bo hr.rd (by omega)) ?_
      rintro _ w2 ⟨rfl, hr', hs⟩
      replace hr := Src.of_two (hr.two.same hs (by simp <;> omega)) hr' hrb
      clear hr'
      replace hg := hg.same hs (by simp <;> omega)
      replace hb := hb.same hs (by simp <;> omega)
      replace hF := hF.same hs (by simp <;> omega)
      replace hS := hS.trans hs (by simp)
      refine WR.move rfl rfl ?_
      refine WR.extract rfl rfl rfl ?_
      refine WR.extract rfl rfl rfl ?_
      refine WR.assign rfl rfl ?_
      refine WR.assign rfl rfl ?_
      refine WR.nil ?_
      refine WN.seq ?_
      refine WC.seq ?_
      refine WC.region ?_
      refine WR.move rfl rfl ?_
      refine WR.neqNil rfl rfl Tryz.underlying41 rfl ?_
      refine WR.nil ?_
      refine WN.seq ?_
      refine WC.cond rfl (fun h611 => ?_) (fun h611 => ?_)
      · skip
        cases h611
      · skip
        (try simp only [decide_eq_true_eq, decide_eq_false_iff_not, beq_iff_eq, beq_eq_false_iff_ne, bne_iff_ne, bne_eq_false_iff_eq, gt_iff_lt, ge_iff_le, Int.not_lt, Int.not_le, ne_eq, Bool.not_eq_true, Bool.not_eq_false, Bool.and_eq_true, Bool.and_eq_false_iff, Bool.or_eq_true, Bool.or_eq_false_iff] at h611)
        refine WC.skip ?_
        refine WN.seq ?_
        refine WC.seq ?_
        refine WC.cut (fun x : Nat × Int => [(0, .pointer (some ⟨b, 0, none⟩)), (1, .int .u64 (n : Nat)), (2, .slice (some ⟨g, o, none⟩) L dc), (3, .int .i16 e), (12, .int .i64 (L : Nat)), (13, .int .i64 (x.1 : Nat)), (11, .int .i64 x.2)]) (fun x w' => x.1 ≤ L ∧ Glob w' aE aU aP ∧ Same [g, b, rb] w w' ∧ ∃ F, Row w' g t N F ∧ Put F f o L x.1 (fun j => Value.int .i16 (bts (num d len) (pos + n * j) n : Nat)) ∧ ∃ (bo bit : Nat) (B V : Int) (raw unp : Nat → Value) (p r : Int), BR w' b rb B bo bit V raw unp ∧ Src w' rb db dO len cap p r d ∧ 8 * bo + bit = pos + n * x.1 ∧ bit ≤ 64) ?_ ?_
        · skip
          refine WC.block ?_
          refine WC.loop (fun x : Nat × Int => [(0, .pointer (some ⟨b, 0, none⟩)), (1, .int .u64 (n : Nat)), (2, .slice (some ⟨g, o, none⟩) L dc), (3, .int .i16 e), (12, .int .i64 (L : Nat)), (13, .int .i64 (x.1 : Nat)), (11, .int .i64 x.2)]) (fun m x w' => x.1 + m = L ∧ Glob w' aE aU aP ∧ Same [g, b, rb] w w' ∧ ∃ F, Row w' g t N F ∧ Put F f o L x.1 (fun j => Value.int .i16 (bts (num d len) (pos + n * j) n : Nat)) ∧ ∃ (bo bit : Nat) (B V : Int) (raw unp : Nat → Value) (p r : Int), BR w' b rb B bo bit V raw unp ∧ Src w' rb db dO len cap p r d ∧ 8 * bo + bit = pos + n * x.1 ∧ bit ≤ 64 ∧ (x.1 < L → bit = 0 ∧ p = bo)) (L - i) (i, c) ⟨rfl, rfl, rfl, rfl, rfl, rfl, rfl, trivial⟩ ⟨by show i + (L - i) = L; omega, hg, hS, F, hF, hput, bo, bit, B, V, raw, unp, _, _, hb, hr, hpos, hbit, fun h => ⟨hz h, rfl⟩⟩ ?_
          clear hz
          clear hg hS hF hput hb hr hpos hbit
          rintro m ⟨i, c⟩ w3 ⟨hm, hg, hS, F, hF, hput, bo, bit, B, V, raw, unp, p, r, hb, hr, hpos, hbit, hz⟩
          simp only [] at hm hput hpos hz
          refine WC.seq ?_
          refine WC.seq ?_
          refine WC.region ?_
          refine WR.move rfl rfl ?_
          refine WR.move rfl rfl ?_
          refine WR.bin rfl rfl rfl rfl ?_
          refine WR.nil ?_
          refine WN.seq ?_
          refine WC.cond rfl (fun h614 => ?_) (fun h614 => ?_)
          · skip
            (try simp only [decide_eq_true_eq, decide_eq_false_iff_not, beq_iff_eq, beq_eq_false_iff_ne, bne_iff_ne, bne_eq_false_iff_eq, gt_iff_lt, ge_iff_le, Int.not_lt, Int.not_le, ne_eq, Bool.not_eq_true, Bool.not_eq_false, Bool.and_eq_true, Bool.and_eq_false_iff, Bool.or_eq_true, Bool.or_eq_false_iff] at h614)
            obtain ⟨rfl, rfl⟩ := hz (by omega)
            refine WC.skip ?_
            refine WN.seq ?_
            refine WC.block ?_
            refine WC.seq ?_
            refine WC.region ?_
            refine WR.move rfl rfl ?_
            refine WR.move rfl rfl ?_
            (refine WR.bin rfl rfl (ar_sub (z := ((L - i : Nat) : Int)) ?_) rfl ?_; (rw [wrap_i64 (by omega) (by omega)]; omega))
            refine WR.callFS rfl rfl cf29 rfl rfl (minI 1024 (L - i) _) ?_
            obtain ⟨x, hx⟩ : ∃ x, x = min 1024 (L - i) := ⟨_, rfl⟩
            rw [← hx]
            obtain ⟨y, hy⟩ : ∃ y, y = x / 32 := ⟨_, rfl⟩
            have hxy := Nat.mul_le_mul_left n (show i + 32 * y ≤ L by omega)
            rw [Nat.mul_add, Nat.mul_left_comm n 32 y] at hxy
            have hny : 4 * n * y = 4 * (n * y) := Nat.mul_assoc 4 n y
            have hyn : n * y ≤ 32 * 32 := Nat.mul_le_mul (by omega) (by omega)
            refine WR.assign rfl rfl ?_
            refine WR.nil ?_
            refine WN.seq ?_
            refine WC.seq ?_
            refine WC.mix [] mixed (by kernel_rfl) ?_
            replace hg := hg.same (Same.drew _) (by simp <;> omega)
            replace hr := hr.same (Same.drew _) (by simp <;> omega) (by simp <;> omega)
            replace hb := hb.same (Same.drew _) (by simp <;> omega)
            replace hF := hF.same (Same.drew _) (by simp <;> omega)
            replace hS := hS.trans (Same.drew _) (by simp)
            refine WR.move rfl rfl ?_
            refine WR.nilCheckP rfl rfl ?_
            refine WR.field rfl fa53_0 rfl ?_
            refine WR.load rfl Tryz.underlying48 rfl hb.c0 rfl ?_
            refine WR.move rfl rfl ?_
            refine WR.nilCheckP rfl rfl ?_
            refine WR.field rfl fa53_6 rfl ?_
            refine WR.move rfl rfl ?_
            refine WR.sliceA rfl Tryz.underlying51 sz50 ⟨_, _, rfl, by omega, by omega, show x = Int.toNat _ by omega⟩ rfl rfl ?_
            refine WR.move rfl rfl ?_
            first
              | (refine WR.conv rfl Tryz.underlying44 Tryz.underlying3 (wrap_i64 ?_ ?_) rfl ?_; (omega); (omega))
              | refine WR.conv rfl Tryz.underlying44 Tryz.underlying3 rfl rfl ?_
            refine WR.callF rfl rfl cf30 rfl rfl (unpack32 rb db dO len cap b 13 (x - 0) (1024 - 0) 53 1037 bo n y _ d _ hr.rd hr.two hb.raw_of (by omega) (by omega) hn1 (by omega) (by omega) (by omega) hne hnd hrd hg.size (by omega)) ?_
            rintro _ w4 ⟨rfl, ⟨r2, hr'⟩, ⟨Fu, hu, hu1, hu2⟩, hs⟩
            rw [hny] at hr'
            replace hr := Src.of_two (hr.two.same hs (by simp <;> omega)) hr' hrb
            obtain ⟨unp2, hb2, hun⟩ : ∃ unp2, BR w4 b rb B bo (0 : Nat) V raw unp2 ∧ ∀ j, j < 32 * y → unp2 j = .int .u32 (bts (num d len) (8 * bo + n * j) n : Nat) := ⟨_, BR.unp_row hu (fun j hj => hu2 j (by omega)), fun j hj => by rw [Nat.add_comm j 13]; exact hu1 j hj⟩
            replace hb := hb2
            clear hr' hb2 hu hu1 hu2
            replace hg := hg.same hs (by simp <;> omega)
            replace hF := hF.same hs (by simp <;> omega)
            replace hS := hS.trans hs (by simp)
            refine WR.move rfl rfl ?_
            refine WR.extract rfl rfl rfl ?_
            refine WR.extract rfl rfl rfl ?_
            refine WR.assign rfl rfl ?_
            refine WR.assign rfl rfl ?_
            refine WR.nil ?_
            refine WN.seq ?_
            refine WC.seq ?_
            refine WC.seq ?_
            refine WC.region ?_
            refine WR.move rfl rfl ?_
            refine WR.nilCheckP rfl rfl ?_
            refine WR.field rfl fa53_6 rfl ?_
            refine WR.move rfl rfl ?_
            refine WR.sliceA rfl Tryz.underlying51 sz50 ⟨_, _, rfl, by omega, by omega, show 32 * y = Int.toNat _ by omega⟩ rfl rfl ?_
            refine WR.lenS rfl Tryz.underlying91 rfl ?_
            refine WR.move rfl rfl ?_
            refine WR.nil ?_
            refine WN.seq ?_
            refine WC.block ?_
            refine WC.loop (fun x : Nat × Int => [(115, .int .i64 (x.1 : Nat)), (114, .int .i64 (32 * y : Nat)), (113, .slice (some ⟨b, 13, none⟩) (32 * y) 1024), (20, .int .i64 (32 * y : Nat)), (21, .nilIface), (13, .int .i64 (i : Nat)), (11, .int .i64 x.2), (0, .pointer (some ⟨b, 0, none⟩)), (1, .int .u64 (n : Nat)), (2, .slice (some ⟨g, o, none⟩) L dc), (3, .int .i16 e), (12, .int .i64 (L : Nat))]) (fun m x w' => x.1 + m = 32 * y ∧ Glob w' aE aU aP ∧ Same [g, b, rb] w w' ∧ ∃ F, Row w' g t N F ∧ Put F f o L (i + x.1) (fun j => Value.int .i16 (bts (num d len) (pos + n * j) n : Nat)) ∧ BR w' b rb B bo (0 : Nat) V raw unp2 ∧ Src w' rb db dO len cap (bo + 4 * (n * y) : Nat) (r2 : Int) d) (32 * y) (0, c) ⟨rfl, rfl, rfl, rfl, rfl, rfl, rfl, rfl, rfl, rfl, rfl, rfl, trivial⟩ ⟨by show 0 + 32 * y = _; omega, hg, hS, F, hF, hput, hb, hr⟩ ?_
            clear hg hS hF hput hb hr
            rintro m2 ⟨j, c⟩ w5 ⟨hm2, hg, hS, F, hF, hput, hb, hr⟩
            simp only [] at hm2 hput
            refine WC.seq ?_
            refine WC.region ?_
            refine WR.bin rfl rfl rfl rfl ?_
            refine WR.nil ?_
            refine WN.seq ?_
            refine WC.seq ?_
            refine WC.cond rfl (fun h618 => ?_) (fun h618 => ?_)
            · skip
              (try simp only [decide_eq_true_eq, decide_eq_false_iff_not, beq_iff_eq, beq_eq_false_iff_ne, bne_iff_ne, bne_eq_false_iff_eq, gt_iff_lt, ge_iff_le, Int.not_lt, Int.not_le, ne_eq, Bool.not_eq_true, Bool.not_eq_false, Bool.and_eq_true, Bool.and_eq_false_iff, Bool.or_eq_true, Bool.or_eq_false_iff] at h618)
              refine WC.skip ?_
              refine WN.seq ?_
              refine WC.seq ?_
              refine WC.block ?_
              refine WC.seq ?_
              refine WC.region ?_
              refine WR.move rfl rfl ?_
              refine WR.idxK (j) rfl rfl Tryz.underlying91 sz50 (by omega) (by omega) rfl ?_
              refine WR.load rfl Tryz.underlying50 rfl ((hb.cu (by omega)).trans (congrArg some (hun j (by omega)))) rfl ?_
              refine WR.assign rfl rfl ?_
              refine WR.assign rfl rfl ?_
              refine WR.nil ?_
              refine WN.seq ?_
              refine WC.seq ?_
              refine WC.region ?_
              refine WR.move rfl rfl ?_
              refine WR.conv rfl Tryz.underlying50 Tryz.underlying75 (show _ = ((bts (num d len) (8 * bo + n * j) n : Nat) : Int) by exact w15 _ _ _ hn2) rfl ?_
              refine WR.assign rfl rfl ?_
              refine WR.nil ?_
              refine WN.seq ?_
              refine WC.seq ?_
              refine WC.region ?_
              refine WR.move rfl rfl ?_
              refine WR.move rfl rfl ?_
              refine WR.move rfl rfl ?_
              (refine WR.bin rfl rfl (ar_add (z := ((i + j : Nat) : Int)) ?_) rfl ?_; (rw [wrap_i64 (by omega) (by omega)]; omega))
              refine WR.move rfl rfl ?_
              refine WR.idxK (i + j) rfl rfl Tryz.underlying72 sz75 (by omega) (by omega) rfl ?_
              refine WR.storeK rfl rfl rfl sz75 (hF.cell (by omega)) (hF.fz _) ?_
              intro w6 hn hs
              replace hF := hF.set' hn
              replace hg := hg.same hs (by simp <;> omega)
              replace hr := hr.same hs (by simp <;> omega) (by simp <;> omega)
              replace hb := hb.same hs (by simp <;> omega)
              replace hS := hS.trans hs (by simp)
              clear hn hs
              refine WR.nil ?_
              refine WN.seq ?_
              refine WC.seq ?_
              refine WC.region ?_
              refine WR.move rfl rfl ?_
              refine WR.move rfl rfl ?_
              refine WR.bin rfl rfl rfl rfl ?_
              refine WR.nil ?_
              refine WN.seq ?_
              refine WC.cond rfl (fun h621 => ?_) (fun h621 => ?_)
              · skip
                (try simp only [decide_eq_true_eq, decide_eq_false_iff_not, beq_iff_eq, beq_eq_false_iff_ne, bne_iff_ne, bne_eq_false_iff_eq, gt_iff_lt, ge_iff_le, Int.not_lt, Int.not_le, ne_eq, Bool.not_eq_true, Bool.not_eq_false, Bool.and_eq_true, Bool.and_eq_false_iff, Bool.or_eq_true, Bool.or_eq_false_iff] at h621)
                refine WC.region ?_
                refine WR.move rfl rfl ?_
                refine WR.bin rfl rfl (ar_add rfl) rfl ?_
                refine WR.assign rfl rfl ?_
                refine WR.nil ?_
                refine WN.block ?_
                refine WN.seq ?_
                refine WC.region ?_
                first
                  | (refine WR.bin rfl rfl (ar_add (wrap_i64 ?_ ?_)) rfl ?_; (omega); (omega))
                  | refine WR.bin rfl rfl (ar_add rfl) rfl ?_
                refine WR.move rfl rfl ?_
                refine WR.nil ?_
                exact WN.loop (m2 - 1) (j + 1, _) (by omega) ⟨kint rfl (by show _ = ((j + 1 : Nat) : Int); omega), rfl, rfl, rfl, rfl, rfl, rfl, rfl, rfl, rfl, rfl, rfl, trivial⟩ ⟨by show j + 1 + (m2 - 1) = _; omega, hg, hS, _, hF, hput.step (by omega) (by rw [show 8 * bo + n * j = pos + n * (i + j) by rw [Nat.mul_add]; omega]; try rfl), hb, hr⟩
              · skip
                (try simp only [decide_eq_true_eq, decide_eq_false_iff_not, beq_iff_eq, beq_eq_false_iff_ne, bne_iff_ne, bne_eq_false_iff_eq, gt_iff_lt, ge_iff_le, Int.not_lt, Int.not_le, ne_eq, Bool.not_eq_true, Bool.not_eq_false, Bool.and_eq_true, Bool.and_eq_false_iff, Bool.or_eq_true, Bool.or_eq_false_iff] at h621)
                refine WC.skip ?_
                refine WN.block ?_
                refine WN.seq ?_
                refine WC.region ?_
                first
                  | (refine WR.bin rfl rfl (ar_add (wrap_i64 ?_ ?_)) rfl ?_; (omega); (omega))
                  | refine WR.bin rfl rfl (ar_add rfl) rfl ?_
                refine WR.move rfl rfl ?_
                refine WR.nil ?_
                exact WN.loop (m2 - 1) (j + 1, _) (by omega) ⟨kint rfl (by show _ = ((j + 1 : Nat) : Int); omega), rfl, rfl, rfl, rfl, rfl, rfl, rfl, rfl, rfl, rfl, rfl, trivial⟩ ⟨by show j + 1 + (m2 - 1) = _; omega, hg, hS, _, hF, hput.step (by omega) (by rw [show 8 * bo + n * j = pos + n * (i + j) by rw [Nat.mul_add]; omega]; try rfl), hb, hr⟩
            · skip
              (try simp only [decide_eq_true_eq, decide_eq_false_iff_not, beq_iff_eq, beq_eq_false_iff_ne, bne_iff_ne, bne_eq_false_iff_eq, gt_iff_lt, ge_iff_le, Int.not_lt, Int.not_le, ne_eq, Bool.not_eq_true, Bool.not_eq_false, Bool.and_eq_true, Bool.and_eq_false_iff, Bool.or_eq_true, Bool.or_eq_false_iff] at h618)
              obtain rfl : j = 32 * y := by omega
              refine WC.exit rfl ?_
              refine WN.seq ?_
              refine WC.seq ?_
              refine WC.region ?_
              refine WR.move rfl rfl ?_
              refine WR.move rfl rfl ?_
              (refine WR.bin rfl rfl (ar_add (z := ((i + 32 * y : Nat) : Int)) ?_) rfl ?_; (rw [wrap_i64 (by omega) (by omega)]; omega))
              refine WR.assign rfl rfl ?_
              refine WR.nil ?_
              refine WN.seq ?_
              refine WC.seq ?_
              refine WC.region ?_
              refine WR.move rfl rfl ?_
              refine WR.nilCheckP rfl rfl ?_
              refine WR.field rfl fa53_2 rfl ?_
              refine WR.load rfl Tryz.underlying2 rfl hb.c2 rfl ?_
              refine WR.move rfl rfl ?_
              refine WR.move rfl rfl ?_
              first
                | (refine WR.conv rfl Tryz.underlying44 Tryz.underlying3 (wrap_i64 ?_ ?_) rfl ?_; (omega); (omega))
                | refine WR.conv rfl Tryz.underlying44 Tryz.underlying3 rfl rfl ?_
              (refine WR.bin rfl rfl (ar_mul (z := ((32 * (n * y) : Nat) : Int)) ?_) rfl ?_; (rw [← Int.natCast_mul, show 32 * y * n = 32 * (n * y) by rw [Nat.mul_assoc, Nat.mul_comm y n]]; exact wrap_i64 (by omega) (by omega)))
              refine WR.bin rfl rfl (ar_quo (z := ((4 * (n * y) : Nat) : Int)) (by decide) (by rw [tdiv_pos (by omega), wrap_i64 (by omega) (by omega)]; omega)) rfl ?_
              (refine WR.bin rfl rfl (ar_add (z := ((bo + 4 * (n * y) : Nat) : Int)) ?_) rfl ?_; (rw [wrap_i64 (by omega) (by omega)]; omega))
              refine WR.nilCheckP rfl rfl ?_
              refine WR.field rfl fa53_2 rfl ?_
              refine WR.storeK rfl rfl rfl sz2 hb.c2 (hb.fz 2) ?_
              intro w6 hn hs
              replace hb := hb.s2 hn
              replace hg := hg.same hs (by simp <;> omega)
              replace hr := hr.same hs (by simp <;> omega) (by simp <;> omega)
              replace hF := hF.same hs (by simp <;> omega)
              replace hS := hS.trans hs (by simp)
              clear hn hs
              refine WR.nil ?_
              refine WN.seq ?_
              refine WC.seq ?_
              refine WC.seq ?_
              refine WC.region ?_
              refine WR.move rfl rfl ?_
              refine WR.neqNil rfl rfl Tryz.underlying41 rfl ?_
              refine WR.nil ?_
              refine WN.seq ?_
              refine WC.cond rfl (fun h627 => ?_) (fun h627 => ?_)
              · skip
                cases h627
              · skip
                (try simp only [decide_eq_true_eq, decide_eq_false_iff_not, beq_iff_eq, beq_eq_false_iff_ne, bne_iff_ne, bne_eq_false_iff_eq, gt_iff_lt, ge_iff_le, Int.not_lt, Int.not_le, ne_eq, Bool.not_eq_true, Bool.not_eq_false, Bool.and_eq_true, Bool.and_eq_false_iff, Bool.or_eq_true, Bool.or_eq_false_iff] at h627)
                refine WC.skip ?_
                refine WN.seq ?_
                refine WC.seq ?_
                refine WC.region ?_
                refine WR.move rfl rfl ?_
                refine WR.bin rfl rfl rfl rfl ?_
                refine WR.nil ?_
                refine WN.seq ?_
                refine WC.cond rfl (fun h630 => ?_) (fun h630 => ?_)
                · skip
                  (try simp only [decide_eq_true_eq, decide_eq_false_iff_not, beq_iff_eq, beq_eq_false_iff_ne, bne_iff_ne, bne_eq_false_iff_eq, gt_iff_lt, ge_iff_le, Int.not_lt, Int.not_le, ne_eq, Bool.not_eq_true, Bool.not_eq_false, Bool.and_eq_true, Bool.and_eq_false_iff, Bool.or_eq_true, Bool.or_eq_false_iff] at h630)
                  refine WC.exit rfl ?_
                  obtain rfl : y = 0 := by omega
                  exact WN.loop 0 (i + 32 * 0, c) (by decide) ⟨rfl, rfl, rfl, rfl, rfl, rfl, rfl, trivial⟩ ⟨by show i + 32 * 0 ≤ L; omega, hg, hS, F, hF, hput, bo + 4 * (n * 0), 0, _, _, raw, unp2, _, _, hb, hr, by show _ = pos + n * (i + 32 * 0); rw [Nat.mul_add n, Nat.mul_left_comm n 32 0]; omega, by omega⟩
                · skip
                  (try simp only [decide_eq_true_eq, decide_eq_false_iff_not, beq_iff_eq, beq_eq_false_iff_ne, bne_iff_ne, bne_eq_false_iff_eq, gt_iff_lt, ge_iff_le, Int.not_lt, Int.not_le, ne_eq, Bool.not_eq_true, Bool.not_eq_false, Bool.and_eq_true, Bool.and_eq_false_iff, Bool.or_eq_true, Bool.or_eq_false_iff] at h630)
                  refine WC.skip ?_
                  refine WN.block ?_
                  exact WN.loop (L - (i + 32 * y)) (i + 32 * y, c) (by omega) ⟨rfl, rfl, rfl, rfl, rfl, rfl, rfl, trivial⟩ ⟨by show i + 32 * y + (L - (i + 32 * y)) = L; omega, hg, hS, F, hF, hput, bo + 4 * (n * y), 0, _, _, raw, unp2, _, _, hb, hr, by show _ = pos + n * (i + 32 * y); rw [Nat.mul_add n, Nat.mul_left_comm n 32 y]; omega, by omega, fun _ => ⟨rfl, rfl⟩⟩
          · skip
            (try simp only [decide_eq_true_eq, decide_eq_false_iff_not, beq_iff_eq, beq_eq_false_iff_ne, bne_iff_ne, bne_eq_false_iff_eq, gt_iff_lt, ge_iff_le, Int.not_lt, Int.not_le, ne_eq, Bool.not_eq_true, Bool.not_eq_false, Bool.and_eq_true, Bool.and_eq_false_iff, Bool.or_eq_true, Bool.or_eq_false_iff] at h614)
            refine WC.exit rfl ?_
            exact WN.loop 0 (i, c) (by decide) ⟨rfl, rfl, rfl, rfl, rfl, rfl, rfl, trivial⟩ ⟨by show i ≤ L; omega, hg, hS, F, hF, hput, bo, bit, B, V, raw, unp, p, r, hb, hr, hpos, hbit⟩
        · skip
          clear hg hS hF hput hb hr hpos hbit hz
          rintro ⟨i, c⟩ w9 ⟨hiL, hg, hS, F, hF, hput, bo, bit, B, V, raw, unp, p, r, hb, hr, hpos, hbit⟩
          simp only [] at hiL hput hpos
          have hni0 := Nat.mul_le_mul_left n hiL
          refine WN.seq ?_
          refine WC.seq ?_
          refine WC.seq ?_
          refine WC.region ?_
          refine WR.move rfl rfl ?_
          refine WR.callF rfl rfl cf18 rfl rfl (fillbuffer hg b rb db dO len cap _ _ _ _ p r d _ _ hb hr (by omega) (by omega) hgb hne hnd) ?_
          rintro _ w4 ⟨rfl, ⟨raw2, hb'⟩, hs⟩
          replace hb := hb'
          clear hb'
          simp only [Int.toNat_natCast] at hb
          replace hg := hg.same hs (by simp <;> omega)
          replace hr := hr.same hs (by simp <;> omega) (by simp <;> omega)
          replace hF := hF.same hs (by simp <;> omega)
          replace hS := hS.trans hs (by simp)
          refine WR.assign rfl rfl ?_
          refine WR.nil ?_
          refine WN.seq ?_
          refine WC.seq ?_
          refine WC.region ?_
          refine WR.move rfl rfl ?_
          refine WR.neqNil rfl rfl Tryz.underlying41 rfl ?_
          refine WR.nil ?_
          refine WN.seq ?_
          refine WC.cond rfl (fun h635 => ?_) (fun h635 => ?_)
          · skip
            cases h635
          · skip
            (try simp only [decide_eq_true_eq, decide_eq_false_iff_not, beq_iff_eq, beq_eq_false_iff_ne, bne_iff_ne, bne_eq_false_iff_eq, gt_iff_lt, ge_iff_le, Int.not_lt, Int.not_le, ne_eq, Bool.not_eq_true, Bool.not_eq_false, Bool.and_eq_true, Bool.and_eq_false_iff, Bool.or_eq_true, Bool.or_eq_false_iff] at h635)
            refine WC.skip ?_
            refine WN.seq ?_
            refine WC.seq ?_
            refine WC.block ?_
            refine WC.loop (fun x : Nat × Int => [(0, .pointer (some ⟨b, 0, none⟩)), (1, .int .u64 (n : Nat)), (2, .slice (some ⟨g, o, none⟩) L dc), (3, .int .i16 e), (12, .int .i64 (L : Nat)), (13, .int .i64 (x.1 : Nat)), (11, .int .i64 x.2)]) (fun m x w' => x.1 + m = L ∧ Glob w' aE aU aP ∧ Same [g, b, rb] w w' ∧ ∃ F, Row w' g t N F ∧ Put F f o L x.1 (fun j => Value.int .i16 (bts (num d len) (pos + n * j) n : Nat)) ∧ ∃ (bo bit : Nat) (raw unp : Nat → Value) (p r : Int), BR w' b rb (bts (num d len) (8 * bo) 64 : Nat) bo bit (8 * min (len - bo) 8 : Nat) raw unp ∧ Src w' rb db dO len cap p r d ∧ 8 * bo + bit = pos + n * x.1 ∧ bit ≤ 64) (L - i) (i, c) ⟨rfl, rfl, rfl, rfl, rfl, rfl, rfl, trivial⟩ ⟨by show i + (L - i) = L; omega, hg, hS, F, hF, hput, bo, bit, raw2, unp, p, r, hb, hr, hpos, hbit⟩ ?_
            clear hg hS hF hput hb hr hpos hbit hni0 hiL
            rintro m ⟨i, c⟩ w5 ⟨hm, hg, hS, F, hF, hput, bo, bit, raw, unp, p, r, hb, hr, hpos, hbit⟩
            simp only [] at hm hput hpos
            refine WC.seq ?_
            refine WC.seq ?_
            refine WC.region ?_
            refine WR.move rfl rfl ?_
            refine WR.move rfl rfl ?_
            refine WR.bin rfl rfl rfl rfl ?_
            refine WR.nil ?_
            refine WN.seq ?_
            refine WC.cond rfl (fun h638 => ?_) (fun h638 => ?_)
            · skip
              (try simp only [decide_eq_true_eq, decide_eq_false_iff_not, beq_iff_eq, beq_eq_false_iff_ne, bne_iff_ne, bne_eq_false_iff_eq, gt_iff_lt, ge_iff_le, Int.not_lt, Int.not_le, ne_eq, Bool.not_eq_true, Bool.not_eq_false, Bool.and_eq_true, Bool.and_eq_false_iff, Bool.or_eq_true, Bool.or_eq_false_iff] at h638)
              have hni := Nat.mul_le_mul_left n (show i + 1 ≤ L by omega)
              rw [Nat.mul_add_one] at hni
              refine WC.skip ?_
              refine WN.seq ?_
              refine WC.seq ?_
              refine WC.block ?_
              refine WC.seq ?_
              refine WC.region ?_
              refine WR.move rfl rfl ?_
              refine WR.move rfl rfl ?_
              refine WR.callF rfl rfl cf16 rfl rfl (next_ hg b rb db dO len cap bo bit n p r d raw unp hb hr (by omega) hn1 (by omega) (by omega) hgb hne hnd) ?_
              rintro _ w6 ⟨rfl, ⟨bo2, bit2, raw2, hb', hpos2, hbit1, hbit2⟩, hs⟩
              replace hb := hb'
              clear hb'
              replace hg := hg.same hs (by simp <;> omega)
              replace hr := hr.same hs (by simp <;> omega) (by simp <;> omega)
              replace hF := hF.same hs (by simp <;> omega)
              replace hS := hS.trans hs (by simp)
              refine WR.move rfl rfl ?_
              refine WR.extract rfl rfl rfl ?_
              refine WR.extract rfl rfl rfl ?_
              refine WR.assign rfl rfl ?_
              refine WR.assign rfl rfl ?_
              refine WR.nil ?_
              refine WN.seq ?_
              refine WC.seq ?_
              refine WC.seq ?_
              refine WC.region ?_
              refine WR.move rfl rfl ?_
              refine WR.neqNil rfl rfl Tryz.underlying41 rfl ?_
              refine WR.nil ?_
              refine WN.seq ?_
              refine WC.cond rfl (fun h640 => ?_) (fun h640 => ?_)
              · skip
                cases h640
              · skip
                (try simp only [decide_eq_true_eq, decide_eq_false_iff_not, beq_iff_eq, beq_eq_false_iff_ne, bne_iff_ne, bne_eq_false_iff_eq, gt_iff_lt, ge_iff_le, Int.not_lt, Int.not_le, ne_eq, Bool.not_eq_true, Bool.not_eq_false, Bool.and_eq_true, Bool.and_eq_false_iff, Bool.or_eq_true, Bool.or_eq_false_iff] at h640)
                refine WC.skip ?_
                refine WN.seq ?_
                refine WC.seq ?_
                refine WC.region ?_
                refine WR.move rfl rfl ?_
                refine WR.conv rfl Tryz.underlying28 Tryz.underlying75 (show _ = ((bts (num d len) (8 * bo + bit) n : Nat) : Int) by exact w15 _ _ _ hn2) rfl ?_
                refine WR.assign rfl rfl ?_
                refine WR.nil ?_
                refine WN.seq ?_
                refine WC.seq ?_
                refine WC.region ?_
                refine WR.move rfl rfl ?_
                refine WR.move rfl rfl ?_
                refine WR.move rfl rfl ?_
                refine WR.idxK (i) rfl rfl Tryz.underlying72 sz75 (by omega) (by omega) rfl ?_
                refine WR.storeK rfl rfl rfl sz75 (hF.cell (by omega)) (hF.fz _) ?_
                intro w7 hn hs
                replace hF := hF.set' hn
                replace hg := hg.same hs (by simp <;> omega)
                replace hr := hr.same hs (by simp <;> omega) (by simp <;> omega)
                replace hb := hb.same hs (by simp <;> omega)
                replace hS := hS.trans hs (by simp)
                clear hn hs
                refine WR.nil ?_
                refine WN.seq ?_
                refine WC.seq ?_
                refine WC.region ?_
                refine WR.move rfl rfl ?_
                refine WR.move rfl rfl ?_
                refine WR.bin rfl rfl rfl rfl ?_
                refine WR.nil ?_
                refine WN.seq ?_
                refine WC.cond rfl (fun h645 => ?_) (fun h645 => ?_)
                · skip
                  (try simp only [decide_eq_true_eq, decide_eq_false_iff_not, beq_iff_eq, beq_eq_false_iff_ne, bne_iff_ne, bne_eq_false_iff_eq, gt_iff_lt, ge_iff_le, Int.not_lt, Int.not_le, ne_eq, Bool.not_eq_true, Bool.not_eq_false, Bool.and_eq_true, Bool.and_eq_false_iff, Bool.or_eq_true, Bool.or_eq_false_iff] at h645)
                  refine WC.region ?_
                  refine WR.move rfl rfl ?_
                  refine WR.bin rfl rfl (ar_add rfl) rfl ?_
                  refine WR.assign rfl rfl ?_
                  refine WR.nil ?_
                  refine WN.block ?_
                  refine WN.seq ?_
                  refine WC.region ?_
                  refine WR.move rfl rfl ?_
                  first
                    | (refine WR.bin rfl rfl (ar_add (wrap_i64 ?_ ?_)) rfl ?_; (omega); (omega))
                    | refine WR.bin rfl rfl (ar_add rfl) rfl ?_
                  refine WR.assign rfl rfl ?_
                  refine WR.nil ?_
                  exact WN.loop (m - 1) (i + 1, _) (by omega) ⟨rfl, rfl, rfl, rfl, rfl, kint rfl (by show _ = ((i + 1 : Nat) : Int); omega), rfl, trivial⟩ ⟨by show i + 1 + (m - 1) = L; omega, hg, hS, _, hF, hput.step (by omega) (by rw [hpos]; try rfl), bo2, bit2, raw2, unp, p, r, hb, hr, by show _ = pos + n * (i + 1); rw [Nat.mul_add_one]; omega, by omega⟩
                · skip
                  (try simp only [decide_eq_true_eq, decide_eq_false_iff_not, beq_iff_eq, beq_eq_false_iff_ne, bne_iff_ne, bne_eq_false_iff_eq, gt_iff_lt, ge_iff_le, Int.not_lt, Int.not_le, ne_eq, Bool.not_eq_true, Bool.not_eq_false, Bool.and_eq_true, Bool.and_eq_false_iff, Bool.or_eq_true, Bool.or_eq_false_iff] at h645)
                  refine WC.skip ?_
                  refine WN.block ?_
                  refine WN.seq ?_
                  refine WC.region ?_
                  refine WR.move rfl rfl ?_
                  first
                    | (refine WR.bin rfl rfl (ar_add (wrap_i64 ?_ ?_)) rfl ?_; (omega); (omega))
                    | refine WR.bin rfl rfl (ar_add rfl) rfl ?_
                  refine WR.assign rfl rfl ?_
                  refine WR.nil ?_
                  exact WN.loop (m - 1) (i + 1, _) (by omega) ⟨rfl, rfl, rfl, rfl, rfl, kint rfl (by show _ = ((i + 1 : Nat) : Int); omega), rfl, trivial⟩ ⟨by show i + 1 + (m - 1) = L; omega, hg, hS, _, hF, hput.step (by omega) (by rw [hpos]; try rfl), bo2, bit2, raw2, unp, p, r, hb, hr, by show _ = pos + n * (i + 1); rw [Nat.mul_add_one]; omega, by omega⟩
            · skip
              (try simp only [decide_eq_true_eq, decide_eq_false_iff_not, beq_iff_eq, beq_eq_false_iff_ne, bne_iff_ne, bne_eq_false_iff_eq, gt_iff_lt, ge_iff_le, Int.not_lt, Int.not_le, ne_eq, Bool.not_eq_true, Bool.not_eq_false, Bool.and_eq_true, Bool.and_eq_false_iff, Bool.or_eq_true, Bool.or_eq_false_iff] at h638)
              obtain rfl : i = L := by omega
              refine WC.exit rfl ?_
              refine WN.seq ?_
              refine WC.seq ?_
              refine WC.region ?_
              refine WR.move rfl rfl ?_
              refine WR.move rfl rfl ?_
              refine WR.assign rfl rfl ?_
              refine WR.assign rfl rfl ?_
              refine WR.assign rfl rfl ?_
              refine WR.nil ?_
              refine WN.seq ?_
              refine WC.retR rfl rfl ?_
              exact ⟨⟨_, rfl⟩, ⟨bo, bit, _, _, raw, unp, p, r, hb, hr, hpos, hbit, fun _ => ⟨rfl, rfl⟩⟩, ⟨F, hF, hput⟩, hS⟩

end Go.Proofs.YtajgdpiodpoooaaGreatDoor.Vm
