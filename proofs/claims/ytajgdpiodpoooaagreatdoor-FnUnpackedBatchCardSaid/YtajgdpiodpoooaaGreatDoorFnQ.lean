/- GetBatchBitmap. -/
import Derived.Test.YtajgdpiodpoooaaGreatDoorBitRow
namespace Go.Proofs.YtajgdpiodpoooaaGreatDoor.Vm
open Go Mix Go.RowKit Num
set_option maxRecDepth 20000
set_option linter.unusedSimpArgs false
theorem bne_bts (B p : Nat) : ((((bts B p 1 : Nat) : Int)) != 0) = (bts B p 1 == 1) := by
  have h := bts_lt B p 1
  rcases (show bts B p 1 = 0 ∨ bts B p 1 = 1 by omega) with h | h <;> simp [h]
theorem cf35 (us : Array Value) (w : World) : (callFunc 35 us).run Tryz.prog w = .ok (.enter 35 us) w := by kernel_rfl
set_option maxHeartbeats 200000 in
theorem getBitmap {w : World} {aE aU aP : Addr} (hg : Glob w aE aU aP) (tb : Tab w) (b rb db dO len cap L g o dl dc t N pos : Nat) (d : Nat → Nat) (f : Nat → Value) (ha : At w b rb db dO len cap d pos) (hF : Row w g t N f) (hz0 : ∀ q, q < dl → f (o + q) = .int .u8 0) (hoL : o + dl ≤ N) (hLc : dl ≤ dc) (hdl : L ≤ 8 * dl) (hL : L ≤ 1099511627776) (hdl2 : dl ≤ 1099511627776) (hfit : pos + L ≤ 8 * len) (hgb : 7 ≤ b) (hrb : 7 ≤ rb) (hgg : 7 ≤ g) (hne : b ≠ rb) (hnd : b ≠ db) (hrd : rb ≠ db) (hx1 : g ≠ b) (hx2 : g ≠ rb) (hx3 : g ≠ db) :
    Ret Tryz.prog 24 #[.pointer (some ⟨b, 0, none⟩), .slice (some ⟨g, o, none⟩) dl dc, .int .i64 0, .int .i64 (L : Nat)] w fun v w' => v = .tuple #[.int .i64 (L : Nat), .nilIface] ∧ At w' b rb db dO len cap d (pos + L) ∧ (∃ F, Row w' g t N F ∧ Bits F o dl L (fun j => bts (num d len) (pos + j) 1 == 1)) ∧ Same [g, b, rb] w w' := by
  have hS := Same.refl [g, b, rb] w
  have ha0 := ha
  obtain ⟨bo, bit, B, V, raw, unp, p, r, hb, hr, hpos, hbit, hB⟩ := ha
  have hlen := hr.len_
  have hbi := Bits.zero (fun j => bts (num d len) (pos + j) 1 == 1) hz0
  refine Ret.enter (vs := [.pointer (some ⟨b, 0, none⟩), .slice (some ⟨g, o, none⟩) dl dc, .int .i64 0, .int .i64 (L : Nat)]) Tryz.func24 Tryz.ntmps24 rfl rfl ?_
  refine WC.seq ?_
  refine WC.region ?_
  refine WR.assign rfl rfl ?_
  refine WR.assign rfl rfl ?_
  refine WR.nil ?_
  refine WN.seq ?_
  refine WC.seq ?_
  refine WC.seq ?_
  refine WC.region ?_
  refine WR.move rfl rfl ?_
  refine WR.bin rfl rfl rfl rfl ?_
  refine WR.nil ?_
  refine WN.seq ?_
  refine WC.cond rfl (fun h656 => ?_) (fun h656 => ?_)
  · skip
    (try simp only [decide_eq_true_eq, decide_eq_false_iff_not, beq_iff_eq, beq_eq_false_iff_ne, bne_iff_ne, bne_eq_false_iff_eq, gt_iff_lt, ge_iff_le, Int.not_lt, Int.not_le, ne_eq, Bool.not_eq_true, Bool.not_eq_false, Bool.and_eq_true, Bool.and_eq_false_iff, Bool.or_eq_true, Bool.or_eq_false_iff] at h656)
    refine WC.seq ?_
    refine WC.region ?_
    refine WR.assign rfl rfl ?_
    refine WR.assign rfl rfl ?_
    refine WR.nil ?_
    refine WN.seq ?_
    refine WC.retR rfl rfl ?_
    obtain rfl : L = 0 := by omega
    exact ⟨rfl, ha0, ⟨f, hF, hbi⟩, hS⟩
  · skip
    (try simp only [decide_eq_true_eq, decide_eq_false_iff_not, beq_iff_eq, beq_eq_false_iff_ne, bne_iff_ne, bne_eq_false_iff_eq, gt_iff_lt, ge_iff_le, Int.not_lt, Int.not_le, ne_eq, Bool.not_eq_true, Bool.not_eq_false, Bool.and_eq_true, Bool.and_eq_false_iff, Bool.or_eq_true, Bool.or_eq_false_iff] at h656)
    refine WC.skip ?_
    refine WN.seq ?_
    refine WC.seq ?_
    refine WC.region ?_
    refine WR.assign rfl rfl ?_
    refine WR.nil ?_
    refine WN.seq ?_
    refine WC.seq ?_
    refine WC.cut (fun i : Nat => [(0, .pointer (some ⟨b, 0, none⟩)), (1, .slice (some ⟨g, o, none⟩) dl dc), (2, .int .i64 0), (3, .int .i64 (L : Nat)), (10, .int .i64 (i : Nat))]) (fun i w' => i ≤ L ∧ Glob w' aE aU aP ∧ Tab w' ∧ Same [g, b, rb] w w' ∧ ∃ F, Row w' g t N F ∧ Bits F o dl i (fun j => bts (num d len) (pos + j) 1 == 1) ∧ ∃ (bo bit : Nat) (B V : Int) (raw unp : Nat → Value) (p r : Int), BR w' b rb B bo bit V raw unp ∧ Src w' rb db dO len cap p r d ∧ 8 * bo + bit = pos + i ∧ bit ≤ 64 ∧ (i < L → bit = 0 ∧ i = 0)) ?_ ?_
    · skip
      refine WC.block ?_
      refine WC.loop (fun i : Nat => [(0, .pointer (some ⟨b, 0, none⟩)), (1, .slice (some ⟨g, o, none⟩) dl dc), (2, .int .i64 0), (3, .int .i64 (L : Nat)), (10, .int .i64 (i : Nat))]) (fun m i w' => i + m = L ∧ Glob w' aE aU aP ∧ Tab w' ∧ Same [g, b, rb] w w' ∧ ∃ F, Row w' g t N F ∧ Bits F o dl i (fun j => bts (num d len) (pos + j) 1 == 1) ∧ ∃ (bo bit : Nat) (B V : Int) (raw unp : Nat → Value) (p r : Int), BR w' b rb B bo bit V raw unp ∧ Src w' rb db dO len cap p r d ∧ 8 * bo + bit = pos + i ∧ bit ≤ 64 ∧ (bit ≠ 0 → B = (bts (num d len) (8 * bo) 64 : Nat) ∧ V = (8 * min (len - bo) 8 : Nat)) ∧ (i = 0 ∨ bit ≠ 0)) L 0 ⟨rfl, rfl, rfl, rfl, rfl, trivial⟩ ⟨by omega, hg, tb, hS, f, hF, hbi, bo, bit, B, V, raw, unp, p, r, hb, hr, by omega, hbit, hB, .inl rfl⟩ ?_
      clear hg tb hS hF hbi hb hr hpos hbit hB ha0 hz0
      rintro m i w1 ⟨hm, hg, tb, hS, F, hF, hbi, bo, bit, B, V, raw, unp, p, r, hb, hr, hpos, hbit, hB, hi0⟩
      rcases Nat.lt_or_ge i L with hi | hi
      · skip
        refine WC.seq ?_
        refine WC.seq ?_
        refine WC.region ?_
        refine WR.move rfl rfl ?_
        refine WR.move rfl rfl ?_
        refine WR.bin rfl rfl rfl rfl ?_
        refine WR.move rfl rfl ?_
        refine WR.take rfl rfl (by first | rfl | assumption | simp_all) ?_
        refine WR.move rfl rfl ?_
        refine WR.take rfl rfl (by first | rfl | assumption | simp_all) ?_
        refine WR.nilCheckP rfl rfl ?_
        refine WR.take rfl rfl (by first | rfl | assumption | simp_all) ?_
        refine WR.field rfl fa53_3 rfl ?_
        refine WR.take rfl rfl (by first | rfl | assumption | simp_all) ?_
        refine WR.load rfl Tryz.underlying44 rfl hb.c3 rfl ?_
        refine WR.take rfl rfl (by first | rfl | assumption | simp_all) ?_
        refine WR.bin rfl rfl rfl rfl ?_
        refine WR.pickT rfl (by first | rfl | assumption | simp_all) rfl rfl ?_
        refine WR.nil ?_
        refine WN.seq ?_
        refine WC.cond rfl (fun h663 => ?_) (fun h663 => ?_)
        · skip
          (try simp only [decide_eq_true_eq, decide_eq_false_iff_not, beq_iff_eq, beq_eq_false_iff_ne, bne_iff_ne, bne_eq_false_iff_eq, gt_iff_lt, ge_iff_le, Int.not_lt, Int.not_le, ne_eq, Bool.not_eq_true, Bool.not_eq_false, Bool.and_eq_true, Bool.and_eq_false_iff, Bool.or_eq_true, Bool.or_eq_false_iff] at h663)
          have hbt : bit ≠ 0 := by omega
          obtain ⟨rfl, rfl⟩ := hB hbt
          obtain ⟨c, hc, hcb⟩ := hbi
          refine WC.skip ?_
          refine WN.seq ?_
          refine WC.seq ?_
          refine WC.block ?_
          refine WC.seq ?_
          refine WC.region ?_
          refine WR.move rfl rfl ?_
          refine WR.callF rfl rfl cf16 rfl rfl (next_ hg b rb db dO len cap bo bit 1 p r d raw unp hb hr (by omega) (by decide) (by decide) (by omega) hgb hne hnd) ?_
          rintro _ w2 ⟨rfl, ⟨bo2, bit2, raw2, hb', hpos2, hbit1, hbit2⟩, hs⟩
          replace hb := hb'
          clear hb'
          replace hg := hg.same hs (by simp <;> omega)
          replace tb := tb.same hs (by simp <;> omega)
          replace hr := hr.same hs (by simp <;> omega) (by simp <;> omega)
          replace hF := hF.same hs (by simp <;> omega)
          replace hS := hS.trans hs (by simp <;> omega)
          (try replace hM := hM.same hs (by simp <;> omega))
          refine WR.move rfl rfl ?_
          refine WR.extract rfl rfl rfl ?_
          refine WR.extract rfl rfl rfl ?_
          refine WR.assign rfl rfl ?_
          refine WR.assign rfl rfl ?_
          refine WR.nil ?_
          refine WN.seq ?_
          refine WC.seq ?_
          refine WC.seq ?_
          refine WC.region ?_
          refine WR.move rfl rfl ?_
          refine WR.neqNil rfl rfl Tryz.underlying41 rfl ?_
          refine WR.nil ?_
          refine WN.seq ?_
          refine WC.cond rfl (fun h665 => ?_) (fun h665 => ?_)
          · skip
            cases h665
          · skip
            (try simp only [decide_eq_true_eq, decide_eq_false_iff_not, beq_iff_eq, beq_eq_false_iff_ne, bne_iff_ne, bne_eq_false_iff_eq, gt_iff_lt, ge_iff_le, Int.not_lt, Int.not_le, ne_eq, Bool.not_eq_true, Bool.not_eq_false, Bool.and_eq_true, Bool.and_eq_false_iff, Bool.or_eq_true, Bool.or_eq_false_iff] at h665)
            refine WC.skip ?_
            refine WN.seq ?_
            refine WC.region ?_
            refine WR.move rfl rfl ?_
            refine WR.move rfl rfl ?_
            refine WR.move rfl rfl ?_
            (refine WR.bin rfl rfl (ar_add (z := ((i : Nat) : Int)) ?_) rfl ?_; (rw [wrap_i64 (by omega) (by omega)]; omega))
            refine WR.move rfl rfl ?_
            refine WR.bin rfl rfl rfl rfl ?_
            refine WR.callF rfl rfl cf35 rfl rfl (setBitTo tb g o dl dc t N i (c (i / 8)) F hF (hc _ (by omega)).1 (hc _ (by omega)).2 (by omega) (by omega) (by omega) hgg _) ?_
            rintro _ w3 ⟨rfl, ⟨x', hx1', hx2', hF'⟩, hs⟩
            replace hF := hF'
            have hbi : Bits (upd F (o + i / 8) (.int .u8 (x' : Nat))) o dl (i + 1) (fun j => bts (num d len) (pos + j) 1 == 1) := Bits.step hc hcb (by omega) hx1' (fun j hj => by
              rw [hx2' j hj, ← hpos]
              by_cases h : i % 8 = j
              · rw [if_pos h, if_pos h]
                exact bne_bts _ _
              · rw [if_neg h, if_neg h])
            clear hc hcb hx1' hx2' hF'
            replace hg := hg.same hs (by simp <;> omega)
            replace tb := tb.same hs (by simp <;> omega)
            replace hr := hr.same hs (by simp <;> omega) (by simp <;> omega)
            replace hb := hb.same hs (by simp <;> omega)
            replace hS := hS.trans hs (by simp <;> omega)
            (try replace hM := hM.same hs (by simp <;> omega))
            refine WR.nil ?_
            refine WN.block ?_
            refine WN.seq ?_
            refine WC.region ?_
            refine WR.move rfl rfl ?_
            first
              | (refine WR.bin rfl rfl (ar_add (wrap_i64 ?_ ?_)) rfl ?_; (omega); (omega))
              | refine WR.bin rfl rfl (ar_add rfl) rfl ?_
            refine WR.assign rfl rfl ?_
            refine WR.nil ?_
            exact WN.loop (m - 1) (i + 1) (by omega) ⟨rfl, rfl, rfl, rfl, kint rfl (by omega), trivial⟩ ⟨by omega, hg, tb, hS, _, hF, hbi, bo2, bit2, _, _, raw2, unp, p, r, hb, hr, by omega, by omega, fun _ => ⟨rfl, rfl⟩, .inr (by omega)⟩
        · skip
          (try simp only [decide_eq_true_eq, decide_eq_false_iff_not, beq_iff_eq, beq_eq_false_iff_ne, bne_iff_ne, bne_eq_false_iff_eq, gt_iff_lt, ge_iff_le, Int.not_lt, Int.not_le, ne_eq, Bool.not_eq_true, Bool.not_eq_false, Bool.and_eq_true, Bool.and_eq_false_iff, Bool.or_eq_true, Bool.or_eq_false_iff] at h663)
          refine WC.exit rfl ?_
          exact WN.loop 0 i (by decide) ⟨rfl, rfl, rfl, rfl, rfl, trivial⟩ ⟨by omega, hg, tb, hS, F, hF, hbi, bo, bit, B, V, raw, unp, p, r, hb, hr, hpos, hbit, fun _ => by omega⟩
      · skip
        refine WC.seq ?_
        refine WC.seq ?_
        refine WC.region ?_
        refine WR.move rfl rfl ?_
        refine WR.move rfl rfl ?_
        refine WR.bin rfl rfl rfl rfl ?_
        refine WR.move rfl rfl ?_
        refine WR.pass rfl rfl rfl (by first | rfl | assumption | simp_all) ?_
        refine WR.pass rfl rfl rfl (by first | rfl | assumption | simp_all) ?_
        refine WR.pass rfl rfl rfl (by first | rfl | assumption | simp_all) ?_
        refine WR.pass rfl rfl rfl (by first | rfl | assumption | simp_all) ?_
        refine WR.pass rfl rfl rfl (by first | rfl | assumption | simp_all) ?_
        refine WR.pickF rfl (by first | rfl | assumption | simp_all) rfl rfl ?_
        refine WR.nil ?_
        refine WN.seq ?_
        refine WC.cond rfl (fun h663 => ?_) (fun h663 => ?_)
        · skip
          cases h663
        · skip
          (try simp only [decide_eq_true_eq, decide_eq_false_iff_not, beq_iff_eq, beq_eq_false_iff_ne, bne_iff_ne, bne_eq_false_iff_eq, gt_iff_lt, ge_iff_le, Int.not_lt, Int.not_le, ne_eq, Bool.not_eq_true, Bool.not_eq_false, Bool.and_eq_true, Bool.and_eq_false_iff, Bool.or_eq_true, Bool.or_eq_false_iff] at h663)
          refine WC.exit rfl ?_
          exact WN.loop 0 i (by decide) ⟨rfl, rfl, rfl, rfl, rfl, trivial⟩ ⟨by omega, hg, tb, hS, F, hF, hbi, bo, bit, B, V, raw, unp, p, r, hb, hr, hpos, hbit, fun _ => by omega⟩
    · skip
      clear hg tb hS hF hbi hb hr hpos hbit hB
      rintro i w9 ⟨hiL, hg, tb, hS, F, hF, hbi, bo, bit, B, V, raw, unp, p, r, hb, hr, hpos, hbit, hz⟩
      refine WN.seq ?_
      refine WC.seq ?_
      refine WC.seq ?_
      refine WC.mix [] mixed (by kernel_rfl) ?_
      replace hg := hg.same (Same.drew _) (by simp <;> omega)
      replace tb := tb.same (Same.drew _) (by simp <;> omega)
      replace hr := hr.same (Same.drew _) (by simp <;> omega) (by simp <;> omega)
      replace hb := hb.same (Same.drew _) (by simp <;> omega)
      replace hF := hF.same (Same.drew _) (by simp <;> omega)
      replace hS := hS.trans (Same.drew _) (by simp <;> omega)
      (try replace hM := hM.same (Same.drew _) (by simp <;> omega))
      refine WR.move rfl rfl ?_
      refine WR.nilCheckP rfl rfl ?_
      refine WR.field rfl fa53_0 rfl ?_
      refine WR.load rfl Tryz.underlying48 rfl hb.c0 rfl ?_
      refine WR.move rfl rfl ?_
      refine WR.nilCheckP rfl rfl ?_
      refine WR.field rfl fa53_2 rfl ?_
      refine WR.load rfl Tryz.underlying2 rfl hb.c2 rfl ?_
      refine WR.nilCheckI rfl rfl ?_
      refine WR.move rfl rfl ?_
      refine WR.invoke rfl rfl rfl mtRdr_Seek cf119 rfl rfl (seek rb db dO len cap p r bo hr.rd (by omega)) ?_
      rintro _ w2 ⟨rfl, hr', hs⟩
      replace hr := Src.of_two (hr.two.same hs (by simp <;> omega)) hr' hrb
      clear hr'
      replace hg := hg.same hs (by simp <;> omega)
      replace tb := tb.same hs (by simp <;> omega)
      replace hb := hb.same hs (by simp <;> omega)
      replace hF := hF.same hs (by simp <;> omega)
      replace hS := hS.trans hs (by simp <;> omega)
      (try replace hM := hM.same hs (by simp <;> omega))
      refine WR.move rfl rfl ?_
      refine WR.extract rfl rfl rfl ?_
      refine WR.extract rfl rfl rfl ?_
      refine WR.assign rfl rfl ?_
      refine WR.assign rfl rfl ?_
      refine WR.nil ?_
      refine WN.seq ?_
      refine WC.seq ?_
      refine WC.region ?_
      refine WR.move rfl rfl ?_
      refine WR.neqNil rfl rfl Tryz.underlying41 rfl ?_
      refine WR.nil ?_
      refine WN.seq ?_
      refine WC.cond rfl (fun h671 => ?_) (fun h671 => ?_)
      · skip
        cases h671
      · skip
        (try simp only [decide_eq_true_eq, decide_eq_false_iff_not, beq_iff_eq, beq_eq_false_iff_ne, bne_iff_ne, bne_eq_false_iff_eq, gt_iff_lt, ge_iff_le, Int.not_lt, Int.not_le, ne_eq, Bool.not_eq_true, Bool.not_eq_false, Bool.and_eq_true, Bool.and_eq_false_iff, Bool.or_eq_true, Bool.or_eq_false_iff] at h671)
        refine WC.skip ?_
        refine WN.seq ?_
        refine WC.seq ?_
        refine WC.cut (fun i : Nat => [(0, .pointer (some ⟨b, 0, none⟩)), (1, .slice (some ⟨g, o, none⟩) dl dc), (2, .int .i64 0), (3, .int .i64 (L : Nat)), (10, .int .i64 (i : Nat))]) (fun i w' => i ≤ L ∧ Glob w' aE aU aP ∧ Tab w' ∧ Same [g, b, rb] w w' ∧ ∃ F, Row w' g t N F ∧ Bits F o dl i (fun j => bts (num d len) (pos + j) 1 == 1) ∧ ∃ (bo bit : Nat) (B V : Int) (raw unp : Nat → Value) (p r : Int), BR w' b rb B bo bit V raw unp ∧ Src w' rb db dO len cap p r d ∧ 8 * bo + bit = pos + i ∧ bit ≤ 64) ?_ ?_
        · skip
          refine WC.block ?_
          refine WC.loop (fun i : Nat => [(0, .pointer (some ⟨b, 0, none⟩)), (1, .slice (some ⟨g, o, none⟩) dl dc), (2, .int .i64 0), (3, .int .i64 (L : Nat)), (10, .int .i64 (i : Nat))]) (fun m i w' => i + m = L ∧ Glob w' aE aU aP ∧ Tab w' ∧ Same [g, b, rb] w w' ∧ ∃ F, Row w' g t N F ∧ Bits F o dl i (fun j => bts (num d len) (pos + j) 1 == 1) ∧ ∃ (bo bit : Nat) (B V : Int) (raw unp : Nat → Value) (p r : Int), BR w' b rb B bo bit V raw unp ∧ Src w' rb db dO len cap p r d ∧ 8 * bo + bit = pos + i ∧ bit ≤ 64 ∧ (i < L → bit = 0 ∧ p = bo ∧ i % 8 = 0)) (L - i) i ⟨rfl, rfl, rfl, rfl, rfl, trivial⟩ ⟨by omega, hg, tb, hS, F, hF, hbi, bo, bit, B, V, raw, unp, _, _, hb, hr, hpos, hbit, fun h => ⟨(hz h).1, rfl, by rw [(hz h).2]⟩⟩ ?_
          clear hz
          clear hg tb hS hF hbi hb hr hpos hbit
          rintro m i w3 ⟨hm, hg, tb, hS, F, hF, hbi, bo, bit, B, V, raw, unp, p, r, hb, hr, hpos, hbit, hz⟩
          refine WC.seq ?_
          refine WC.seq ?_
          refine WC.region ?_
          refine WR.move rfl rfl ?_
          refine WR.move rfl rfl ?_
          refine WR.bin rfl rfl rfl rfl ?_
          refine WR.nil ?_
          refine WN.seq ?_
          refine WC.cond rfl (fun h678 => ?_) (fun h678 => ?_)
          · skip
            (try simp only [decide_eq_true_eq, decide_eq_false_iff_not, beq_iff_eq, beq_eq_false_iff_ne, bne_iff_ne, bne_eq_false_iff_eq, gt_iff_lt, ge_iff_le, Int.not_lt, Int.not_le, ne_eq, Bool.not_eq_true, Bool.not_eq_false, Bool.and_eq_true, Bool.and_eq_false_iff, Bool.or_eq_true, Bool.or_eq_false_iff] at h678)
            obtain ⟨rfl, rfl, h8⟩ := hz (by omega)
            refine WC.skip ?_
            refine WN.seq ?_
            refine WC.block ?_
            refine WC.seq ?_
            refine WC.region ?_
            refine WR.move rfl rfl ?_
            refine WR.move rfl rfl ?_
            (refine WR.bin rfl rfl (ar_sub (z := ((L - i : Nat) : Int)) ?_) rfl ?_; (rw [wrap_i64 (by omega) (by omega)]; omega))
            refine WR.min2 rfl rfl rfl ?_
            obtain ⟨y, hy⟩ : ∃ y, y = min 1024 (L - i) / 32 := ⟨_, rfl⟩
            rw [show (if ((L - i : Nat) : Int) < 1024 then ((L - i : Nat) : Int) else 1024) = ((min 1024 (L - i) : Nat) : Int) by split <;> omega]
            refine WR.assign rfl rfl ?_
            refine WR.nil ?_
            refine WN.seq ?_
            refine WC.seq ?_
            refine WC.region ?_
            refine WR.move rfl rfl ?_
            refine WR.bin rfl rfl (ar_quo (z := ((y : Nat) : Int)) (by decide) (by rw [tdiv_pos (by omega), wrap_i64 (by omega) (by omega)]; omega)) rfl ?_
            (refine WR.bin rfl rfl (ar_mul (z := ((32 * y : Nat) : Int)) ?_) rfl ?_; (rw [wrap_i64 (by omega) (by omega)]; omega))
            refine WR.assign rfl rfl ?_
            refine WR.nil ?_
            refine WN.seq ?_
            refine WC.seq ?_
            refine WC.seq ?_
            refine WC.region ?_
            refine WR.move rfl rfl ?_
            refine WR.bin rfl rfl rfl rfl ?_
            refine WR.nil ?_
            refine WN.seq ?_
            refine WC.cond rfl (fun h681 => ?_) (fun h681 => ?_)
            · skip
              (try simp only [decide_eq_true_eq, decide_eq_false_iff_not, beq_iff_eq, beq_eq_false_iff_ne, bne_iff_ne, bne_eq_false_iff_eq, gt_iff_lt, ge_iff_le, Int.not_lt, Int.not_le, ne_eq, Bool.not_eq_true, Bool.not_eq_false, Bool.and_eq_true, Bool.and_eq_false_iff, Bool.or_eq_true, Bool.or_eq_false_iff] at h681)
              have hy0 : y = 0 := by omega
              refine WC.exit rfl ?_
              exact WN.loop 0 i (by decide) ⟨rfl, rfl, rfl, rfl, rfl, trivial⟩ ⟨by omega, hg, tb, hS, F, hF, hbi, bo, 0, _, _, raw, unp, _, _, hb, hr, hpos, by omega⟩
            · skip
              (try simp only [decide_eq_true_eq, decide_eq_false_iff_not, beq_iff_eq, beq_eq_false_iff_ne, bne_iff_ne, bne_eq_false_iff_eq, gt_iff_lt, ge_iff_le, Int.not_lt, Int.not_le, ne_eq, Bool.not_eq_true, Bool.not_eq_false, Bool.and_eq_true, Bool.and_eq_false_iff, Bool.or_eq_true, Bool.or_eq_false_iff] at h681)
              have hl1 := hr.rd.lt
              have hl2 := hr.lt
              have hl3 := hb.lt
              have hl4 := hF.lt
              have hl5 := hS.size
              have hl6 := hg.size
              refine WC.skip ?_
              refine WN.seq ?_
              refine WC.seq ?_
              refine WC.region ?_
              refine WR.move rfl rfl ?_
              refine WR.bin rfl rfl (ar_quo (z := ((4 * y : Nat) : Int)) (by decide) (by rw [tdiv_pos (by omega), wrap_i64 (by omega) (by omega)]; omega)) rfl ?_
              refine WR.assign rfl rfl ?_
              refine WR.nil ?_
              refine WN.seq ?_
              refine WC.seq ?_
              refine WC.region ?_
              refine WR.move rfl rfl ?_
              obtain ⟨bM, hbM⟩ : ∃ x, x = w3.heap.size := ⟨_, rfl⟩
              refine WR.make (n := 4 * y) (kint rfl (by omega)) (kint rfl (by omega)) Tryz.underlying22 mk5 rfl (by decide) (by omega) rfl rfl ?_
              rw [← hbM]
              intro w4 hM hs
              replace hg := hg.same hs (by simp <;> omega)
              replace tb := tb.same hs (by simp <;> omega)
              replace hr := hr.same hs (by simp <;> omega) (by simp <;> omega)
              replace hb := hb.same hs (by simp <;> omega)
              replace hF := hF.same hs (by simp <;> omega)
              replace hS := hS.trans hs (by simp <;> omega)
              clear hs
              refine WR.assign rfl rfl ?_
              refine WR.nil ?_
              refine WN.seq ?_
              refine WC.seq ?_
              refine WC.mix [] mixed (by kernel_rfl) ?_
              replace hg := hg.same (Same.drew _) (by simp <;> omega)
              replace tb := tb.same (Same.drew _) (by simp <;> omega)
              replace hr := hr.same (Same.drew _) (by simp <;> omega) (by simp <;> omega)
              replace hb := hb.same (Same.drew _) (by simp <;> omega)
              replace hF := hF.same (Same.drew _) (by simp <;> omega)
              replace hS := hS.trans (Same.drew _) (by simp <;> omega)
              (try replace hM := hM.same (Same.drew _) (by simp <;> omega))
              refine WR.move rfl rfl ?_
              refine WR.nilCheckP rfl rfl ?_
              refine WR.field rfl fa53_0 rfl ?_
              refine WR.load rfl Tryz.underlying48 rfl hb.c0 rfl ?_
              refine WR.move rfl rfl ?_
              refine WR.move rfl rfl ?_
              refine WR.slice rfl Tryz.underlying22 sz5 ⟨_, _, rfl, by omega, by omega, show 4 * y = Int.toNat _ by omega⟩ rfl rfl ?_
              rw [show (if 4 * y = 0 then 0 else 0 + 0 * 1) = 0 by split <;> rfl, show 4 * y - 0 = 4 * y from rfl]
              refine WR.callF rfl rfl cf36 rfl rfl (readFull rb db dO len cap bM 0 (4 * y) (4 * y) 5 (4 * y) bo _ d _ hr.rd hr.two hM (by omega) (by omega) (by omega) (by omega) (by omega) (by omega) hrd) ?_
              rintro _ w5 ⟨rfl, hr', hM', hs⟩
              replace hr := Src.of_two (hr.two.same hs (by simp <;> omega)) hr' hrb
              replace hM := hM'
              clear hr' hM'
              replace hg := hg.same hs (by simp <;> omega)
              replace tb := tb.same hs (by simp <;> omega)
              replace hb := hb.same hs (by simp <;> omega)
              replace hF := hF.same hs (by simp <;> omega)
              replace hS := hS.trans hs (by simp <;> omega)
              refine WR.move rfl rfl ?_
              refine WR.extract rfl rfl rfl ?_
              refine WR.extract rfl rfl rfl ?_
              refine WR.assign rfl rfl ?_
              refine WR.assign rfl rfl ?_
              refine WR.nil ?_
              refine WN.seq ?_
              refine WC.seq ?_
              refine WC.seq ?_
              refine WC.region ?_
              refine WR.move rfl rfl ?_
              refine WR.load rfl Tryz.underlying41 rfl hg.uex rfl ?_
              refine WR.eqlNilL rfl rfl Tryz.underlying41 rfl ?_
              refine WR.move rfl rfl ?_
              refine WR.pass rfl rfl rfl (by first | rfl | assumption | simp_all) ?_
              refine WR.pass rfl rfl rfl (by first | rfl | assumption | simp_all) ?_
              refine WR.pass rfl rfl rfl (by first | rfl | assumption | simp_all) ?_
              refine WR.pickF rfl (by first | rfl | assumption | simp_all) rfl rfl ?_
              refine WR.nil ?_
              refine WN.seq ?_
              refine WC.cond rfl (fun h688 => ?_) (fun h688 => ?_)
              · skip
                cases h688
              · skip
                (try simp only [decide_eq_true_eq, decide_eq_false_iff_not, beq_iff_eq, beq_eq_false_iff_ne, bne_iff_ne, bne_eq_false_iff_eq, gt_iff_lt, ge_iff_le, Int.not_lt, Int.not_le, ne_eq, Bool.not_eq_true, Bool.not_eq_false, Bool.and_eq_true, Bool.and_eq_false_iff, Bool.or_eq_true, Bool.or_eq_false_iff] at h688)
                refine WC.skip ?_
                refine WN.seq ?_
                refine WC.seq ?_
                refine WC.region ?_
                refine WR.move rfl rfl ?_
                refine WR.bin rfl rfl (ar_quo (z := ((y : Nat) : Int)) (by decide) (by rw [tdiv_pos (by omega), wrap_i64 (by omega) (by omega)]; omega)) rfl ?_
                (refine WR.bin rfl rfl (ar_mul (z := ((4 * y : Nat) : Int)) ?_) rfl ?_; (rw [wrap_i64 (by omega) (by omega)]; omega))
                refine WR.assign rfl rfl ?_
                refine WR.nil ?_
                refine WN.seq ?_
                refine WC.seq ?_
                refine WC.seq ?_
                refine WC.region ?_
                refine WR.move rfl rfl ?_
                refine WR.bin rfl rfl rfl rfl ?_
                refine WR.nil ?_
                refine WN.seq ?_
                refine WC.cond rfl (fun h694 => ?_) (fun h694 => ?_)
                · skip
                  (try simp only [decide_eq_true_eq, decide_eq_false_iff_not, beq_iff_eq, beq_eq_false_iff_ne, bne_iff_ne, bne_eq_false_iff_eq, gt_iff_lt, ge_iff_le, Int.not_lt, Int.not_le, ne_eq, Bool.not_eq_true, Bool.not_eq_false, Bool.and_eq_true, Bool.and_eq_false_iff, Bool.or_eq_true, Bool.or_eq_false_iff] at h694)
                  refine WC.seq ?_
                  refine WC.seq ?_
                  refine WC.region ?_
                  refine WR.move rfl rfl ?_
                  refine WR.move rfl rfl ?_
                  (refine WR.bin rfl rfl (ar_add (z := ((i : Nat) : Int)) ?_) rfl ?_; (rw [wrap_i64 (by omega) (by omega)]; omega))
                  refine WR.bin rfl rfl (ar_rem (z := ((i % 8 : Nat) : Int)) (by decide) (by rw [tmod_pos (by omega)]; omega)) rfl ?_
                  refine WR.bin rfl rfl rfl rfl ?_
                  refine WR.nil ?_
                  refine WN.seq ?_
                  refine WC.cond rfl (fun h695 => ?_) (fun h695 => ?_)
                  · skip
                    (try simp only [decide_eq_true_eq, decide_eq_false_iff_not, beq_iff_eq, beq_eq_false_iff_ne, bne_iff_ne, bne_eq_false_iff_eq, gt_iff_lt, ge_iff_le, Int.not_lt, Int.not_le, ne_eq, Bool.not_eq_true, Bool.not_eq_false, Bool.and_eq_true, Bool.and_eq_false_iff, Bool.or_eq_true, Bool.or_eq_false_iff] at h695)
                    refine WC.mix [] mixed (by kernel_rfl) ?_
                    replace hg := hg.same (Same.drew _) (by simp <;> omega)
                    replace tb := tb.same (Same.drew _) (by simp <;> omega)
                    replace hr := hr.same (Same.drew _) (by simp <;> omega) (by simp <;> omega)
                    replace hb := hb.same (Same.drew _) (by simp <;> omega)
                    replace hF := hF.same (Same.drew _) (by simp <;> omega)
                    replace hS := hS.trans (Same.drew _) (by simp <;> omega)
                    (try replace hM := hM.same (Same.drew _) (by simp <;> omega))
                    refine WR.move rfl rfl ?_
                    refine WR.move rfl rfl ?_
                    refine WR.move rfl rfl ?_
                    (refine WR.bin rfl rfl (ar_add (z := ((i : Nat) : Int)) ?_) rfl ?_; (rw [wrap_i64 (by omega) (by omega)]; omega))
                    refine WR.bin rfl rfl (ar_quo (z := ((i / 8 : Nat) : Int)) (by decide) (by rw [tdiv_pos (by omega), wrap_i64 (by omega) (by omega)]; omega)) rfl ?_
                    refine WR.slice rfl Tryz.underlying22 sz5 rfl ⟨_, _, rfl, by omega, by omega, show i / 8 = Int.toNat _ by omega⟩ rfl ?_
                    refine WR.move rfl rfl ?_
                    refine WR.move rfl rfl ?_
                    refine WR.slice rfl Tryz.underlying22 sz5 ⟨_, _, rfl, by omega, by omega, show 4 * y = Int.toNat _ by omega⟩ rfl rfl ?_
                    rw [if_neg (show ¬ dc = i / 8 by omega), show o + i / 8 * 1 = o + i / 8 by omega, show (if 4 * y = 0 then 0 else 0 + 0 * 1) = 0 by split <;> rfl]
                    have hsrc : Rd _ bM 0 (4 * y) (byt fun k => d (bo + k)) := (hM.rd 0 (4 * y) (by omega)).congr (fun k hk => by
                      show ovr _ 0 _ (0 + k) = _
                      rw [ovr_at (by simpa using hk)]
                      simp [byt])
                    refine WR.copyK (k := 4 * y) rfl rfl Tryz.underlying22 sz5 (by simp [Nat.min_def]; omega) hF (by omega) hsrc (fun _ _ => rfl) rfl rfl ?_
                    intro w6 hn hs
                    replace hF := hn
                    replace hg := hg.same hs (by simp <;> omega)
                    replace tb := tb.same hs (by simp <;> omega)
                    replace hr := hr.same hs (by simp <;> omega) (by simp <;> omega)
                    replace hb := hb.same hs (by simp <;> omega)
                    replace hS := hS.trans hs (by simp <;> omega)
                    (try replace hM := hM.same hs (by simp <;> omega))
                    have hbi2 := hbi.copy (y := 4 * y) (by omega) (by omega) (by omega) hr.small (by omega)
                    clear hsrc
                    rw [show i + 8 * (4 * y) = i + 32 * y by omega] at hbi2
                    clear hn hs
                    refine WR.nil ?_
                    refine WN.seq ?_
                    refine WC.seq ?_
                    refine WC.region ?_
                    refine WR.move rfl rfl ?_
                    refine WR.move rfl rfl ?_
                    (refine WR.bin rfl rfl (ar_mul (z := ((32 * y : Nat) : Int)) ?_) rfl ?_; (rw [wrap_i64 (by omega) (by omega)]; omega))
                    (refine WR.bin rfl rfl (ar_add (z := ((i + 32 * y : Nat) : Int)) ?_) rfl ?_; (rw [wrap_i64 (by omega) (by omega)]; omega))
                    refine WR.assign rfl rfl ?_
                    refine WR.nil ?_
                    refine WN.seq ?_
                    refine WC.region ?_
                    refine WR.move rfl rfl ?_
                    refine WR.nilCheckP rfl rfl ?_
                    refine WR.field rfl fa53_2 rfl ?_
                    refine WR.load rfl Tryz.underlying2 rfl hb.c2 rfl ?_
                    refine WR.move rfl rfl ?_
                    (refine WR.bin rfl rfl (ar_add (z := ((bo + 4 * y : Nat) : Int)) ?_) rfl ?_; (rw [wrap_i64 (by omega) (by omega)]; omega))
                    refine WR.nilCheckP rfl rfl ?_
                    refine WR.field rfl fa53_2 rfl ?_
                    refine WR.storeK rfl rfl rfl sz2 hb.c2 (hb.fz 2) ?_
                    intro w7 hn hs
                    replace hb := hb.s2 hn
                    replace hg := hg.same hs (by simp <;> omega)
                    replace tb := tb.same hs (by simp <;> omega)
                    replace hr := hr.same hs (by simp <;> omega) (by simp <;> omega)
                    replace hF := hF.same hs (by simp <;> omega)
                    replace hS := hS.trans hs (by simp <;> omega)
                    (try replace hM := hM.same hs (by simp <;> omega))
                    clear hn hs
                    refine WR.nil ?_
                    refine WN.seq ?_
                    refine WC.seq ?_
                    refine WC.region ?_
                    refine WR.move rfl rfl ?_
                    refine WR.neqNil rfl rfl Tryz.underlying41 rfl ?_
                    refine WR.nil ?_
                    refine WN.seq ?_
                    refine WC.cond rfl (fun h703 => ?_) (fun h703 => ?_)
                    · skip
                      cases h703
                    · skip
                      (try simp only [decide_eq_true_eq, decide_eq_false_iff_not, beq_iff_eq, beq_eq_false_iff_ne, bne_iff_ne, bne_eq_false_iff_eq, gt_iff_lt, ge_iff_le, Int.not_lt, Int.not_le, ne_eq, Bool.not_eq_true, Bool.not_eq_false, Bool.and_eq_true, Bool.and_eq_false_iff, Bool.or_eq_true, Bool.or_eq_false_iff] at h703)
                      refine WC.skip ?_
                      refine WN.block ?_
                      exact WN.loop (L - (i + 32 * y)) (i + 32 * y) (by omega) ⟨rfl, rfl, rfl, rfl, kint rfl (by omega), trivial⟩ ⟨by omega, hg, tb, hS, _, hF, hbi2, bo + 4 * y, 0, _, _, raw, unp, _, _, hb, hr, by omega, by omega, fun _ => ⟨rfl, rfl, by omega⟩⟩
                  · skip
                    (try simp only [decide_eq_true_eq, decide_eq_false_iff_not, beq_iff_eq, beq_eq_false_iff_ne, bne_iff_ne, bne_eq_false_iff_eq, gt_iff_lt, ge_iff_le, Int.not_lt, Int.not_le, ne_eq, Bool.not_eq_true, Bool.not_eq_false, Bool.and_eq_true, Bool.and_eq_false_iff, Bool.or_eq_true, Bool.or_eq_false_iff] at h695)
                    omega
                · skip
                  (try simp only [decide_eq_true_eq, decide_eq_false_iff_not, beq_iff_eq, beq_eq_false_iff_ne, bne_iff_ne, bne_eq_false_iff_eq, gt_iff_lt, ge_iff_le, Int.not_lt, Int.not_le, ne_eq, Bool.not_eq_true, Bool.not_eq_false, Bool.and_eq_true, Bool.and_eq_false_iff, Bool.or_eq_true, Bool.or_eq_false_iff] at h694)
                  omega
          · skip
            (try simp only [decide_eq_true_eq, decide_eq_false_iff_not, beq_iff_eq, beq_eq_false_iff_ne, bne_iff_ne, bne_eq_false_iff_eq, gt_iff_lt, ge_iff_le, Int.not_lt, Int.not_le, ne_eq, Bool.not_eq_true, Bool.not_eq_false, Bool.and_eq_true, Bool.and_eq_false_iff, Bool.or_eq_true, Bool.or_eq_false_iff] at h678)
            refine WC.exit rfl ?_
            exact WN.loop 0 i (by decide) ⟨rfl, rfl, rfl, rfl, rfl, trivial⟩ ⟨by omega, hg, tb, hS, F, hF, hbi, bo, bit, B, V, raw, unp, p, r, hb, hr, hpos, hbit⟩
        · skip
          clear hg tb hS hF hbi hb hr hpos hbit hz
          rintro i w8 ⟨hiL, hg, tb, hS, F, hF, hbi, bo, bit, B, V, raw, unp, p, r, hb, hr, hpos, hbit⟩
          refine WN.seq ?_
          refine WC.seq ?_
          refine WC.seq ?_
          refine WC.region ?_
          refine WR.move rfl rfl ?_
          refine WR.callF rfl rfl cf18 rfl rfl (fillbuffer hg b rb db dO len cap _ _ _ _ p r d _ _ hb hr (by omega) (by omega) hgb hne hnd) ?_
          rintro _ w4 ⟨rfl, ⟨raw2, hb'⟩, hs⟩
          replace hb := hb'
          clear hb'
          simp only [Int.toNat_natCast] at hb
          replace hg := hg.same hs (by simp <;> omega)
          replace tb := tb.same hs (by simp <;> omega)
          replace hr := hr.same hs (by simp <;> omega) (by simp <;> omega)
          replace hF := hF.same hs (by simp <;> omega)
          replace hS := hS.trans hs (by simp <;> omega)
          (try replace hM := hM.same hs (by simp <;> omega))
          refine WR.assign rfl rfl ?_
          refine WR.nil ?_
          refine WN.seq ?_
          refine WC.seq ?_
          refine WC.region ?_
          refine WR.move rfl rfl ?_
          refine WR.neqNil rfl rfl Tryz.underlying41 rfl ?_
          refine WR.nil ?_
          refine WN.seq ?_
          refine WC.cond rfl (fun h708 => ?_) (fun h708 => ?_)
          · skip
            cases h708
          · skip
            (try simp only [decide_eq_true_eq, decide_eq_false_iff_not, beq_iff_eq, beq_eq_false_iff_ne, bne_iff_ne, bne_eq_false_iff_eq, gt_iff_lt, ge_iff_le, Int.not_lt, Int.not_le, ne_eq, Bool.not_eq_true, Bool.not_eq_false, Bool.and_eq_true, Bool.and_eq_false_iff, Bool.or_eq_true, Bool.or_eq_false_iff] at h708)
            refine WC.skip ?_
            refine WN.seq ?_
            refine WC.seq ?_
            refine WC.block ?_
            refine WC.loop (fun i : Nat => [(0, .pointer (some ⟨b, 0, none⟩)), (1, .slice (some ⟨g, o, none⟩) dl dc), (2, .int .i64 0), (3, .int .i64 (L : Nat)), (10, .int .i64 (i : Nat))]) (fun m i w' => i + m = L ∧ Glob w' aE aU aP ∧ Tab w' ∧ Same [g, b, rb] w w' ∧ ∃ F, Row w' g t N F ∧ Bits F o dl i (fun j => bts (num d len) (pos + j) 1 == 1) ∧ ∃ (bo bit : Nat) (raw unp : Nat → Value) (p r : Int), BR w' b rb (bts (num d len) (8 * bo) 64 : Nat) bo bit (8 * min (len - bo) 8 : Nat) raw unp ∧ Src w' rb db dO len cap p r d ∧ 8 * bo + bit = pos + i ∧ bit ≤ 64) (L - i) i ⟨rfl, rfl, rfl, rfl, rfl, trivial⟩ ⟨by omega, hg, tb, hS, F, hF, hbi, bo, bit, raw2, unp, p, r, hb, hr, hpos, hbit⟩ ?_
            clear hg tb hS hF hbi hb hr hpos hbit
            rintro m i w5 ⟨hm, hg, tb, hS, F, hF, hbi, bo, bit, raw, unp, p, r, hb, hr, hpos, hbit⟩
            refine WC.seq ?_
            refine WC.seq ?_
            refine WC.region ?_
            refine WR.move rfl rfl ?_
            refine WR.move rfl rfl ?_
            refine WR.bin rfl rfl rfl rfl ?_
            refine WR.nil ?_
            refine WN.seq ?_
            refine WC.cond rfl (fun h711 => ?_) (fun h711 => ?_)
            · skip
              (try simp only [decide_eq_true_eq, decide_eq_false_iff_not, beq_iff_eq, beq_eq_false_iff_ne, bne_iff_ne, bne_eq_false_iff_eq, gt_iff_lt, ge_iff_le, Int.not_lt, Int.not_le, ne_eq, Bool.not_eq_true, Bool.not_eq_false, Bool.and_eq_true, Bool.and_eq_false_iff, Bool.or_eq_true, Bool.or_eq_false_iff] at h711)
              refine WC.skip ?_
              refine WN.seq ?_
              refine WC.seq ?_
              refine WC.block ?_
              refine WC.seq ?_
              refine WC.region ?_
              refine WR.move rfl rfl ?_
              obtain ⟨c, hc, hcb⟩ := hbi
              refine WR.callF rfl rfl cf16 rfl rfl (next_ hg b rb db dO len cap bo bit 1 p r d raw unp hb hr (by omega) (by decide) (by decide) (by omega) hgb hne hnd) ?_
              rintro _ w6 ⟨rfl, ⟨bo2, bit2, raw2, hb', hpos2, hbit1, hbit2⟩, hs⟩
              replace hb := hb'
              clear hb'
              replace hg := hg.same hs (by simp <;> omega)
              replace tb := tb.same hs (by simp <;> omega)
              replace hr := hr.same hs (by simp <;> omega) (by simp <;> omega)
              replace hF := hF.same hs (by simp <;> omega)
              replace hS := hS.trans hs (by simp <;> omega)
              (try replace hM := hM.same hs (by simp <;> omega))
              refine WR.move rfl rfl ?_
              refine WR.extract rfl rfl rfl ?_
              refine WR.extract rfl rfl rfl ?_
              refine WR.assign rfl rfl ?_
              refine WR.assign rfl rfl ?_
              refine WR.nil ?_
              refine WN.seq ?_
              refine WC.seq ?_
              refine WC.seq ?_
              refine WC.region ?_
              refine WR.move rfl rfl ?_
              refine WR.neqNil rfl rfl Tryz.underlying41 rfl ?_
              refine WR.nil ?_
              refine WN.seq ?_
              refine WC.cond rfl (fun h713 => ?_) (fun h713 => ?_)
              · skip
                cases h713
              · skip
                (try simp only [decide_eq_true_eq, decide_eq_false_iff_not, beq_iff_eq, beq_eq_false_iff_ne, bne_iff_ne, bne_eq_false_iff_eq, gt_iff_lt, ge_iff_le, Int.not_lt, Int.not_le, ne_eq, Bool.not_eq_true, Bool.not_eq_false, Bool.and_eq_true, Bool.and_eq_false_iff, Bool.or_eq_true, Bool.or_eq_false_iff] at h713)
                refine WC.skip ?_
                refine WN.seq ?_
                refine WC.region ?_
                refine WR.move rfl rfl ?_
                refine WR.move rfl rfl ?_
                refine WR.move rfl rfl ?_
                (refine WR.bin rfl rfl (ar_add (z := ((i : Nat) : Int)) ?_) rfl ?_; (rw [wrap_i64 (by omega) (by omega)]; omega))
                refine WR.move rfl rfl ?_
                refine WR.bin rfl rfl rfl rfl ?_
                refine WR.callF rfl rfl cf35 rfl rfl (setBitTo tb g o dl dc t N i (c (i / 8)) F hF (hc _ (by omega)).1 (hc _ (by omega)).2 (by omega) (by omega) (by omega) hgg _) ?_
                rintro _ w7 ⟨rfl, ⟨x', hx1', hx2', hF'⟩, hs⟩
                replace hF := hF'
                have hbi : Bits (upd F (o + i / 8) (.int .u8 (x' : Nat))) o dl (i + 1) (fun j => bts (num d len) (pos + j) 1 == 1) := Bits.step hc hcb (by omega) hx1' (fun j hj => by
                  rw [hx2' j hj, ← hpos]
                  by_cases h : i % 8 = j
                  · rw [if_pos h, if_pos h]
                    exact bne_bts _ _
                  · rw [if_neg h, if_neg h])
                clear hc hcb hx1' hx2' hF'
                replace hg := hg.same hs (by simp <;> omega)
                replace tb := tb.same hs (by simp <;> omega)
                replace hr := hr.same hs (by simp <;> omega) (by simp <;> omega)
                replace hb := hb.same hs (by simp <;> omega)
                replace hS := hS.trans hs (by simp <;> omega)
                (try replace hM := hM.same hs (by simp <;> omega))
                refine WR.nil ?_
                refine WN.block ?_
                refine WN.seq ?_
                refine WC.region ?_
                refine WR.move rfl rfl ?_
                first
                  | (refine WR.bin rfl rfl (ar_add (wrap_i64 ?_ ?_)) rfl ?_; (omega); (omega))
                  | refine WR.bin rfl rfl (ar_add rfl) rfl ?_
                refine WR.assign rfl rfl ?_
                refine WR.nil ?_
                exact WN.loop (m - 1) (i + 1) (by omega) ⟨rfl, rfl, rfl, rfl, kint rfl (by omega), trivial⟩ ⟨by omega, hg, tb, hS, _, hF, hbi, bo2, bit2, raw2, unp, p, r, hb, hr, by omega, by omega⟩
            · skip
              (try simp only [decide_eq_true_eq, decide_eq_false_iff_not, beq_iff_eq, beq_eq_false_iff_ne, bne_iff_ne, bne_eq_false_iff_eq, gt_iff_lt, ge_iff_le, Int.not_lt, Int.not_le, ne_eq, Bool.not_eq_true, Bool.not_eq_false, Bool.and_eq_true, Bool.and_eq_false_iff, Bool.or_eq_true, Bool.or_eq_false_iff] at h711)
              obtain rfl : i = L := by omega
              refine WC.exit rfl ?_
              refine WN.seq ?_
              refine WC.seq ?_
              refine WC.region ?_
              refine WR.move rfl rfl ?_
              refine WR.assign rfl rfl ?_
              refine WR.assign rfl rfl ?_
              refine WR.nil ?_
              refine WN.seq ?_
              refine WC.retR rfl rfl ?_
              exact ⟨rfl, ⟨bo, bit, _, _, raw, unp, p, r, hb, hr, hpos, hbit, fun _ => ⟨rfl, rfl⟩⟩, ⟨F, hF, hbi⟩, hS⟩

end Go.Proofs.YtajgdpiodpoooaaGreatDoor.Vm
