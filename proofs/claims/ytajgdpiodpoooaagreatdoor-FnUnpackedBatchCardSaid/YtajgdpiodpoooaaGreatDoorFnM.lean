/- GetBatchBools. -/
import Derived.Test.YtajgdpiodpoooaaGreatDoorFnL
namespace Go.Proofs.YtajgdpiodpoooaaGreatDoor.Vm
open Go Mix Go.RowKit Num
set_option maxRecDepth 20000
set_option linter.unusedSimpArgs false
theorem bit_byte {d : Nat → Nat} {len o j : Nat} (h : ∀ i, i < len → d i < 256) (hj : o + j / 8 < len) : d (o + j / 8) / 2 ^ (j % 8) % 2 = bts (num d len) (8 * o + j) 1 := by
  have h1 : num (fun i => d (o + j / 8 + i)) 1 = bts (num d len) (8 * (o + j / 8)) (8 * 1) := num_bts h (by omega)
  have h2 : num (fun i => d (o + j / 8 + i)) 1 = d (o + j / 8) := by rw [num_succ]; simp [num]
  rw [h2] at h1
  have h3 : bts (bts (num d len) (8 * (o + j / 8)) (8 * 1)) (j % 8) 1 = bts (num d len) (8 * (o + j / 8) + j % 8) 1 := bts_bts (by omega)
  rw [← h1, show 8 * (o + j / 8) + j % 8 = 8 * o + j by omega] at h3
  rw [← h3]
  simp [bts]
theorem Put.add {F F2 f : Nat → Value} {o L i k : Nat} {h h2 : Nat → Value} (h1 : Put F f o L i h) (hp : Put F2 F (o + i) k k h2) (hk : i + k ≤ L) (he : ∀ j, j < k → h2 j = h (i + j)) : Put F2 f o L (i + k) h := by
  refine ⟨fun j hj => ?_, fun x hx => ?_⟩
  · by_cases hji : j < i
    · rw [hp.2 _ (by omega)]
      exact h1.1 j hji
    · have h3 := hp.1 (j - i) (by omega)
      rw [show o + i + (j - i) = o + j by omega] at h3
      rw [h3, he _ (by omega), show i + (j - i) = j by omega]
  · rw [hp.2 _ (by omega), h1.2 _ (by omega)]
theorem cf17 (us : Array Value) (w : World) : (callFunc 17 us).run Tryz.prog w = .ok (.enter 17 us) w := by kernel_rfl
theorem cf32 (us : Array Value) (w : World) : (callFunc 32 us).run Tryz.prog w = .ok (.enter 32 us) w := by kernel_rfl
theorem cf33 (us : Array Value) (w : World) : (callFunc 33 us).run Tryz.prog w = .ok (.enter 33 us) w := by kernel_rfl
theorem cf34 (us : Array Value) (w : World) : (callFunc 34 us).run Tryz.prog w = .ok (.enter 34 us) w := by kernel_rfl
theorem mk5 : (Tryz.prog.info? 5).map (fun i => (i.size, i.bytes, i.zero)) = some (1, 1, some (.int .u8 0)) := by kernel_rfl
set_option maxHeartbeats 1000000 in
theorem getBools {w : World} {aE aU aP : Addr} (hg : Glob w aE aU aP) (b rb db dO len cap L g o dc t N pos : Nat) (d : Nat → Nat) (f : Nat → Value) (ha : At w b rb db dO len cap d pos) (hF : Row w g t N f) (hoL : o + L ≤ N) (hLc : L ≤ dc) (hL : L ≤ 1099511627776) (hfit : pos + L ≤ 8 * len) (hgb : 7 ≤ b) (hrb : 7 ≤ rb) (hgg : 7 ≤ g) (hne : b ≠ rb) (hnd : b ≠ db) (hrd : rb ≠ db) (hx1 : g ≠ b) (hx2 : g ≠ rb) (hx3 : g ≠ db) :
    Ret Tryz.prog 21 #[.pointer (some ⟨b, 0, none⟩), .slice (some ⟨g, o, none⟩) L dc] w fun v w' => v = .tuple #[.int .i64 (L : Nat), .nilIface] ∧ At w' b rb db dO len cap d (pos + L) ∧ (∃ F, Row w' g t N F ∧ Put F f o L L (fun j => Value.bool (bts (num d len) (pos + j) 1 == 1))) ∧ Same [g, b, rb] w w' := by
  have hS := Same.refl [g, b, rb] w
  obtain ⟨bo, bit, B, V, raw, unp, p, r, hb, hr, hpos, hbit, hB⟩ := ha
  have hlen := hr.len_
  have hput := Put.zero f o L (fun j => Value.bool (bts (num d len) (pos + j) 1 == 1))
  refine Ret.enter (vs := [.pointer (some ⟨b, 0, none⟩), .slice (some ⟨g, o, none⟩) L dc]) Tryz.func21 Tryz.ntmps21 rfl rfl ?_
  refine WC.seq ?_
  refine WC.region ?_
  refine WR.assign rfl rfl ?_
  refine WR.assign rfl rfl ?_
  refine WR.nil ?_
  refine WN.seq ?_
  refine WC.seq ?_
  refine WC.region ?_
  refine WR.move rfl rfl ?_
  refine WR.lenS rfl Tryz.underlying66 rfl ?_
  refine WR.assign rfl rfl ?_
  refine WR.nil ?_
  refine WN.seq ?_
  refine WC.seq ?_
  refine WC.region ?_
  refine WR.assign rfl rfl ?_
  refine WR.nil ?_
  refine WN.seq ?_
  refine WC.seq ?_
  refine WC.cut (fun i : Nat => [(0, .pointer (some ⟨b, 0, none⟩)), (1, .slice (some ⟨g, o, none⟩) L dc), (6, .int .i64 (L : Nat)), (7, .int .i64 (i : Nat))]) (fun i w' => i ≤ L ∧ Glob w' aE aU aP ∧ Same [g, b, rb] w w' ∧ ∃ F, Row w' g t N F ∧ Put F f o L i (fun j => Value.bool (bts (num d len) (pos + j) 1 == 1)) ∧ ∃ (bo bit : Nat) (B V : Int) (raw unp : Nat → Value) (p r : Int), BR w' b rb B bo bit V raw unp ∧ Src w' rb db dO len cap p r d ∧ 8 * bo + bit = pos + i ∧ bit ≤ 64 ∧ (i < L → bit = 0)) ?_ ?_
  · skip
    refine WC.block ?_
    refine WC.loop (fun i : Nat => [(0, .pointer (some ⟨b, 0, none⟩)), (1, .slice (some ⟨g, o, none⟩) L dc), (6, .int .i64 (L : Nat)), (7, .int .i64 (i : Nat))]) (fun m i w' => i + m = L ∧ Glob w' aE aU aP ∧ Same [g, b, rb] w w' ∧ ∃ F, Row w' g t N F ∧ Put F f o L i (fun j => Value.bool (bts (num d len) (pos + j) 1 == 1)) ∧ ∃ (bo bit : Nat) (B V : Int) (raw unp : Nat → Value) (p r : Int), BR w' b rb B bo bit V raw unp ∧ Src w' rb db dO len cap p r d ∧ 8 * bo + bit = pos + i ∧ bit ≤ 64 ∧ (bit ≠ 0 → B = (bts (num d len) (8 * bo) 64 : Nat) ∧ V = (8 * min (len - bo) 8 : Nat))) L 0 ⟨rfl, rfl, rfl, rfl, trivial⟩ ⟨by omega, hg, hS, f, hF, hput, bo, bit, B, V, raw, unp, p, r, hb, hr, by omega, hbit, hB⟩ ?_
    clear hg hS hF hput hb hr hpos hbit hB
    rintro m i w1 ⟨hm, hg, hS, F, hF, hput, bo, bit, B, V, raw, unp, p, r, hb, hr, hpos, hbit, hB⟩
    rcases Nat.lt_or_ge i L with hi | hi
    · skip
      refine WC.seq ?_
      refine WC.seq ?_
      refine WC.region ?_
      refine WR.move rfl rfl ?_
      refine WR.move rfl rfl ?_
      refine WR.bin rfl rfl rfl rfl ?_
      refine WR.move rfl rfl ?_
      refine WR.take rfl rfl (by first | rfl | assumption | simp_all) ?_
      refine WR.move rfl rfl ?_
      refine WR.take rfl rfl (by first | rfl | assumption | simp_all) ?_
      refine WR.nilCheckP rfl rfl ?_
      refine WR.take rfl rfl (by first | rfl | assumption | simp_all) ?_
      refine WR.field rfl fa53_3 rfl ?_
      refine WR.take rfl rfl (by first | rfl | assumption | simp_all) ?_
      refine WR.load rfl Tryz.underlying44 rfl hb.c3 rfl ?_
      refine WR.take rfl rfl (by first | rfl | assumption | simp_all) ?_
      refine WR.bin rfl rfl rfl rfl ?_
      refine WR.pickT rfl (by first | rfl | assumption | simp_all) rfl rfl ?_
      refine WR.nil ?_
      refine WN.seq ?_
      refine WC.cond rfl (fun h398 => ?_) (fun h398 => ?_)
      · skip
        (try simp only [decide_eq_true_eq, decide_eq_false_iff_not, beq_iff_eq, beq_eq_false_iff_ne, bne_iff_ne, bne_eq_false_iff_eq, gt_iff_lt, ge_iff_le, Int.not_lt, Int.not_le, ne_eq, Bool.not_eq_true, Bool.not_eq_false, Bool.and_eq_true, Bool.and_eq_false_iff, Bool.or_eq_true, Bool.or_eq_false_iff] at h398)
        have hbt : bit ≠ 0 := by omega
        obtain ⟨rfl, rfl⟩ := hB hbt
        refine WC.skip ?_
        refine WN.seq ?_
        refine WC.seq ?_
        refine WC.block ?_
        refine WC.seq ?_
        refine WC.cut (fun _ : Unit => [(0, .pointer (some ⟨b, 0, none⟩)), (1, .slice (some ⟨g, o, none⟩) L dc), (6, .int .i64 (L : Nat)), (7, .int .i64 (i : Nat))]) (fun _ w' => Glob w' aE aU aP ∧ Same [g, b, rb] w w' ∧ Row w' g t N F ∧ BR w' b rb (bts (num d len) (8 * bo) 64 : Nat) bo bit (8 * min (len - bo) 8 : Nat) raw unp ∧ Src w' rb db dO len cap p r d) ?_ ?_
        · skip
          rcases Nat.eq_zero_or_pos i with hi0 | hi0
          · skip
            subst hi0
            refine WC.seq ?_
            refine WC.region ?_
            refine WR.move rfl rfl ?_
            refine WR.bin rfl rfl rfl rfl ?_
            refine WR.move rfl rfl ?_
            refine WR.pass rfl rfl rfl (by first | rfl | assumption | simp_all) ?_
            refine WR.pass rfl rfl rfl (by first | rfl | assumption | simp_all) ?_
            refine WR.pass rfl rfl rfl (by first | rfl | assumption | simp_all) ?_
            refine WR.pass rfl rfl rfl (by first | rfl | assumption | simp_all) ?_
            refine WR.pass rfl rfl rfl (by first | rfl | assumption | simp_all) ?_
            refine WR.pass rfl rfl rfl (by first | rfl | assumption | simp_all) ?_
            refine WR.pickT rfl (by first | rfl | assumption | simp_all) rfl rfl ?_
            refine WR.nil ?_
            refine WN.seq ?_
            refine WC.cond rfl (fun h399 => ?_) (fun h399 => ?_)
            · skip
              (try simp only [decide_eq_true_eq, decide_eq_false_iff_not, beq_iff_eq, beq_eq_false_iff_ne, bne_iff_ne, bne_eq_false_iff_eq, gt_iff_lt, ge_iff_le, Int.not_lt, Int.not_le, ne_eq, Bool.not_eq_true, Bool.not_eq_false, Bool.and_eq_true, Bool.and_eq_false_iff, Bool.or_eq_true, Bool.or_eq_false_iff] at h399)
              refine WC.seq ?_
              refine WC.region ?_
              refine WR.move rfl rfl ?_
              refine WR.callF rfl rfl cf32 rfl rfl (ensure hg b rb db dO len cap bo bit _ _ p r d raw unp hb hr (by omega) (by omega)) ?_
              rintro _ w2 ⟨rfl, hs⟩
              replace hg := hg.same hs (by simp <;> omega)
              replace hr := hr.same hs (by simp <;> omega) (by simp <;> omega)
              replace hb := hb.same hs (by simp <;> omega)
              replace hF := hF.same hs (by simp <;> omega)
              replace hS := hS.trans hs (by simp <;> omega)
              (try replace hM := hM.same hs (by simp <;> omega))
              refine WR.assign rfl rfl ?_
              refine WR.nil ?_
              refine WN.seq ?_
              refine WC.seq ?_
              refine WC.region ?_
              refine WR.move rfl rfl ?_
              refine WR.neqNil rfl rfl Tryz.underlying41 rfl ?_
              refine WR.nil ?_
              refine WN.seq ?_
              refine WC.cond rfl (fun h400 => ?_) (fun h400 => ?_)
              · skip
                cases h400
              · skip
                (try simp only [decide_eq_true_eq, decide_eq_false_iff_not, beq_iff_eq, beq_eq_false_iff_ne, bne_iff_ne, bne_eq_false_iff_eq, gt_iff_lt, ge_iff_le, Int.not_lt, Int.not_le, ne_eq, Bool.not_eq_true, Bool.not_eq_false, Bool.and_eq_true, Bool.and_eq_false_iff, Bool.or_eq_true, Bool.or_eq_false_iff] at h400)
                refine WC.skip ?_
                exact WN.loop 0 () (by decide) ⟨rfl, rfl, rfl, rfl, trivial⟩ ⟨hg, hS, hF, hb, hr⟩
            · skip
              cases h399
          · skip
            have hi2 : (((i : Nat) : Int) == 0) = false := by simp; omega
            refine WC.seq ?_
            refine WC.region ?_
            refine WR.move rfl rfl ?_
            refine WR.bin rfl rfl rfl rfl ?_
            refine WR.move rfl rfl ?_
            refine WR.take rfl rfl (by first | rfl | assumption | simp_all) ?_
            refine WR.move rfl rfl ?_
            refine WR.take rfl rfl (by first | rfl | assumption | simp_all) ?_
            refine WR.nilCheckP rfl rfl ?_
            refine WR.take rfl rfl (by first | rfl | assumption | simp_all) ?_
            refine WR.field rfl fa53_3 rfl ?_
            refine WR.take rfl rfl (by first | rfl | assumption | simp_all) ?_
            refine WR.load rfl Tryz.underlying44 rfl hb.c3 rfl ?_
            refine WR.take rfl rfl (by first | rfl | assumption | simp_all) ?_
            first
              | (refine WR.bin rfl rfl (ar_rem ?_ (tmod_pos ?_)) rfl ?_; (omega); (omega))
              | (refine WR.bin rfl rfl (ar_rem ?_ rfl) rfl ?_; (omega))
            refine WR.take rfl rfl (by first | rfl | assumption | simp_all) ?_
            refine WR.bin rfl rfl rfl rfl ?_
            refine WR.pickF rfl (by first | rfl | assumption | simp_all) rfl rfl ?_
            refine WR.nil ?_
            refine WN.seq ?_
            refine WC.cond rfl (fun h399 => ?_) (fun h399 => ?_)
            · skip
              (try simp only [decide_eq_true_eq, decide_eq_false_iff_not, beq_iff_eq, beq_eq_false_iff_ne, bne_iff_ne, bne_eq_false_iff_eq, gt_iff_lt, ge_iff_le, Int.not_lt, Int.not_le, ne_eq, Bool.not_eq_true, Bool.not_eq_false, Bool.and_eq_true, Bool.and_eq_false_iff, Bool.or_eq_true, Bool.or_eq_false_iff] at h399)
              refine WC.seq ?_
              refine WC.region ?_
              refine WR.move rfl rfl ?_
              refine WR.callF rfl rfl cf32 rfl rfl (ensure hg b rb db dO len cap bo bit _ _ p r d raw unp hb hr (by omega) (by omega)) ?_
              rintro _ w2 ⟨rfl, hs⟩
              replace hg := hg.same hs (by simp <;> omega)
              replace hr := hr.same hs (by simp <;> omega) (by simp <;> omega)
              replace hb := hb.same hs (by simp <;> omega)
              replace hF := hF.same hs (by simp <;> omega)
              replace hS := hS.trans hs (by simp <;> omega)
              (try replace hM := hM.same hs (by simp <;> omega))
              refine WR.assign rfl rfl ?_
              refine WR.nil ?_
              refine WN.seq ?_
              refine WC.seq ?_
              refine WC.region ?_
              refine WR.move rfl rfl ?_
              refine WR.neqNil rfl rfl Tryz.underlying41 rfl ?_
              refine WR.nil ?_
              refine WN.seq ?_
              refine WC.cond rfl (fun h400 => ?_) (fun h400 => ?_)
              · skip
                cases h400
              · skip
                (try simp only [decide_eq_true_eq, decide_eq_false_iff_not, beq_iff_eq, beq_eq_false_iff_ne, bne_iff_ne, bne_eq_false_iff_eq, gt_iff_lt, ge_iff_le, Int.not_lt, Int.not_le, ne_eq, Bool.not_eq_true, Bool.not_eq_false, Bool.and_eq_true, Bool.and_eq_false_iff, Bool.or_eq_true, Bool.or_eq_false_iff] at h400)
                refine WC.skip ?_
                exact WN.loop 0 () (by decide) ⟨rfl, rfl, rfl, rfl, trivial⟩ ⟨hg, hS, hF, hb, hr⟩
            · skip
              (try simp only [decide_eq_true_eq, decide_eq_false_iff_not, beq_iff_eq, beq_eq_false_iff_ne, bne_iff_ne, bne_eq_false_iff_eq, gt_iff_lt, ge_iff_le, Int.not_lt, Int.not_le, ne_eq, Bool.not_eq_true, Bool.not_eq_false, Bool.and_eq_true, Bool.and_eq_false_iff, Bool.or_eq_true, Bool.or_eq_false_iff] at h399)
              refine WC.skip ?_
              exact WN.loop 0 () (by decide) ⟨rfl, rfl, rfl, rfl, trivial⟩ ⟨hg, hS, hF, hb, hr⟩
        · skip
          clear hg hS hF hb hr
          rintro _ w9 ⟨hg, hS, hF, hb, hr⟩
          refine WN.seq ?_
          refine WC.seq ?_
          refine WC.region ?_
          refine WR.move rfl rfl ?_
          refine WR.callF rfl rfl cf33 rfl rfl (nextBool hg b rb db dO len cap bo bit p r d raw unp hb hr (by omega) (by omega) hgb hne hnd) ?_
          rintro _ w2 ⟨rfl, ⟨bo2, bit2, raw2, hb', hpos2, hbit1, hbit2⟩, hs⟩
          replace hb := hb'
          clear hb'
          replace hg := hg.same hs (by simp <;> omega)
          replace hr := hr.same hs (by simp <;> omega) (by simp <;> omega)
          replace hF := hF.same hs (by simp <;> omega)
          replace hS := hS.trans hs (by simp <;> omega)
          (try replace hM := hM.same hs (by simp <;> omega))
          refine WR.move rfl rfl ?_
          refine WR.extract rfl rfl rfl ?_
          refine WR.extract rfl rfl rfl ?_
          refine WR.assign rfl rfl ?_
          refine WR.assign rfl rfl ?_
          refine WR.nil ?_
          refine WN.seq ?_
          refine WC.seq ?_
          refine WC.region ?_
          refine WR.move rfl rfl ?_
          refine WR.move rfl rfl ?_
          refine WR.move rfl rfl ?_
          refine WR.idxK (i) rfl rfl Tryz.underlying66 sz4 (by omega) (by omega) rfl ?_
          refine WR.storeK rfl rfl rfl sz4 (hF.cell (by omega)) (hF.fz _) ?_
          intro w3 hn hs
          replace hF := hF.set' hn
          replace hg := hg.same hs (by simp <;> omega)
          replace hr := hr.same hs (by simp <;> omega) (by simp <;> omega)
          replace hb := hb.same hs (by simp <;> omega)
          replace hS := hS.trans hs (by simp <;> omega)
          (try replace hM := hM.same hs (by simp <;> omega))
          clear hn hs
          refine WR.nil ?_
          refine WN.seq ?_
          refine WC.seq ?_
          refine WC.region ?_
          refine WR.move rfl rfl ?_
          refine WR.neqNil rfl rfl Tryz.underlying41 rfl ?_
          refine WR.nil ?_
          refine WN.seq ?_
          refine WC.cond rfl (fun h406 => ?_) (fun h406 => ?_)
          · skip
            cases h406
          · skip
            (try simp only [decide_eq_true_eq, decide_eq_false_iff_not, beq_iff_eq, beq_eq_false_iff_ne, bne_iff_ne, bne_eq_false_iff_eq, gt_iff_lt, ge_iff_le, Int.not_lt, Int.not_le, ne_eq, Bool.not_eq_true, Bool.not_eq_false, Bool.and_eq_true, Bool.and_eq_false_iff, Bool.or_eq_true, Bool.or_eq_false_iff] at h406)
            refine WC.skip ?_
            refine WN.block ?_
            refine WN.seq ?_
            refine WC.region ?_
            refine WR.move rfl rfl ?_
            first
              | (refine WR.bin rfl rfl (ar_add (wrap_i64 ?_ ?_)) rfl ?_; (omega); (omega))
              | refine WR.bin rfl rfl (ar_add rfl) rfl ?_
            refine WR.assign rfl rfl ?_
            refine WR.nil ?_
            exact WN.loop (m - 1) (i + 1) (by omega) ⟨rfl, rfl, rfl, kint rfl (by omega), trivial⟩ ⟨by omega, hg, hS, _, hF, hput.step hi (by rw [hpos]; try rfl), bo2, bit2, _, _, raw2, unp, p, r, hb, hr, by omega, by omega, fun _ => ⟨rfl, rfl⟩⟩
      · skip
        (try simp only [decide_eq_true_eq, decide_eq_false_iff_not, beq_iff_eq, beq_eq_false_iff_ne, bne_iff_ne, bne_eq_false_iff_eq, gt_iff_lt, ge_iff_le, Int.not_lt, Int.not_le, ne_eq, Bool.not_eq_true, Bool.not_eq_false, Bool.and_eq_true, Bool.and_eq_false_iff, Bool.or_eq_true, Bool.or_eq_false_iff] at h398)
        refine WC.exit rfl ?_
        exact WN.loop 0 i (by decide) ⟨rfl, rfl, rfl, rfl, trivial⟩ ⟨by omega, hg, hS, F, hF, hput, bo, bit, B, V, raw, unp, p, r, hb, hr, hpos, hbit, fun _ => by omega⟩
    · skip
      refine WC.seq ?_
      refine WC.seq ?_
      refine WC.region ?_
      refine WR.move rfl rfl ?_
      refine WR.move rfl rfl ?_
      refine WR.bin rfl rfl rfl rfl ?_
      refine WR.move rfl rfl ?_
      refine WR.pass rfl rfl rfl (by first | rfl | assumption | simp_all) ?_
      refine WR.pass rfl rfl rfl (by first | rfl | assumption | simp_all) ?_
      refine WR.pass rfl rfl rfl (by first | rfl | assumption | simp_all) ?_
      refine WR.pass rfl rfl rfl (by first | rfl | assumption | simp_all) ?_
      refine WR.pass rfl rfl rfl (by first | rfl | assumption | simp_all) ?_
      refine WR.pickF rfl (by first | rfl | assumption | simp_all) rfl rfl ?_
      refine WR.nil ?_
      refine WN.seq ?_
      refine WC.cond rfl (fun h398 => ?_) (fun h398 => ?_)
      · skip
        cases h398
      · skip
        (try simp only [decide_eq_true_eq, decide_eq_false_iff_not, beq_iff_eq, beq_eq_false_iff_ne, bne_iff_ne, bne_eq_false_iff_eq, gt_iff_lt, ge_iff_le, Int.not_lt, Int.not_le, ne_eq, Bool.not_eq_true, Bool.not_eq_false, Bool.and_eq_true, Bool.and_eq_false_iff, Bool.or_eq_true, Bool.or_eq_false_iff] at h398)
        refine WC.exit rfl ?_
        exact WN.loop 0 i (by decide) ⟨rfl, rfl, rfl, rfl, trivial⟩ ⟨by omega, hg, hS, F, hF, hput, bo, bit, B, V, raw, unp, p, r, hb, hr, hpos, hbit, fun _ => by omega⟩
  · skip
    clear hg hS hF hput hb hr hpos hbit hB
    rintro i w9 ⟨hiL, hg, hS, F, hF, hput, bo, bit, B, V, raw, unp, p, r, hb, hr, hpos, hbit, hz⟩
    refine WN.seq ?_
    refine WC.seq ?_
    refine WC.seq ?_
    refine WC.mix [] mixed (by kernel_rfl) ?_
    replace hg := hg.same (Same.drew _) (by simp <;> omega)
    replace hr := hr.same (Same.drew _) (by simp <;> omega) (by simp <;> omega)
    replace hb := hb.same (Same.drew _) (by simp <;> omega)
    replace hF := hF.same (Same.drew _) (by simp <;> omega)
    replace hS := hS.trans (Same.drew _) (by simp <;> omega)
    (try replace hM := hM.same (Same.drew _) (by simp <;> omega))
    refine WR.move rfl rfl ?_
    refine WR.nilCheckP rfl rfl ?_
    refine WR.field rfl fa53_0 rfl ?_
    refine WR.load rfl Tryz.underlying48 rfl hb.c0 rfl ?_
    refine WR.move rfl rfl ?_
    refine WR.nilCheckP rfl rfl ?_
    refine WR.field rfl fa53_2 rfl ?_
    refine WR.load rfl Tryz.underlying2 rfl hb.c2 rfl ?_
    refine WR.nilCheckI rfl rfl ?_
    refine WR.move rfl rfl ?_
    refine WR.invoke rfl rfl rfl mtRdr_Seek cf119 rfl rfl (seek rb db dO len cap p r bo hr.rd (by omega)) ?_
    rintro _ w2 ⟨rfl, hr', hs⟩
    replace hr := Src.of_two (hr.two.same hs (by simp <;> omega)) hr' hrb
    clear hr'
    replace hg := hg.same hs (by simp <;> omega)
    replace hb := hb.same hs (by simp <;> omega)
    replace hF := hF.same hs (by simp <;> omega)
    replace hS := hS.trans hs (by simp <;> omega)
    (try replace hM := hM.same hs (by simp <;> omega))
    refine WR.move rfl rfl ?_
    refine WR.extract rfl rfl rfl ?_
    refine WR.extract rfl rfl rfl ?_
    refine WR.assign rfl rfl ?_
    refine WR.assign rfl rfl ?_
    refine WR.nil ?_
    refine WN.seq ?_
    refine WC.seq ?_
    refine WC.region ?_
    refine WR.move rfl rfl ?_
    refine WR.neqNil rfl rfl Tryz.underlying41 rfl ?_
    refine WR.nil ?_
    refine WN.seq ?_
    refine WC.cond rfl (fun h411 => ?_) (fun h411 => ?_)
    · skip
      cases h411
    · skip
      (try simp only [decide_eq_true_eq, decide_eq_false_iff_not, beq_iff_eq, beq_eq_false_iff_ne, bne_iff_ne, bne_eq_false_iff_eq, gt_iff_lt, ge_iff_le, Int.not_lt, Int.not_le, ne_eq, Bool.not_eq_true, Bool.not_eq_false, Bool.and_eq_true, Bool.and_eq_false_iff, Bool.or_eq_true, Bool.or_eq_false_iff] at h411)
      have hl1 := hr.rd.lt
      have hl2 := hr.lt
      have hl3 := hb.lt
      have hl4 := hF.lt
      have hl5 := hS.size
      have hl6 := hg.size
      refine WC.skip ?_
      refine WN.seq ?_
      refine WC.seq ?_
      refine WC.region ?_
      obtain ⟨bM, hbM⟩ : ∃ x, x = w2.heap.size := ⟨_, rfl⟩
      refine WR.make (n := 4096) rfl rfl Tryz.underlying22 mk5 rfl (by decide) (by omega) rfl rfl ?_
      rw [← hbM]
      intro w3 hM hs
      replace hg := hg.same hs (by simp <;> omega)
      replace hr := hr.same hs (by simp <;> omega) (by simp <;> omega)
      replace hb := hb.same hs (by simp <;> omega)
      replace hF := hF.same hs (by simp <;> omega)
      replace hS := hS.trans hs (by simp <;> omega)
      clear hs
      refine WR.assign rfl rfl ?_
      refine WR.nil ?_
      refine WN.seq ?_
      refine WC.seq ?_
      refine WC.region ?_
      refine WR.assign rfl rfl ?_
      refine WR.nil ?_
      refine WN.seq ?_
      refine WC.seq ?_
      refine WC.block ?_
      refine WC.loop (fun i : Nat => [(0, .pointer (some ⟨b, 0, none⟩)), (1, .slice (some ⟨g, o, none⟩) L dc), (6, .int .i64 (L : Nat)), (7, .int .i64 (i : Nat)), (13, .slice (some ⟨bM, 0, none⟩) 4096 4096), (14, .int .i64 8192)]) (fun m i w' => i + m = L ∧ Glob w' aE aU aP ∧ Same [g, b, rb] w w' ∧ ∃ F, Row w' g t N F ∧ Put F f o L i (fun j => Value.bool (bts (num d len) (pos + j) 1 == 1)) ∧ ∃ (bo bit : Nat) (B V : Int) (raw unp : Nat → Value) (p r : Int), BR w' b rb B bo bit V raw unp ∧ Src w' rb db dO len cap p r d ∧ 8 * bo + bit = pos + i ∧ bit ≤ 64 ∧ (i < L → bit = 0 ∧ p = bo) ∧ ∃ fM, Row w' bM 5 4096 fM) (L - i) i ⟨rfl, rfl, rfl, rfl, rfl, rfl, trivial⟩ ⟨by omega, hg, hS, F, hF, hput, bo, bit, B, V, raw, unp, _, _, hb, hr, hpos, hbit, fun h => ⟨hz h, rfl⟩, ⟨_, hM⟩⟩ ?_
      clear hz
      clear hg hS hF hput hb hr hpos hbit hM
      rintro m i w4 ⟨hm, hg, hS, F, hF, hput, bo, bit, B, V, raw, unp, p, r, hb, hr, hpos, hbit, hz, ⟨fM, hM⟩⟩
      refine WC.seq ?_
      refine WC.seq ?_
      refine WC.region ?_
      refine WR.move rfl rfl ?_
      refine WR.move rfl rfl ?_
      (refine WR.bin rfl rfl (ar_sub (z := ((L - i : Nat) : Int)) ?_) rfl ?_; (rw [wrap_i64 (by omega) (by omega)]; omega))
      refine WR.bin rfl rfl rfl rfl ?_
      refine WR.nil ?_
      refine WN.seq ?_
      refine WC.cond rfl (fun h416 => ?_) (fun h416 => ?_)
      · skip
        (try simp only [decide_eq_true_eq, decide_eq_false_iff_not, beq_iff_eq, beq_eq_false_iff_ne, bne_iff_ne, bne_eq_false_iff_eq, gt_iff_lt, ge_iff_le, Int.not_lt, Int.not_le, ne_eq, Bool.not_eq_true, Bool.not_eq_false, Bool.and_eq_true, Bool.and_eq_false_iff, Bool.or_eq_true, Bool.or_eq_false_iff] at h416)
        obtain ⟨rfl, rfl⟩ := hz (by omega)
        refine WC.skip ?_
        refine WN.seq ?_
        refine WC.block ?_
        refine WC.seq ?_
        refine WC.region ?_
        refine WR.move rfl rfl ?_
        refine WR.move rfl rfl ?_
        refine WR.move rfl rfl ?_
        (refine WR.bin rfl rfl (ar_sub (z := ((L - i : Nat) : Int)) ?_) rfl ?_; (rw [wrap_i64 (by omega) (by omega)]; omega))
        refine WR.callFS rfl rfl cf29 rfl rfl (minI 8192 (L - i) _) ?_
        obtain ⟨y, hy⟩ : ∃ y, y = min 8192 (L - i) / 8 := ⟨_, rfl⟩
        refine WR.bin rfl rfl (ar_quo (z := ((y : Nat) : Int)) (by decide) (by rw [tdiv_pos (by omega), wrap_i64 (by omega) (by omega)]; omega)) rfl ?_
        (refine WR.bin rfl rfl (ar_mul (z := ((8 * y : Nat) : Int)) ?_) rfl ?_; (rw [wrap_i64 (by omega) (by omega)]; omega))
        refine WR.assign rfl rfl ?_
        refine WR.nil ?_
        refine WN.seq ?_
        refine WC.seq ?_
        refine WC.region ?_
        refine WR.move rfl rfl ?_
        refine WR.callFS rfl rfl cf17 rfl rfl (bytesForBits ((8 * y : Nat) : Int) _ (by omega) (by omega)) ?_
        refine WR.assign rfl rfl ?_
        refine WR.nil ?_
        refine WN.seq ?_
        refine WC.seq ?_
        refine WC.region ?_
        refine WR.assign rfl rfl ?_
        refine WR.nil ?_
        refine WN.seq ?_
        refine WC.seq ?_
        refine WC.block ?_
        refine WC.loop (fun _ : Unit => [(17, .int .i64 0), (16, .int .i64 (y : Nat)), (15, .int .i64 (8 * y : Nat)), (0, .pointer (some ⟨b, 0, none⟩)), (1, .slice (some ⟨g, o, none⟩) L dc), (6, .int .i64 (L : Nat)), (7, .int .i64 (i : Nat)), (13, .slice (some ⟨bM, 0, none⟩) 4096 4096), (14, .int .i64 8192)]) (fun m _ w' => w' = w4) 1 () ⟨rfl, kint rfl (by omega), rfl, rfl, rfl, rfl, rfl, rfl, rfl, trivial⟩ rfl ?_
        rintro m2 _ w5 hw8
        have hw7 := hw8.symm
        clear hw8
        subst hw7
        refine WC.seq ?_
        refine WC.seq ?_
        refine WC.region ?_
        refine WR.move rfl rfl ?_
        refine WR.move rfl rfl ?_
        refine WR.bin rfl rfl rfl rfl ?_
        refine WR.nil ?_
        refine WN.seq ?_
        refine WC.cond rfl (fun h422 => ?_) (fun h422 => ?_)
        · skip
          (try simp only [decide_eq_true_eq, decide_eq_false_iff_not, beq_iff_eq, beq_eq_false_iff_ne, bne_iff_ne, bne_eq_false_iff_eq, gt_iff_lt, ge_iff_le, Int.not_lt, Int.not_le, ne_eq, Bool.not_eq_true, Bool.not_eq_false, Bool.and_eq_true, Bool.and_eq_false_iff, Bool.or_eq_true, Bool.or_eq_false_iff] at h422)
          refine WC.skip ?_
          refine WN.seq ?_
          refine WC.block ?_
          refine WC.seq ?_
          refine WC.mix [] mixed (by kernel_rfl) ?_
          replace hg := hg.same (Same.drew _) (by simp <;> omega)
          replace hr := hr.same (Same.drew _) (by simp <;> omega) (by simp <;> omega)
          replace hb := hb.same (Same.drew _) (by simp <;> omega)
          replace hF := hF.same (Same.drew _) (by simp <;> omega)
          replace hS := hS.trans (Same.drew _) (by simp <;> omega)
          (try replace hM := hM.same (Same.drew _) (by simp <;> omega))
          refine WR.move rfl rfl ?_
          refine WR.nilCheckP rfl rfl ?_
          refine WR.field rfl fa53_0 rfl ?_
          refine WR.load rfl Tryz.underlying48 rfl hb.c0 rfl ?_
          refine WR.move rfl rfl ?_
          refine WR.move rfl rfl ?_
          refine WR.move rfl rfl ?_
          refine WR.slice rfl Tryz.underlying22 sz5 ⟨_, _, rfl, by omega, by omega, show y = Int.toNat _ by omega⟩ ⟨_, _, rfl, by omega, by omega, show 0 = Int.toNat _ by rfl⟩ rfl ?_
          refine WR.nilCheckI rfl rfl ?_
          refine WR.move rfl rfl ?_
          refine WR.invoke rfl rfl rfl mtRdr_Read cf117 rfl rfl (read rb db dO len cap bM 0 (y - 0) (4096 - 0) 5 4096 bo _ d fM hr.rd hr.two hM (by omega) (by omega) (by omega) (by omega) (by omega) hrd) ?_
          rintro _ w6 ⟨rfl, hr', hM', hs⟩
          rw [show bo + (y - 0) = bo + y by omega] at hr'
          replace hr := Src.of_two (hr.two.same hs (by simp <;> omega)) hr' hrb
          replace hM := hM'
          clear hr' hM'
          replace hg := hg.same hs (by simp <;> omega)
          replace hb := hb.same hs (by simp <;> omega)
          replace hF := hF.same hs (by simp <;> omega)
          replace hS := hS.trans hs (by simp <;> omega)
          refine WR.move rfl rfl ?_
          refine WR.extract rfl rfl rfl ?_
          refine WR.extract rfl rfl rfl ?_
          refine WR.assign rfl rfl ?_
          refine WR.assign rfl rfl ?_
          refine WR.nil ?_
          refine WN.seq ?_
          refine WC.seq ?_
          refine WC.region ?_
          refine WR.move rfl rfl ?_
          refine WR.move rfl rfl ?_
          (refine WR.bin rfl rfl (ar_add (z := ((y : Nat) : Int)) ?_) rfl ?_; (rw [wrap_i64 (by omega) (by omega)]; omega))
          refine WR.assign rfl rfl ?_
          refine WR.nil ?_
          refine WN.seq ?_
          refine WC.seq ?_
          refine WC.seq ?_
          refine WC.region ?_
          refine WR.move rfl rfl ?_
          refine WR.move rfl rfl ?_
          refine WR.bin rfl rfl rfl rfl ?_
          refine WR.nil ?_
          refine WN.seq ?_
          refine WC.cond rfl (fun h425 => ?_) (fun h425 => ?_)
          · skip
            (try simp only [decide_eq_true_eq, decide_eq_false_iff_not, beq_iff_eq, beq_eq_false_iff_ne, bne_iff_ne, bne_eq_false_iff_eq, gt_iff_lt, ge_iff_le, Int.not_lt, Int.not_le, ne_eq, Bool.not_eq_true, Bool.not_eq_false, Bool.and_eq_true, Bool.and_eq_false_iff, Bool.or_eq_true, Bool.or_eq_false_iff] at h425)
            refine WC.exit rfl ?_
            refine WN.seq ?_
            refine WC.seq ?_
            refine WC.mix [] mixed (by kernel_rfl) ?_
            replace hg := hg.same (Same.drew _) (by simp <;> omega)
            replace hr := hr.same (Same.drew _) (by simp <;> omega) (by simp <;> omega)
            replace hb := hb.same (Same.drew _) (by simp <;> omega)
            replace hF := hF.same (Same.drew _) (by simp <;> omega)
            replace hS := hS.trans (Same.drew _) (by simp <;> omega)
            (try replace hM := hM.same (Same.drew _) (by simp <;> omega))
            refine WR.move rfl rfl ?_
            refine WR.move rfl rfl ?_
            refine WR.slice rfl Tryz.underlying22 sz5 ⟨_, _, rfl, by omega, by omega, show y = Int.toNat _ by omega⟩ rfl rfl ?_
            refine WR.move rfl rfl ?_
            refine WR.move rfl rfl ?_
            refine WR.slice rfl Tryz.underlying66 sz4 rfl ⟨_, _, rfl, by omega, by omega, show i = Int.toNat _ by omega⟩ rfl ?_
            rw [if_neg (show ¬ dc = i by omega), show o + i * 1 = o + i by omega]
            have hrdM : Rd _ bM 0 (y - 0) (byt fun k => d (bo + k)) := (hM.rd 0 (y - 0) (by omega)).congr (fun k hk => by
              have := ovr_at (f := fM) (o := 0) (cs := (List.range (y - 0)).map fun k => byt d (bo + k)) (i := k) (by simpa using hk)
              simp only [Nat.zero_add] at this ⊢
              rw [this]
              simp [byt])
            refine WR.callF rfl rfl cf34 rfl rfl (bytesToBools bM 0 (4096 - 0) (y - 0) g (o + i) (L - i) (dc - i) t N (fun k => d (bo + k)) F hrdM (fun k hk => hr.small _ (by omega)) hM.lt hF (by omega) (by omega) (by omega) (by omega)) ?_
            rintro _ w7 ⟨rfl, ⟨F2, hF2, hput2⟩, hs⟩
            replace hF := hF2
            rw [show 8 * (y - 0) = 8 * y by omega] at hput2
            clear hrdM
            replace hg := hg.same hs (by simp <;> omega)
            replace hr := hr.same hs (by simp <;> omega) (by simp <;> omega)
            replace hb := hb.same hs (by simp <;> omega)
            replace hS := hS.trans hs (by simp <;> omega)
            (try replace hM := hM.same hs (by simp <;> omega))
            refine WR.nil ?_
            refine WN.seq ?_
            refine WC.seq ?_
            refine WC.region ?_
            refine WR.move rfl rfl ?_
            refine WR.move rfl rfl ?_
            (refine WR.bin rfl rfl (ar_mul (z := ((8 * y : Nat) : Int)) ?_) rfl ?_; (rw [wrap_i64 (by omega) (by omega)]; omega))
            (refine WR.bin rfl rfl (ar_add (z := ((i + 8 * y : Nat) : Int)) ?_) rfl ?_; (rw [wrap_i64 (by omega) (by omega)]; omega))
            refine WR.assign rfl rfl ?_
            refine WR.nil ?_
            refine WN.seq ?_
            refine WC.region ?_
            refine WR.move rfl rfl ?_
            refine WR.nilCheckP rfl rfl ?_
            refine WR.field rfl fa53_2 rfl ?_
            refine WR.load rfl Tryz.underlying2 rfl hb.c2 rfl ?_
            refine WR.move rfl rfl ?_
            (refine WR.bin rfl rfl (ar_add (z := ((bo + y : Nat) : Int)) ?_) rfl ?_; (rw [wrap_i64 (by omega) (by omega)]; omega))
            refine WR.nilCheckP rfl rfl ?_
            refine WR.field rfl fa53_2 rfl ?_
            refine WR.storeK rfl rfl rfl sz2 hb.c2 (hb.fz 2) ?_
            intro w8 hn hs
            replace hb := hb.s2 hn
            replace hg := hg.same hs (by simp <;> omega)
            replace hr := hr.same hs (by simp <;> omega) (by simp <;> omega)
            replace hF := hF.same hs (by simp <;> omega)
            replace hS := hS.trans hs (by simp <;> omega)
            (try replace hM := hM.same hs (by simp <;> omega))
            clear hn hs
            refine WR.nil ?_
            refine WN.block ?_
            exact WN.loop (L - (i + 8 * y)) (i + 8 * y) (by omega) ⟨rfl, rfl, rfl, kint rfl (by omega), rfl, rfl, trivial⟩ ⟨by omega, hg, hS, F2, hF, hput.add hput2 (by omega) (fun j hj => by show Value.bool _ = Value.bool _; rw [bit_byte hr.small (by omega), show 8 * bo + j = pos + (i + j) by omega]), bo + y, 0, _, _, raw, unp, _, _, hb, hr, by omega, by omega, fun _ => ⟨rfl, rfl⟩, ⟨_, hM⟩⟩
          · skip
            exact absurd h425 (by simp)
        · skip
          (try simp only [decide_eq_true_eq, decide_eq_false_iff_not, beq_iff_eq, beq_eq_false_iff_ne, bne_iff_ne, bne_eq_false_iff_eq, gt_iff_lt, ge_iff_le, Int.not_lt, Int.not_le, ne_eq, Bool.not_eq_true, Bool.not_eq_false, Bool.and_eq_true, Bool.and_eq_false_iff, Bool.or_eq_true, Bool.or_eq_false_iff] at h422)
          omega
      · skip
        (try simp only [decide_eq_true_eq, decide_eq_false_iff_not, beq_iff_eq, beq_eq_false_iff_ne, bne_iff_ne, bne_eq_false_iff_eq, gt_iff_lt, ge_iff_le, Int.not_lt, Int.not_le, ne_eq, Bool.not_eq_true, Bool.not_eq_false, Bool.and_eq_true, Bool.and_eq_false_iff, Bool.or_eq_true, Bool.or_eq_false_iff] at h416)
        refine WC.exit rfl ?_
        refine WN.seq ?_
        refine WC.seq ?_
        refine WC.seq ?_
        refine WC.region ?_
        refine WR.move rfl rfl ?_
        refine WR.callF rfl rfl cf18 rfl rfl (fillbuffer hg b rb db dO len cap _ _ _ _ p r d _ _ hb hr (by omega) (by omega) hgb hne hnd) ?_
        rintro _ w5 ⟨rfl, ⟨raw2, hb'⟩, hs⟩
        replace hb := hb'
        clear hb'
        simp only [Int.toNat_natCast] at hb
        replace hg := hg.same hs (by simp <;> omega)
        replace hr := hr.same hs (by simp <;> omega) (by simp <;> omega)
        replace hF := hF.same hs (by simp <;> omega)
        replace hS := hS.trans hs (by simp <;> omega)
        (try replace hM := hM.same hs (by simp <;> omega))
        refine WR.assign rfl rfl ?_
        refine WR.nil ?_
        refine WN.seq ?_
        refine WC.seq ?_
        refine WC.region ?_
        refine WR.move rfl rfl ?_
        refine WR.neqNil rfl rfl Tryz.underlying41 rfl ?_
        refine WR.nil ?_
        refine WN.seq ?_
        refine WC.cond rfl (fun h453 => ?_) (fun h453 => ?_)
        · skip
          cases h453
        · skip
          (try simp only [decide_eq_true_eq, decide_eq_false_iff_not, beq_iff_eq, beq_eq_false_iff_ne, bne_iff_ne, bne_eq_false_iff_eq, gt_iff_lt, ge_iff_le, Int.not_lt, Int.not_le, ne_eq, Bool.not_eq_true, Bool.not_eq_false, Bool.and_eq_true, Bool.and_eq_false_iff, Bool.or_eq_true, Bool.or_eq_false_iff] at h453)
          refine WC.skip ?_
          refine WN.seq ?_
          refine WC.seq ?_
          refine WC.block ?_
          refine WC.loop (fun i : Nat => [(0, .pointer (some ⟨b, 0, none⟩)), (1, .slice (some ⟨g, o, none⟩) L dc), (6, .int .i64 (L : Nat)), (7, .int .i64 (i : Nat))]) (fun m i w' => i + m = L ∧ Glob w' aE aU aP ∧ Same [g, b, rb] w w' ∧ ∃ F, Row w' g t N F ∧ Put F f o L i (fun j => Value.bool (bts (num d len) (pos + j) 1 == 1)) ∧ ∃ (bo bit : Nat) (raw unp : Nat → Value) (p r : Int), BR w' b rb (bts (num d len) (8 * bo) 64 : Nat) bo bit (8 * min (len - bo) 8 : Nat) raw unp ∧ Src w' rb db dO len cap p r d ∧ 8 * bo + bit = pos + i ∧ bit ≤ 64) (L - i) i ⟨rfl, rfl, rfl, rfl, trivial⟩ ⟨by omega, hg, hS, F, hF, hput, bo, bit, raw2, unp, p, r, hb, hr, hpos, hbit⟩ ?_
          clear hg hS hF hput hb hr hpos hbit
          rintro m i w6 ⟨hm, hg, hS, F, hF, hput, bo, bit, raw, unp, p, r, hb, hr, hpos, hbit⟩
          refine WC.seq ?_
          refine WC.seq ?_
          refine WC.region ?_
          refine WR.move rfl rfl ?_
          refine WR.move rfl rfl ?_
          refine WR.bin rfl rfl rfl rfl ?_
          refine WR.nil ?_
          refine WN.seq ?_
          refine WC.cond rfl (fun h457 => ?_) (fun h457 => ?_)
          · skip
            (try simp only [decide_eq_true_eq, decide_eq_false_iff_not, beq_iff_eq, beq_eq_false_iff_ne, bne_iff_ne, bne_eq_false_iff_eq, gt_iff_lt, ge_iff_le, Int.not_lt, Int.not_le, ne_eq, Bool.not_eq_true, Bool.not_eq_false, Bool.and_eq_true, Bool.and_eq_false_iff, Bool.or_eq_true, Bool.or_eq_false_iff] at h457)
            refine WC.skip ?_
            refine WN.seq ?_
            refine WC.seq ?_
            refine WC.block ?_
            refine WC.seq ?_
            refine WC.cut (fun _ : Unit => [(0, .pointer (some ⟨b, 0, none⟩)), (1, .slice (some ⟨g, o, none⟩) L dc), (6, .int .i64 (L : Nat)), (7, .int .i64 (i : Nat))]) (fun _ w' => Glob w' aE aU aP ∧ Same [g, b, rb] w w' ∧ Row w' g t N F ∧ BR w' b rb (bts (num d len) (8 * bo) 64 : Nat) bo bit (8 * min (len - bo) 8 : Nat) raw unp ∧ Src w' rb db dO len cap p r d) ?_ ?_
            · skip
              refine WC.seq ?_
              refine WC.region ?_
              refine WR.move rfl rfl ?_
              refine WR.nilCheckP rfl rfl ?_
              refine WR.field rfl fa53_3 rfl ?_
              refine WR.load rfl Tryz.underlying44 rfl hb.c3 rfl ?_
              first
                | (refine WR.bin rfl rfl (ar_rem ?_ (tmod_pos ?_)) rfl ?_; (omega); (omega))
                | (refine WR.bin rfl rfl (ar_rem ?_ rfl) rfl ?_; (omega))
              refine WR.bin rfl rfl rfl rfl ?_
              refine WR.nil ?_
              refine WN.seq ?_
              refine WC.cond rfl (fun h458 => ?_) (fun h458 => ?_)
              · skip
                (try simp only [decide_eq_true_eq, decide_eq_false_iff_not, beq_iff_eq, beq_eq_false_iff_ne, bne_iff_ne, bne_eq_false_iff_eq, gt_iff_lt, ge_iff_le, Int.not_lt, Int.not_le, ne_eq, Bool.not_eq_true, Bool.not_eq_false, Bool.and_eq_true, Bool.and_eq_false_iff, Bool.or_eq_true, Bool.or_eq_false_iff] at h458)
                refine WC.seq ?_
                refine WC.region ?_
                refine WR.move rfl rfl ?_
                refine WR.callF rfl rfl cf32 rfl rfl (ensure hg b rb db dO len cap bo bit _ _ p r d raw unp hb hr (by omega) (by omega)) ?_
                rintro _ w7 ⟨rfl, hs⟩
                replace hg := hg.same hs (by simp <;> omega)
                replace hr := hr.same hs (by simp <;> omega) (by simp <;> omega)
                replace hb := hb.same hs (by simp <;> omega)
                replace hF := hF.same hs (by simp <;> omega)
                replace hS := hS.trans hs (by simp <;> omega)
                (try replace hM := hM.same hs (by simp <;> omega))
                refine WR.assign rfl rfl ?_
                refine WR.nil ?_
                refine WN.seq ?_
                refine WC.seq ?_
                refine WC.region ?_
                refine WR.move rfl rfl ?_
                refine WR.neqNil rfl rfl Tryz.underlying41 rfl ?_
                refine WR.nil ?_
                refine WN.seq ?_
                refine WC.cond rfl (fun h459 => ?_) (fun h459 => ?_)
                · skip
                  cases h459
                · skip
                  (try simp only [decide_eq_true_eq, decide_eq_false_iff_not, beq_iff_eq, beq_eq_false_iff_ne, bne_iff_ne, bne_eq_false_iff_eq, gt_iff_lt, ge_iff_le, Int.not_lt, Int.not_le, ne_eq, Bool.not_eq_true, Bool.not_eq_false, Bool.and_eq_true, Bool.and_eq_false_iff, Bool.or_eq_true, Bool.or_eq_false_iff] at h459)
                  refine WC.skip ?_
                  exact WN.loop 0 () (by decide) ⟨rfl, rfl, rfl, rfl, trivial⟩ ⟨hg, hS, hF, hb, hr⟩
              · skip
                (try simp only [decide_eq_true_eq, decide_eq_false_iff_not, beq_iff_eq, beq_eq_false_iff_ne, bne_iff_ne, bne_eq_false_iff_eq, gt_iff_lt, ge_iff_le, Int.not_lt, Int.not_le, ne_eq, Bool.not_eq_true, Bool.not_eq_false, Bool.and_eq_true, Bool.and_eq_false_iff, Bool.or_eq_true, Bool.or_eq_false_iff] at h458)
                refine WC.skip ?_
                exact WN.loop 0 () (by decide) ⟨rfl, rfl, rfl, rfl, trivial⟩ ⟨hg, hS, hF, hb, hr⟩
            · skip
              clear hg hS hF hb hr
              rintro _ w9 ⟨hg, hS, hF, hb, hr⟩
              refine WN.seq ?_
              refine WC.seq ?_
              refine WC.region ?_
              refine WR.move rfl rfl ?_
              refine WR.callF rfl rfl cf33 rfl rfl (nextBool hg b rb db dO len cap bo bit p r d raw unp hb hr (by omega) (by omega) hgb hne hnd) ?_
              rintro _ w7 ⟨rfl, ⟨bo2, bit2, raw2, hb', hpos2, hbit1, hbit2⟩, hs⟩
              replace hb := hb'
              clear hb'
              replace hg := hg.same hs (by simp <;> omega)
              replace hr := hr.same hs (by simp <;> omega) (by simp <;> omega)
              replace hF := hF.same hs (by simp <;> omega)
              replace hS := hS.trans hs (by simp <;> omega)
              (try replace hM := hM.same hs (by simp <;> omega))
              refine WR.move rfl rfl ?_
              refine WR.extract rfl rfl rfl ?_
              refine WR.extract rfl rfl rfl ?_
              refine WR.assign rfl rfl ?_
              refine WR.assign rfl rfl ?_
              refine WR.nil ?_
              refine WN.seq ?_
              refine WC.seq ?_
              refine WC.region ?_
              refine WR.move rfl rfl ?_
              refine WR.move rfl rfl ?_
              refine WR.move rfl rfl ?_
              refine WR.idxK (i) rfl rfl Tryz.underlying66 sz4 (by omega) (by omega) rfl ?_
              refine WR.storeK rfl rfl rfl sz4 (hF.cell (by omega)) (hF.fz _) ?_
              intro w8 hn hs
              replace hF := hF.set' hn
              replace hg := hg.same hs (by simp <;> omega)
              replace hr := hr.same hs (by simp <;> omega) (by simp <;> omega)
              replace hb := hb.same hs (by simp <;> omega)
              replace hS := hS.trans hs (by simp <;> omega)
              (try replace hM := hM.same hs (by simp <;> omega))
              clear hn hs
              refine WR.nil ?_
              refine WN.seq ?_
              refine WC.seq ?_
              refine WC.region ?_
              refine WR.move rfl rfl ?_
              refine WR.neqNil rfl rfl Tryz.underlying41 rfl ?_
              refine WR.nil ?_
              refine WN.seq ?_
              refine WC.cond rfl (fun h465 => ?_) (fun h465 => ?_)
              · skip
                cases h465
              · skip
                (try simp only [decide_eq_true_eq, decide_eq_false_iff_not, beq_iff_eq, beq_eq_false_iff_ne, bne_iff_ne, bne_eq_false_iff_eq, gt_iff_lt, ge_iff_le, Int.not_lt, Int.not_le, ne_eq, Bool.not_eq_true, Bool.not_eq_false, Bool.and_eq_true, Bool.and_eq_false_iff, Bool.or_eq_true, Bool.or_eq_false_iff] at h465)
                refine WC.skip ?_
                refine WN.block ?_
                refine WN.seq ?_
                refine WC.region ?_
                refine WR.move rfl rfl ?_
                first
                  | (refine WR.bin rfl rfl (ar_add (wrap_i64 ?_ ?_)) rfl ?_; (omega); (omega))
                  | refine WR.bin rfl rfl (ar_add rfl) rfl ?_
                refine WR.assign rfl rfl ?_
                refine WR.nil ?_
                exact WN.loop (m - 1) (i + 1) (by omega) ⟨rfl, rfl, rfl, kint rfl (by omega), trivial⟩ ⟨by omega, hg, hS, _, hF, hput.step (by omega) (by rw [hpos]; try rfl), bo2, bit2, raw2, unp, p, r, hb, hr, by omega, by omega⟩
          · skip
            (try simp only [decide_eq_true_eq, decide_eq_false_iff_not, beq_iff_eq, beq_eq_false_iff_ne, bne_iff_ne, bne_eq_false_iff_eq, gt_iff_lt, ge_iff_le, Int.not_lt, Int.not_le, ne_eq, Bool.not_eq_true, Bool.not_eq_false, Bool.and_eq_true, Bool.and_eq_false_iff, Bool.or_eq_true, Bool.or_eq_false_iff] at h457)
            obtain rfl : i = L := by omega
            refine WC.exit rfl ?_
            refine WN.seq ?_
            refine WC.seq ?_
            refine WC.region ?_
            refine WR.move rfl rfl ?_
            refine WR.assign rfl rfl ?_
            refine WR.assign rfl rfl ?_
            refine WR.nil ?_
            refine WN.seq ?_
            refine WC.retR rfl rfl ?_
            exact ⟨rfl, ⟨bo, bit, _, _, raw, unp, p, r, hb, hr, hpos, hbit, fun _ => ⟨rfl, rfl⟩⟩, ⟨F, hF, hput⟩, hS⟩

end Go.Proofs.YtajgdpiodpoooaaGreatDoor.Vm
