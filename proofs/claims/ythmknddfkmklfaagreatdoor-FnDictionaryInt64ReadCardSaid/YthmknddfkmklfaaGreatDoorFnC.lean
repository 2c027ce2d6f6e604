/- The bit reader's own buffer: fillbuffer. -/
import Derived.Test.YthmknddfkmklfaaGreatDoorFnB
namespace Go.Proofs.YthmknddfkmklfaaGreatDoor.Vm
open Go Mix Go.RowKit Num
set_option maxRecDepth 20000
set_option linter.unusedSimpArgs false
/-- what the bit reader stands on: the bytes d, and the reader over them -/
structure Src (w : World) (rb : RB) (db dO len cap : Nat) (p r : Int) (d : Nat → Nat) : Prop where
  rd : RD w rb db dO len cap p r
  data : Rd w db (dO - 1) len (byt d)
  small : ∀ i, i < len → d i < 256
  cap_ : len ≤ cap
  len_ : len ≤ 1099511627776
  lt : db < w.heap.size
  ten : 6 ≤ rb.blk
  nz : 0 < len → 0 < dO
theorem Src.same {w w' : World} {S : List Nat} {rb : RB} {db dO len cap : Nat} {p r : Int} {d : Nat → Nat} (h : Src w rb db dO len cap p r d) (hs : Same S w w') (h1 : rb.blk ∉ S) (h2 : db ∉ S) : Src w' rb db dO len cap p r d :=
  ⟨h.rd.same hs h1, h.data.same hs h2 h.lt, h.small, h.cap_, h.len_, Nat.lt_of_lt_of_le h.lt hs.size, h.ten, h.nz⟩
theorem eqErr (p : Addr) (w : World) : (Op.equal 54 (.iface 127 (.pointer (some p))) (.iface 127 (.pointer (some p)))).run Tryz.prog w = .ok true w :=
  run_equal_same (s := 0) Tryz.underlying54 (by kernel_rfl) Tryz.underlying127 (by kernel_rfl) p w

theorem fillbuffer {w : World} {aE aU aP : Addr} (hg : Glob w aE aU aP) (b : Nat) (rb : RB) (db dO len cap : Nat) (buf bo bit vb p r : Int) (d : Nat → Nat) (raw unp : Nat → Value) (hb : BR w b rb buf bo bit vb raw unp) (hr : Src w rb db dO len cap p r d) (h0 : 0 ≤ bo) (h1 : bo ≤ 4611686018427387904) (hgb : 6 ≤ b) (hne : b ≠ rb.blk) (hnd : b ≠ db) :
    Ret Tryz.prog 62 #[.pointer (some ⟨b, 0, none⟩)] w fun v w' => v = .nilIface ∧ (∃ raw', BR w' b rb (bts (num d len) (8 * bo.toNat) 64 : Nat) bo bit (8 * min (len - bo.toNat) 8 : Nat) raw' unp) ∧ Same [b] w w' := by
  have hS := Same.refl [b] w
  have hlen := hr.len_
  refine Ret.enter (vs := [.pointer (some ⟨b, 0, none⟩)]) Tryz.func62 Tryz.ntmps62 rfl rfl ?_
  refine WC.seq (WC.region ?_)
  refine WR.assign rfl rfl ?_
  refine WR.nil (WN.seq (WC.seq ?_))
  refine WC.mix [] mixed (by kernel_rfl) ?_
  replace hg := hg.same (Same.drew _) (by simp <;> omega)
  replace hr := hr.same (Same.drew _) (by simp <;> omega) (by simp <;> omega)
  replace hb := hb.same (Same.drew _) (by simp)
  replace hS := hS.trans (Same.drew _) (by simp)
  refine WR.move rfl rfl ?_
  refine WR.nilCheckP rfl rfl ?_
  refine WR.field rfl fa152_0 rfl ?_
  refine WR.load rfl Tryz.underlying148 rfl hb.c0 rfl ?_
  refine WR.move rfl rfl ?_
  refine WR.nilCheckP rfl rfl ?_
  refine WR.field rfl fa152_5 rfl ?_
  refine WR.sliceA rfl Tryz.underlying149 sz5 rfl rfl rfl ?_
  refine WR.move rfl rfl ?_
  refine WR.nilCheckP rfl rfl ?_
  refine WR.field rfl fa152_2 rfl ?_
  refine WR.load rfl Tryz.underlying2 rfl hb.c2 rfl ?_
  refine WR.nilCheckI rfl rfl ?_
  refine WR.move rfl rfl ?_
  refine WR.invoke rfl rfl rfl mtRdr_ReadAt cf148 rfl rfl (readAt hg rb db dO len cap b 5 8 8 _ 1037 p r bo d _ hgb hr.rd hr.data hr.nz hb hr.cap_ (by omega) (by omega) (by omega) (by omega) h0) ?_
  rintro _ w1 ⟨k, hk, rfl, hb', hs⟩
  obtain ⟨raw1, hb, hraw0⟩ := BR.raw_row' hb' (fun j _ hj => by unfold ovr; rw [if_neg (by simp; omega)])
  have hraw : ∀ i, i < k → raw1 i = byt d (bo.toNat + i) := by
    intro i hi
    rw [hraw0 i (by omega)]
    unfold ovr
    rw [if_pos (by simp; omega)]
    simp [hi]
  clear hraw0 hb'
  replace hg := hg.same hs (by simp <;> omega)
  replace hr := hr.same hs (by simp <;> omega) (by simp <;> omega)
  replace hS := hS.trans hs (by simp)
  refine WR.move rfl rfl ?_
  refine WR.extract rfl rfl rfl ?_
  refine WR.extract rfl rfl rfl ?_
  refine WR.assign rfl rfl ?_
  refine WR.assign rfl rfl ?_
  refine WR.nil (WN.seq (WC.seq ?_))
  refine WC.cut (fun _ : Unit => [(0, .pointer (some ⟨b, 0, none⟩)), (3, .int .i64 (k : Int))]) (fun _ w' => w' = w1) ?_ ?_
  · skip
    by_cases hk8 : k < 8
    · skip
      have hE : eofV aE (decide (k < 8)) = .iface 127 (.pointer (some aE)) := by rw [show decide (k < 8) = true by simpa using hk8]; rfl
      rw [hE]
      refine WC.seq (WC.region ?_)
      refine WR.move rfl rfl ?_
      refine WR.neqNil rfl rfl Tryz.underlying54 rfl ?_
      refine WR.move rfl rfl ?_
      refine WR.take rfl rfl rfl ?_
      refine WR.move rfl rfl ?_
      refine WR.take rfl rfl rfl ?_
      refine WR.load rfl Tryz.underlying54 rfl hg.eof rfl ?_
      refine WR.take rfl rfl rfl ?_
      refine WR.binI rfl rfl (.inr rfl) (eqErr _ _) rfl ?_
      refine WR.pick rfl rfl rfl ?_
      refine WR.nil (WN.seq ?_)
      refine WC.cond rfl (fun h227 => ?_) (fun h227 => ?_)
      · skip
        cases h227
      · skip
        refine WC.skip ?_
        exact WN.loop 0 () (by decide) ⟨rfl, rfl, trivial⟩ rfl
    · skip
      have hE : eofV aE (decide (k < 8)) = .nilIface := by rw [show decide (k < 8) = false by simpa using hk8]; rfl
      rw [hE]
      refine WC.seq (WC.region ?_)
      refine WR.move rfl rfl ?_
      refine WR.neqNil rfl rfl Tryz.underlying54 rfl ?_
      refine WR.move rfl rfl ?_
      refine WR.pass rfl rfl rfl rfl ?_
      refine WR.pass rfl rfl rfl rfl ?_
      refine WR.pass rfl rfl rfl rfl ?_
      refine WR.pick rfl rfl rfl ?_
      refine WR.nil (WN.seq ?_)
      refine WC.cond rfl (fun h227 => ?_) (fun h227 => ?_)
      · skip
        cases h227
      · skip
        simp only at h227
        refine WC.skip ?_
        exact WN.loop 0 () (by decide) ⟨rfl, rfl, trivial⟩ rfl
  · skip
    rintro _ _ rfl
    refine WN.seq (WC.seq (WC.region ?_))
    refine WR.move rfl rfl ?_
    refine WR.move rfl rfl ?_
    (refine WR.bin rfl rfl (ar_mul (wrap_i64 ?_ ?_)) rfl ?_; (omega); (omega))
    (refine WR.conv rfl Tryz.underlying3 Tryz.underlying110 (wrap_u64 ?_ ?_) rfl ?_; (omega); (omega))
    refine WR.nilCheckP rfl rfl ?_
    refine WR.field rfl fa152_4 rfl ?_
    refine WR.storeK rfl rfl rfl sz110 hb.c4 (hb.fz 4) ?_
    intro w2 hn hs
    replace hb := hb.s4 hn
    replace hg := hg.same hs (by simp <;> omega)
    replace hr := hr.same hs (by simp <;> omega) (by simp <;> omega)
    replace hS := hS.trans hs (by simp)
    clear hn hs
    refine WR.nil (WN.seq ?_)
    refine WC.seq (WC.seq (WC.region ?_))
    refine WR.move rfl rfl ?_
    refine WR.assign rfl rfl ?_
    refine WR.nil (WN.seq (WC.block ?_))
    refine WC.loop (fun j : Int => [(0, .pointer (some ⟨b, 0, none⟩)), (5, .int .i64 j)]) (fun m j w' => (k : Int) ≤ j ∧ j ≤ 8 ∧ (m : Int) = 8 - j ∧ Glob w' aE aU aP ∧ Src w' rb db dO len cap p r d ∧ Same [b] w w' ∧ ∃ raw2, BR w' b rb buf bo bit ((k : Int) * 8) raw2 unp ∧ (∀ i, i < k → raw2 i = byt d (bo.toNat + i)) ∧ (∀ i, k ≤ i → (i : Int) < j → raw2 i = .int .u8 0)) (8 - k) (k : Int) ⟨rfl, rfl, trivial⟩ ⟨by omega, by omega, by omega, hg, hr, hS, raw1, hb, hraw, fun i _ h2 => absurd h2 (by omega)⟩ ?_
    clear hg hr hS hb hraw
    rintro m j w3 ⟨hj0, hj1, hm, hg, hr, hS, raw2, hb, hr1, hr2⟩
    refine WC.seq (WC.seq (WC.region ?_))
    refine WR.move rfl rfl ?_
    refine WR.bin rfl rfl rfl rfl ?_
    refine WR.nil (WN.seq ?_)
    refine WC.cond rfl (fun h231 => ?_) (fun h231 => ?_)
    · skip
      simp only [decide_eq_true_eq] at h231
      refine WC.skip (WN.seq ?_)
      refine WC.seq (WC.block (WC.region ?_))
      refine WR.move rfl rfl ?_
      refine WR.move rfl rfl ?_
      refine WR.nilCheckP rfl rfl ?_
      refine WR.field rfl fa152_5 rfl ?_
      refine WR.idxA rfl rfl Tryz.underlying149 sz5 (by omega) (by omega) rfl ?_
      refine WR.storeK rfl rfl rfl sz5 (Row.cell hb (by omega)) (hb.fz _) ?_
      intro w9 hn hs
      replace hb := hb.raw_set (by omega) hn
      replace hg := hg.same hs (by simp <;> omega)
      replace hr := hr.same hs (by simp <;> omega) (by simp <;> omega)
      replace hS := hS.trans hs (by simp)
      clear hn hs
      refine WR.nil (WN.block ?_)
      refine WN.seq (WC.region ?_)
      refine WR.move rfl rfl ?_
      (refine WR.bin rfl rfl (ar_add (wrap_i64 ?_ ?_)) rfl ?_; (omega); (omega))
      refine WR.assign rfl rfl ?_
      refine WR.nil ?_
      exact WN.loop (m - 1) (j + 1) (by omega) ⟨rfl, rfl, trivial⟩ ⟨by omega, by omega, by omega, hg, hr, hS, _, hb, fun i hi => by unfold upd; rw [if_neg (by omega)]; exact hr1 i hi, fun i h1 h2 => by
        unfold upd
        by_cases hij : i = j.toNat * 1
        · rw [if_pos hij]
        · rw [if_neg hij]; exact hr2 i h1 (by omega)⟩
    · skip
      simp only [decide_eq_false_iff_not, Int.not_lt] at h231
      refine WC.exit rfl ?_
      refine WN.seq (WC.seq ?_)
      refine WC.mix [] mixed (by kernel_rfl) ?_
      replace hg := hg.same (Same.drew _) (by simp <;> omega)
      replace hr := hr.same (Same.drew _) (by simp <;> omega) (by simp <;> omega)
      replace hb := hb.same (Same.drew _) (by simp)
      replace hS := hS.trans (Same.drew _) (by simp)
      refine WR.move rfl rfl ?_
      refine WR.loadAgg rfl Tryz.underlying183 rfl sz183 (show Rd _ _ _ 0 (fun _ => undef) from fun i hi => absurd hi (by omega)) rfl ?_
      refine WR.move rfl rfl ?_
      refine WR.nilCheckP rfl rfl ?_
      refine WR.field rfl fa152_5 rfl ?_
      refine WR.sliceA rfl Tryz.underlying149 sz5 rfl rfl rfl ?_
      have hrd : Rd _ b 5 8 (byt fun i => if i < k then d (bo.toNat + i) else 0) := hb.raw_rd.congr (fun i hi => by
        by_cases hik : i < k
        · rw [hr1 i hik]; simp [byt, hik]
        · rw [hr2 i (by omega) (by omega)]; simp [byt, hik])
      have he : ∀ i, i < 8 → (if i < k then d (bo.toNat + i) else 0) < 256 := fun i hi => by
        by_cases hik : i < k
        · rw [if_pos hik]; exact hr.small _ (by omega)
        · rw [if_neg hik]; omega
      refine WR.callF rfl rfl cf77 rfl rfl (uint64 b 5 _ (fun i => if i < k then d (bo.toNat + i) else 0) _ hrd he hb.lt) ?_
      rintro _ w4 ⟨rfl, hs⟩
      replace hg := hg.same hs (by simp <;> omega)
      replace hr := hr.same hs (by simp <;> omega) (by simp <;> omega)
      replace hb := hb.same hs (by simp)
      replace hS := hS.trans hs (by simp)
      refine WR.nilCheckP rfl rfl ?_
      refine WR.field rfl fa152_1 rfl ?_
      refine WR.storeK rfl rfl rfl sz33 hb.c1 (hb.fz 1) ?_
      intro w5 hn hs
      replace hb := hb.s1 hn
      replace hg := hg.same hs (by simp <;> omega)
      replace hr := hr.same hs (by simp <;> omega) (by simp <;> omega)
      replace hS := hS.trans hs (by simp)
      clear hn hs
      refine WR.nil (WN.seq ?_)
      refine WC.seq (WC.region ?_)
      refine WR.assign rfl rfl ?_
      refine WR.nil (WN.seq ?_)
      refine WC.retR rfl rfl ?_
      have e1 : num (fun i => if i < k then d (bo.toNat + i) else 0) 8 = bts (num d len) (8 * bo.toNat) 64 := num_pad hr.small hk
      rw [e1] at hb
      refine ⟨rfl, ⟨raw2, ?_⟩, hS⟩
      rw [← hk]
      rw [show ((8 * k : Nat) : Int) = (k : Int) * 8 by omega]
      exact hb
end Go.Proofs.YthmknddfkmklfaaGreatDoor.Vm
