/- Single bits. -/
import Derived.Test.YtajgdpiodpoooaaGreatDoorFnK
namespace Go.Proofs.YtajgdpiodpoooaaGreatDoor.Vm
open Go Mix Go.RowKit Num
set_option maxRecDepth 20000
set_option linter.unusedSimpArgs false
theorem nat_and_bit (x k : Nat) : x &&& 2 ^ k = x / 2 ^ k % 2 * 2 ^ k := by
  have ht : x.testBit k = decide (x / 2 ^ k % 2 = 1) := Nat.testBit_eq_decide_div_mod_eq
  apply Nat.eq_of_testBit_eq
  intro i
  rw [Nat.testBit_and, Nat.testBit_two_pow]
  rcases Nat.mod_two_eq_zero_or_one (x / 2 ^ k) with h | h
  · rw [h, Nat.zero_mul, Nat.zero_testBit]
    by_cases hik : k = i
    · subst hik; simp [ht, h]
    · simp [hik]
  · rw [h, Nat.one_mul, Nat.testBit_two_pow]
    by_cases hik : k = i
    · subst hik; simp [ht, h]
    · simp [hik]
theorem and_bit64 {x k : Nat} (hx : x < 18446744073709551616) (hk : k < 64) : arith .and .u64 (x : Int) ((2 ^ k : Nat) : Int) = some (.int .u64 ((x / 2 ^ k % 2 * 2 ^ k : Nat) : Int)) := by
  have hp : 2 ^ k ≤ 2 ^ 63 := Nat.pow_le_pow_right (by decide) (by omega)
  have hm : x / 2 ^ k % 2 * 2 ^ k ≤ 1 * 2 ^ k := Nat.mul_le_mul_right _ (by omega)
  have e : (BitVec.ofInt IntKind.u64.bits (x : Int) &&& BitVec.ofInt IntKind.u64.bits ((2 ^ k : Nat) : Int)).toNat = x / 2 ^ k % 2 * 2 ^ k := by
    rw [BitVec.toNat_and, ofInt_toNat (by omega) (by show (x : Int) < (2 : Int) ^ 64; omega), ofInt_toNat (by omega) (by show ((2 ^ k : Nat) : Int) < (2 : Int) ^ 64; omega), Int.toNat_natCast, Int.toNat_natCast]
    exact nat_and_bit x k
  unfold arith
  simp only [e]
  rw [wrap_u64 (Int.natCast_nonneg _) (by omega)]
theorem and_bit8 {x k : Nat} (hx : x < 256) (hk : k < 8) : arith .and .u8 (x : Int) ((2 ^ k : Nat) : Int) = some (.int .u8 ((x / 2 ^ k % 2 * 2 ^ k : Nat) : Int)) := by
  have hp : 2 ^ k ≤ 2 ^ 7 := Nat.pow_le_pow_right (by decide) (by omega)
  have hm : x / 2 ^ k % 2 * 2 ^ k ≤ 1 * 2 ^ k := Nat.mul_le_mul_right _ (by omega)
  have e : (BitVec.ofInt IntKind.u8.bits (x : Int) &&& BitVec.ofInt IntKind.u8.bits ((2 ^ k : Nat) : Int)).toNat = x / 2 ^ k % 2 * 2 ^ k := by
    rw [BitVec.toNat_and, ofInt_toNat (by omega) (by show (x : Int) < (2 : Int) ^ 8; omega), ofInt_toNat (by omega) (by show ((2 ^ k : Nat) : Int) < (2 : Int) ^ 8; omega), Int.toNat_natCast, Int.toNat_natCast]
    exact nat_and_bit x k
  unfold arith
  simp only [e]
  rw [wrap_u8 (Int.natCast_nonneg _) (by omega)]
theorem neq_bit {ik : IntKind} (x k : Nat) : arith .neq ik ((x / 2 ^ k % 2 * 2 ^ k : Nat) : Int) 0 = some (.bool (x / 2 ^ k % 2 == 1)) := by
  have hp : 0 < 2 ^ k := Nat.pow_pos (by decide)
  unfold arith
  rcases Nat.mod_two_eq_zero_or_one (x / 2 ^ k) with h | h
  · simp [h]
  · simp only [h, Nat.one_mul]
    have h2 : (((2 ^ k : Nat) : Int) != 0) = true := by
      have h3 : ((2 ^ k : Nat) : Int) ≠ 0 := Int.ofNat_ne_zero.2 (by omega)
      exact bne_iff_ne.2 h3
    rw [h2]
    rfl
theorem shl1_64 {b : Int} (f : Nat) (hb : b = (f : Int)) (hf : f < 64) : IntKind.u64.wrap ((1 : Int) * 2 ^ min b.toNat IntKind.u64.bits) = ((2 ^ f : Nat) : Int) := by
  have hp : 2 ^ f ≤ 2 ^ 63 := Nat.pow_le_pow_right (by decide) (by omega)
  have := shl_nat 1 f hb (by omega) (by omega)
  simpa using this
theorem shl1_8 {b : Int} (f : Nat) (hb : b = (f : Int)) (hf : f < 8) : IntKind.u8.wrap ((1 : Int) * 2 ^ min b.toNat IntKind.u8.bits) = ((2 ^ f : Nat) : Int) := by
  have hp : 2 ^ f ≤ 2 ^ 7 := Nat.pow_le_pow_right (by decide) (by omega)
  subst hb
  rw [Int.toNat_natCast, show min f IntKind.u8.bits = f from Nat.min_eq_left (by show f ≤ 8; omega)]
  have e : (1 : Int) * 2 ^ f = ((2 ^ f : Nat) : Int) := by push_cast; simp
  rw [e]
  exact wrap_u8 (Int.natCast_nonneg _) (Int.le_trans (Int.ofNat_le.2 hp) (by decide))
theorem bit_of {B p q : Nat} (hq : q < 64) : bts B p 64 / 2 ^ q % 2 = bts B (p + q) 1 := by
  rw [div_of_bts _ _ _ (by omega), show (2 : Nat) = 2 ^ 1 from rfl, bts_mod (by omega)]
theorem zv1 (w : World) : (zeroValue 60).run Tryz.prog w = .ok (.agg #[.int .u8 0]) w := by kernel_rfl
theorem cf39 (us : Array Value) (w : World) : (callFunc 39 us).run Tryz.prog w = .ok (.enter 39 us) w := by kernel_rfl
theorem sz4 : (Tryz.prog.info? 4).map (·.size) = some 1 := by kernel_rfl
set_option maxHeartbeats 400000 in
theorem ensure {w : World} {aE aU aP : Addr} (hg : Glob w aE aU aP) (b rb db dO len cap bo bit : Nat) (B V p r : Int) (d : Nat → Nat) (raw unp : Nat → Value) (hb : BR w b rb B bo bit V raw unp) (hr : Src w rb db dO len cap p r d) (hbit : bit ≤ 64) (hlt : bo + bit / 8 < len) :
    Ret Tryz.prog 32 #[.pointer (some ⟨b, 0, none⟩)] w fun v w' => v = .nilIface ∧ Same [] w w' := by
  have hS := Same.refl [] w
  have hlen := hr.len_
  obtain ⟨nb, hnb⟩ : ∃ nb, nb = w.heap.size := ⟨_, rfl⟩
  have hsz := hg.size
  refine Ret.enter (vs := [.pointer (some ⟨b, 0, none⟩)]) Tryz.func32 Tryz.ntmps32 rfl rfl ?_
  refine WC.seq ?_
  refine WC.region ?_
  refine WR.assign rfl rfl ?_
  refine WR.nil ?_
  refine WN.seq ?_
  refine WC.seq ?_
  refine WC.region ?_
  refine WR.alloc zv1 rfl rfl ?_
  intro w1 hn hs
  have hx : Row w1 nb 60 1 (fun i => (#[.int .u8 0] : Array Value).getD i undef) := by rw [hn, hnb]; exact Row.alloc _ _ _
  rw [← hnb]
  replace hg := hg.same hs (by simp <;> omega)
  replace hr := hr.same hs (by simp <;> omega) (by simp <;> omega)
  replace hb := hb.same hs (by simp <;> omega)
  replace hS := hS.trans hs (by simp <;> omega)
  clear hn hs
  refine WR.nil ?_
  refine WN.seq ?_
  refine WC.seq ?_
  refine WC.mix [] mixed (by kernel_rfl) ?_
  replace hg := hg.same (Same.drew _) (by simp <;> omega)
  replace hr := hr.same (Same.drew _) (by simp <;> omega) (by simp <;> omega)
  replace hb := hb.same (Same.drew _) (by simp <;> omega)
  replace hS := hS.trans (Same.drew _) (by simp <;> omega)
  refine WR.move rfl rfl ?_
  refine WR.nilCheckP rfl rfl ?_
  refine WR.field rfl fa53_0 rfl ?_
  refine WR.load rfl Tryz.underlying48 rfl hb.c0 rfl ?_
  refine WR.sliceA rfl Tryz.underlying60 sz5 rfl rfl rfl ?_
  refine WR.move rfl rfl ?_
  refine WR.nilCheckP rfl rfl ?_
  refine WR.field rfl fa53_2 rfl ?_
  refine WR.load rfl Tryz.underlying2 rfl hb.c2 rfl ?_
  refine WR.move rfl rfl ?_
  refine WR.nilCheckP rfl rfl ?_
  refine WR.field rfl fa53_3 rfl ?_
  refine WR.load rfl Tryz.underlying44 rfl hb.c3 rfl ?_
  refine WR.bin rfl rfl (ar_quo (z := ((bit / 8 : Nat) : Int)) (by decide) (by rw [tdiv_pos (by omega), wrap_u64 (by omega) (by omega)]; omega)) rfl ?_
  first
    | (refine WR.conv rfl Tryz.underlying44 Tryz.underlying2 (wrap_i64 ?_ ?_) rfl ?_; (omega); (omega))
    | refine WR.conv rfl Tryz.underlying44 Tryz.underlying2 rfl rfl ?_
  (refine WR.bin rfl rfl (ar_add (z := ((bo + bit / 8 : Nat) : Int)) ?_) rfl ?_; (rw [wrap_i64 (by omega) (by omega)]; omega))
  refine WR.nilCheckI rfl rfl ?_
  refine WR.move rfl rfl ?_
  refine WR.invoke rfl rfl rfl mtRdr_ReadAt cf118 rfl rfl (readAt hg rb db dO len cap nb 0 1 1 _ 1 p r (bo + bit / 8 : Nat) d _ (by omega) hr.rd hr.data hr.nz (hx.same (Same.drew _) (by simp)) hr.cap_ (by omega) (by omega) (by omega) (by omega) (by omega)) ?_
  rintro _ w2 ⟨k, hk, rfl, hx', hs⟩
  replace hS := hS.trans hs (by simp <;> omega)
  rw [Int.toNat_natCast] at hk
  refine WR.move rfl rfl ?_
  refine WR.extract rfl rfl rfl ?_
  refine WR.extract rfl rfl rfl ?_
  refine WR.assign rfl rfl ?_
  refine WR.assign rfl rfl ?_
  refine WR.nil ?_
  refine WN.seq ?_
  refine WC.seq ?_
  refine WC.seq ?_
  refine WC.region ?_
  refine WR.move rfl rfl ?_
  refine WR.bin rfl rfl rfl rfl ?_
  refine WR.nil ?_
  refine WN.seq ?_
  refine WC.cond rfl (fun h476 => ?_) (fun h476 => ?_)
  · skip
    (try simp only [decide_eq_true_eq, decide_eq_false_iff_not, beq_iff_eq, beq_eq_false_iff_ne, bne_iff_ne, bne_eq_false_iff_eq, gt_iff_lt, ge_iff_le, Int.not_lt, Int.not_le, ne_eq, Bool.not_eq_true, Bool.not_eq_false, Bool.and_eq_true, Bool.and_eq_false_iff, Bool.or_eq_true, Bool.or_eq_false_iff] at h476)
    refine WC.seq ?_
    refine WC.region ?_
    refine WR.assign rfl rfl ?_
    refine WR.nil ?_
    refine WN.seq ?_
    refine WC.retR rfl rfl ?_
    exact ⟨rfl, hS⟩
  · skip
    (try simp only [decide_eq_true_eq, decide_eq_false_iff_not, beq_iff_eq, beq_eq_false_iff_ne, bne_iff_ne, bne_eq_false_iff_eq, gt_iff_lt, ge_iff_le, Int.not_lt, Int.not_le, ne_eq, Bool.not_eq_true, Bool.not_eq_false, Bool.and_eq_true, Bool.and_eq_false_iff, Bool.or_eq_true, Bool.or_eq_false_iff] at h476)
    omega

set_option maxHeartbeats 400000 in
theorem nextBool {w : World} {aE aU aP : Addr} (hg : Glob w aE aU aP) (b rb db dO len cap bo bit : Nat) (p r : Int) (d : Nat → Nat) (raw unp : Nat → Value) (hb : BR w b rb (bts (num d len) (8 * bo) 64 : Nat) bo bit (8 * min (len - bo) 8 : Nat) raw unp) (hr : Src w rb db dO len cap p r d) (hbit : bit ≤ 64) (hfit : 8 * bo + bit + 1 ≤ 8 * len) (hgb : 7 ≤ b) (hne : b ≠ rb) (hnd : b ≠ db) :
    Ret Tryz.prog 33 #[.pointer (some ⟨b, 0, none⟩)] w fun v w' => v = .tuple #[.bool (bts (num d len) (8 * bo + bit) 1 == 1), .nilIface] ∧ (∃ (bo' bit' : Nat) (raw' : Nat → Value), BR w' b rb (bts (num d len) (8 * bo') 64 : Nat) (bo' : Nat) (bit' : Nat) (8 * min (len - bo') 8 : Nat) raw' unp ∧ 8 * bo' + bit' = 8 * bo + bit + 1 ∧ 1 ≤ bit' ∧ bit' ≤ 64) ∧ Same [b] w w' := by
  have hS := Same.refl [b] w
  have hlen := hr.len_
  refine Ret.enter (vs := [.pointer (some ⟨b, 0, none⟩)]) Tryz.func33 Tryz.ntmps33 rfl rfl ?_
  refine WC.seq ?_
  refine WC.region ?_
  refine WR.assign rfl rfl ?_
  refine WR.assign rfl rfl ?_
  refine WR.nil ?_
  refine WN.seq ?_
  refine WC.seq ?_
  refine WC.cut (fun _ : Nat × Nat => [(0, .pointer (some ⟨b, 0, none⟩))]) (fun x w' => Glob w' aE aU aP ∧ Src w' rb db dO len cap p r d ∧ Same [b] w w' ∧ x.2 < 64 ∧ 8 * x.1 + x.2 = 8 * bo + bit ∧ ∃ raw', BR w' b rb (bts (num d len) (8 * x.1) 64 : Nat) x.1 x.2 (8 * min (len - x.1) 8 : Nat) raw' unp) ?_ ?_
  · skip
    refine WC.seq ?_
    refine WC.region ?_
    refine WR.move rfl rfl ?_
    refine WR.nilCheckP rfl rfl ?_
    refine WR.field rfl fa53_3 rfl ?_
    refine WR.load rfl Tryz.underlying44 rfl hb.c3 rfl ?_
    refine WR.bin rfl rfl rfl rfl ?_
    refine WR.nil ?_
    refine WN.seq ?_
    refine WC.cond rfl (fun h287 => ?_) (fun h287 => ?_)
    · skip
      (try simp only [decide_eq_true_eq, decide_eq_false_iff_not, beq_iff_eq, beq_eq_false_iff_ne, bne_iff_ne, bne_eq_false_iff_eq, gt_iff_lt, ge_iff_le, Int.not_lt, Int.not_le, ne_eq, Bool.not_eq_true, Bool.not_eq_false, Bool.and_eq_true, Bool.and_eq_false_iff, Bool.or_eq_true, Bool.or_eq_false_iff] at h287)
      have hb64 : bit = 64 := by omega
      refine WC.seq ?_
      refine WC.region ?_
      refine WR.move rfl rfl ?_
      refine WR.nilCheckP rfl rfl ?_
      refine WR.field rfl fa53_2 rfl ?_
      refine WR.load rfl Tryz.underlying2 rfl hb.c2 rfl ?_
      (refine WR.bin rfl rfl (ar_add (z := ((bo + 8 : Nat) : Int)) ?_) rfl ?_; (rw [wrap_i64 (by omega) (by omega)]; omega))
      refine WR.nilCheckP rfl rfl ?_
      refine WR.field rfl fa53_2 rfl ?_
      refine WR.storeK rfl rfl rfl sz2 hb.c2 (hb.fz 2) ?_
      intro w1 hn hs
      replace hb := hb.s2 hn
      replace hg := hg.same hs (by simp <;> omega)
      replace hr := hr.same hs (by simp <;> omega) (by simp <;> omega)
      replace hS := hS.trans hs (by simp)
      clear hn hs
      refine WR.nil ?_
      refine WN.seq ?_
      refine WC.seq ?_
      refine WC.region ?_
      refine WR.move rfl rfl ?_
      refine WR.nilCheckP rfl rfl ?_
      refine WR.field rfl fa53_3 rfl ?_
      refine WR.storeK rfl rfl rfl sz44 hb.c3 (hb.fz 3) ?_
      intro w2 hn hs
      replace hb := hb.s3 hn
      replace hg := hg.same hs (by simp <;> omega)
      replace hr := hr.same hs (by simp <;> omega) (by simp <;> omega)
      replace hS := hS.trans hs (by simp)
      clear hn hs
      refine WR.nil ?_
      refine WN.seq ?_
      refine WC.seq ?_
      refine WC.region ?_
      refine WR.move rfl rfl ?_
      refine WR.callF rfl rfl cf18 rfl rfl (fillbuffer hg b rb db dO len cap _ _ _ _ p r d _ _ hb hr (by omega) (by omega) hgb hne hnd) ?_
      rintro _ w3 ⟨rfl, ⟨raw2, hb'⟩, hs⟩
      replace hb := hb'
      clear hb'
      simp only [Int.toNat_natCast] at hb
      replace hg := hg.same hs (by simp <;> omega)
      replace hr := hr.same hs (by simp <;> omega) (by simp <;> omega)
      replace hS := hS.trans hs (by simp)
      refine WR.assign rfl rfl ?_
      refine WR.nil ?_
      refine WN.seq ?_
      refine WC.seq ?_
      refine WC.region ?_
      refine WR.move rfl rfl ?_
      refine WR.neqNil rfl rfl Tryz.underlying41 rfl ?_
      refine WR.nil ?_
      refine WN.seq ?_
      refine WC.cond rfl (fun h290 => ?_) (fun h290 => ?_)
      · skip
        cases h290
      · skip
        (try simp only [decide_eq_true_eq, decide_eq_false_iff_not, beq_iff_eq, beq_eq_false_iff_ne, bne_iff_ne, bne_eq_false_iff_eq, gt_iff_lt, ge_iff_le, Int.not_lt, Int.not_le, ne_eq, Bool.not_eq_true, Bool.not_eq_false, Bool.and_eq_true, Bool.and_eq_false_iff, Bool.or_eq_true, Bool.or_eq_false_iff] at h290)
        refine WC.skip ?_
        exact WN.loop 0 (bo + 8, 0) (by decide) ⟨rfl, trivial⟩ ⟨hg, hr, hS, by show 0 < 64; omega, by show 8 * (bo + 8) + 0 = _; omega, raw2, hb⟩
    · skip
      (try simp only [decide_eq_true_eq, decide_eq_false_iff_not, beq_iff_eq, beq_eq_false_iff_ne, bne_iff_ne, bne_eq_false_iff_eq, gt_iff_lt, ge_iff_le, Int.not_lt, Int.not_le, ne_eq, Bool.not_eq_true, Bool.not_eq_false, Bool.and_eq_true, Bool.and_eq_false_iff, Bool.or_eq_true, Bool.or_eq_false_iff] at h287)
      refine WC.skip ?_
      exact WN.loop 0 (bo, bit) (by decide) ⟨rfl, trivial⟩ ⟨hg, hr, hS, by show bit < 64; omega, rfl, raw, hb⟩
  · skip
    clear hg hr hS hb
    rintro ⟨bo1, bit1⟩ w9 ⟨hg, hr, hS, hlt, hpos, raw1, hb⟩
    simp only [] at hlt hpos hb
    rw [← hpos]
    have hv64 := bts_lt (num d len) (8 * bo1) 64
    refine WN.seq ?_
    refine WC.seq ?_
    refine WC.mix [] mixed (by kernel_rfl) ?_
    replace hg := hg.same (Same.drew _) (by simp <;> omega)
    replace hr := hr.same (Same.drew _) (by simp <;> omega) (by simp <;> omega)
    replace hb := hb.same (Same.drew _) (by simp)
    replace hS := hS.trans (Same.drew _) (by simp)
    refine WR.move rfl rfl ?_
    refine WR.nilCheckP rfl rfl ?_
    refine WR.field rfl fa53_1 rfl ?_
    refine WR.load rfl Tryz.underlying28 rfl hb.c1 rfl ?_
    refine WR.move rfl rfl ?_
    refine WR.nilCheckP rfl rfl ?_
    refine WR.field rfl fa53_3 rfl ?_
    refine WR.load rfl Tryz.underlying44 rfl hb.c3 rfl ?_
    refine WR.shl rfl rfl (by omega) (shl1_64 bit1 rfl hlt) rfl ?_
    refine WR.bin rfl rfl (and_bit64 hv64 hlt) rfl ?_
    refine WR.bin rfl rfl (neq_bit _ _) rfl ?_
    refine WR.assign rfl rfl ?_
    refine WR.nil ?_
    refine WN.seq ?_
    refine WC.seq ?_
    refine WC.region ?_
    refine WR.move rfl rfl ?_
    refine WR.nilCheckP rfl rfl ?_
    refine WR.field rfl fa53_3 rfl ?_
    refine WR.load rfl Tryz.underlying44 rfl hb.c3 rfl ?_
    (refine WR.bin rfl rfl (ar_add (z := ((bit1 + 1 : Nat) : Int)) ?_) rfl ?_; (rw [wrap_u64 (by omega) (by omega)]; omega))
    refine WR.nilCheckP rfl rfl ?_
    refine WR.field rfl fa53_3 rfl ?_
    refine WR.storeK rfl rfl rfl sz44 hb.c3 (hb.fz 3) ?_
    intro w1 hn hs
    replace hb := hb.s3 hn
    replace hg := hg.same hs (by simp <;> omega)
    replace hr := hr.same hs (by simp <;> omega) (by simp <;> omega)
    replace hS := hS.trans hs (by simp)
    clear hn hs
    refine WR.nil ?_
    refine WN.seq ?_
    refine WC.seq ?_
    refine WC.region ?_
    refine WR.move rfl rfl ?_
    refine WR.assign rfl rfl ?_
    refine WR.assign rfl rfl ?_
    refine WR.nil ?_
    refine WN.seq ?_
    refine WC.retR rfl rfl ?_
    rw [bit_of hlt]
    exact ⟨rfl, ⟨bo1, bit1 + 1, raw1, hb, by omega, by omega, by omega⟩, hS⟩

set_option maxHeartbeats 400000 in
theorem bytesToBoolsGo {w : World} (s so sc m g o L dc t N : Nat) (e : Nat → Nat) (f : Nat → Value) (hd : Rd w s so m (byt e)) (he : ∀ i, i < m → e i < 256) (hlt : s < w.heap.size) (hF : Row w g t N f) (hoL : o + 8 * m ≤ N) (hLm : 8 * m ≤ L) (hL : L ≤ 1099511627776) (hne : s ≠ g) :
    Ret Tryz.prog 39 #[.slice (some ⟨s, so, none⟩) m sc, .slice (some ⟨g, o, none⟩) L dc] w fun v w' => v = .tuple #[] ∧ (∃ F, Row w' g t N F ∧ Put F f o (8 * m) (8 * m) (fun j => Value.bool (e (j / 8) / 2 ^ (j % 8) % 2 == 1))) ∧ Same [g] w w' := by
  have hS := Same.refl [g] w
  have hput := Put.zero f o (8 * m) (fun j => Value.bool (e (j / 8) / 2 ^ (j % 8) % 2 == 1))
  refine Ret.enter (vs := [.slice (some ⟨s, so, none⟩) m sc, .slice (some ⟨g, o, none⟩) L dc]) Tryz.func39 Tryz.ntmps39 rfl rfl ?_
  refine WC.seq ?_
  refine WC.region ?_
  refine WR.move rfl rfl ?_
  refine WR.lenS rfl Tryz.underlying22 rfl ?_
  refine WR.move rfl rfl ?_
  refine WR.nil ?_
  refine WN.seq ?_
  refine WC.block ?_
  refine WC.loop (fun i : Nat => [(10, .int .i64 (i : Nat)), (9, .int .i64 (m : Nat)), (8, .slice (some ⟨s, so, none⟩) m sc), (0, .slice (some ⟨s, so, none⟩) m sc), (1, .slice (some ⟨g, o, none⟩) L dc)]) (fun k i w' => i + k = m ∧ Rd w' s so m (byt e) ∧ s < w'.heap.size ∧ (∃ F, Row w' g t N F ∧ Put F f o (8 * m) (8 * i) (fun j => Value.bool (e (j / 8) / 2 ^ (j % 8) % 2 == 1))) ∧ Same [g] w w') m 0 ⟨rfl, rfl, rfl, rfl, rfl, trivial⟩ ⟨by omega, hd, hlt, ⟨f, hF, hput⟩, hS⟩ ?_
  clear hd hlt hF hput hS
  rintro k i w1 ⟨hk, hd, hlt, ⟨F, hF, hput⟩, hS⟩
  refine WC.seq ?_
  refine WC.region ?_
  refine WR.bin rfl rfl rfl rfl ?_
  refine WR.nil ?_
  refine WN.seq ?_
  refine WC.seq ?_
  refine WC.cond rfl (fun h21 => ?_) (fun h21 => ?_)
  · skip
    (try simp only [decide_eq_true_eq, decide_eq_false_iff_not, beq_iff_eq, beq_eq_false_iff_ne, bne_iff_ne, bne_eq_false_iff_eq, gt_iff_lt, ge_iff_le, Int.not_lt, Int.not_le, ne_eq, Bool.not_eq_true, Bool.not_eq_false, Bool.and_eq_true, Bool.and_eq_false_iff, Bool.or_eq_true, Bool.or_eq_false_iff] at h21)
    refine WC.skip ?_
    refine WN.seq ?_
    refine WC.seq ?_
    refine WC.block ?_
    refine WC.seq ?_
    refine WC.region ?_
    refine WR.move rfl rfl ?_
    refine WR.idxK (i) rfl rfl Tryz.underlying22 sz5 (by omega) (by omega) rfl ?_
    refine WR.load rfl Tryz.underlying5 rfl (hd i (by omega)) rfl ?_
    refine WR.assign rfl rfl ?_
    refine WR.assign rfl rfl ?_
    refine WR.nil ?_
    refine WN.seq ?_
    refine WC.seq ?_
    refine WC.region ?_
    refine WR.assign rfl rfl ?_
    refine WR.nil ?_
    refine WN.seq ?_
    refine WC.block ?_
    refine WC.loop (fun j : Nat => [(6, .int .i64 (j : Nat)), (4, .int .i64 (i : Nat)), (5, .int .u8 (e i : Nat)), (10, .int .i64 (i : Nat)), (9, .int .i64 (m : Nat)), (8, .slice (some ⟨s, so, none⟩) m sc), (0, .slice (some ⟨s, so, none⟩) m sc), (1, .slice (some ⟨g, o, none⟩) L dc)]) (fun k j w' => j + k = 8 ∧ Rd w' s so m (byt e) ∧ s < w'.heap.size ∧ (∃ F, Row w' g t N F ∧ Put F f o (8 * m) (8 * i + j) (fun j => Value.bool (e (j / 8) / 2 ^ (j % 8) % 2 == 1))) ∧ Same [g] w w') 8 0 ⟨rfl, rfl, rfl, rfl, rfl, rfl, rfl, rfl, trivial⟩ ⟨rfl, hd, hlt, ⟨F, hF, hput⟩, hS⟩ ?_
    clear hd hlt hF hput hS
    rintro k2 j w2 ⟨hk2, hd, hlt, ⟨F, hF, hput⟩, hS⟩
    refine WC.seq ?_
    refine WC.seq ?_
    refine WC.region ?_
    refine WR.move rfl rfl ?_
    refine WR.bin rfl rfl rfl rfl ?_
    refine WR.nil ?_
    refine WN.seq ?_
    refine WC.cond rfl (fun h22 => ?_) (fun h22 => ?_)
    · skip
      (try simp only [decide_eq_true_eq, decide_eq_false_iff_not, beq_iff_eq, beq_eq_false_iff_ne, bne_iff_ne, bne_eq_false_iff_eq, gt_iff_lt, ge_iff_le, Int.not_lt, Int.not_le, ne_eq, Bool.not_eq_true, Bool.not_eq_false, Bool.and_eq_true, Bool.and_eq_false_iff, Bool.or_eq_true, Bool.or_eq_false_iff] at h22)
      refine WC.skip ?_
      refine WN.seq ?_
      refine WC.seq ?_
      refine WC.block ?_
      refine WC.seq ?_
      refine WC.region ?_
      refine WR.move rfl rfl ?_
      (refine WR.bin rfl rfl (ar_mul (z := ((8 * i : Nat) : Int)) ?_) rfl ?_; (rw [wrap_i64 (by omega) (by omega)]; omega))
      refine WR.move rfl rfl ?_
      (refine WR.bin rfl rfl (ar_add (z := ((8 * i + j : Nat) : Int)) ?_) rfl ?_; (rw [wrap_i64 (by omega) (by omega)]; omega))
      refine WR.assign rfl rfl ?_
      refine WR.nil ?_
      refine WN.seq ?_
      refine WC.seq ?_
      refine WC.seq ?_
      refine WC.region ?_
      refine WR.move rfl rfl ?_
      refine WR.move rfl rfl ?_
      refine WR.lenS rfl Tryz.underlying66 rfl ?_
      refine WR.bin rfl rfl rfl rfl ?_
      refine WR.nil ?_
      refine WN.seq ?_
      refine WC.cond rfl (fun h24 => ?_) (fun h24 => ?_)
      · skip
        (try simp only [decide_eq_true_eq, decide_eq_false_iff_not, beq_iff_eq, beq_eq_false_iff_ne, bne_iff_ne, bne_eq_false_iff_eq, gt_iff_lt, ge_iff_le, Int.not_lt, Int.not_le, ne_eq, Bool.not_eq_true, Bool.not_eq_false, Bool.and_eq_true, Bool.and_eq_false_iff, Bool.or_eq_true, Bool.or_eq_false_iff] at h24)
        omega
      · skip
        (try simp only [decide_eq_true_eq, decide_eq_false_iff_not, beq_iff_eq, beq_eq_false_iff_ne, bne_iff_ne, bne_eq_false_iff_eq, gt_iff_lt, ge_iff_le, Int.not_lt, Int.not_le, ne_eq, Bool.not_eq_true, Bool.not_eq_false, Bool.and_eq_true, Bool.and_eq_false_iff, Bool.or_eq_true, Bool.or_eq_false_iff] at h24)
        refine WC.skip ?_
        refine WN.seq ?_
        refine WC.region ?_
        refine WR.move rfl rfl ?_
        refine WR.move rfl rfl ?_
        refine WR.move rfl rfl ?_
        refine WR.move rfl rfl ?_
        refine WR.shl rfl rfl (by omega) (shl1_8 j rfl (by omega)) rfl ?_
        refine WR.bin rfl rfl (and_bit8 (he i (by omega)) (by omega)) rfl ?_
        refine WR.bin rfl rfl (neq_bit _ _) rfl ?_
        refine WR.idxK (8 * i + j) rfl rfl Tryz.underlying66 sz4 (by omega) (by omega) rfl ?_
        refine WR.storeK rfl rfl rfl sz4 (hF.cell (by omega)) (hF.fz _) ?_
        intro w3 hn hs
        replace hF := hF.set' hn
        replace hd := hd.same hs (by simp <;> omega) hlt
        replace hlt := Nat.lt_of_lt_of_le hlt hs.size
        replace hS := hS.trans hs (by simp)
        clear hn hs
        refine WR.nil ?_
        refine WN.block ?_
        refine WN.seq ?_
        refine WC.region ?_
        refine WR.move rfl rfl ?_
        first
          | (refine WR.bin rfl rfl (ar_add (wrap_i64 ?_ ?_)) rfl ?_; (omega); (omega))
          | refine WR.bin rfl rfl (ar_add rfl) rfl ?_
        refine WR.assign rfl rfl ?_
        refine WR.nil ?_
        exact WN.loop (k2 - 1) (j + 1) (by omega) ⟨kint rfl (by omega), rfl, rfl, rfl, rfl, rfl, rfl, rfl, trivial⟩ ⟨by omega, hd, hlt, ⟨_, hF, hput.step (by omega) (by rw [show (8 * i + j) / 8 = i by omega, show (8 * i + j) % 8 = j by omega])⟩, hS⟩
    · skip
      (try simp only [decide_eq_true_eq, decide_eq_false_iff_not, beq_iff_eq, beq_eq_false_iff_ne, bne_iff_ne, bne_eq_false_iff_eq, gt_iff_lt, ge_iff_le, Int.not_lt, Int.not_le, ne_eq, Bool.not_eq_true, Bool.not_eq_false, Bool.and_eq_true, Bool.and_eq_false_iff, Bool.or_eq_true, Bool.or_eq_false_iff] at h22)
      obtain rfl : j = 8 := by omega
      refine WC.exit rfl ?_
      refine WN.block ?_
      refine WN.seq ?_
      refine WC.region ?_
      first
        | (refine WR.bin rfl rfl (ar_add (wrap_i64 ?_ ?_)) rfl ?_; (omega); (omega))
        | refine WR.bin rfl rfl (ar_add rfl) rfl ?_
      refine WR.move rfl rfl ?_
      refine WR.nil ?_
      exact WN.loop (k - 1) (i + 1) (by omega) ⟨kint rfl (by omega), rfl, rfl, rfl, rfl, trivial⟩ ⟨by omega, hd, hlt, ⟨F, hF, hput⟩, hS⟩
  · skip
    (try simp only [decide_eq_true_eq, decide_eq_false_iff_not, beq_iff_eq, beq_eq_false_iff_ne, bne_iff_ne, bne_eq_false_iff_eq, gt_iff_lt, ge_iff_le, Int.not_lt, Int.not_le, ne_eq, Bool.not_eq_true, Bool.not_eq_false, Bool.and_eq_true, Bool.and_eq_false_iff, Bool.or_eq_true, Bool.or_eq_false_iff] at h21)
    obtain rfl : i = m := by omega
    refine WC.exit rfl ?_
    refine WN.endR rfl rfl ?_
    exact ⟨rfl, ⟨F, hF, hput⟩, hS⟩

theorem bytesToBools {w : World} (s so sc m g o L dc t N : Nat) (e : Nat → Nat) (f : Nat → Value) (hd : Rd w s so m (byt e)) (he : ∀ i, i < m → e i < 256) (hlt : s < w.heap.size) (hF : Row w g t N f) (hoL : o + 8 * m ≤ N) (hLm : 8 * m ≤ L) (hL : L ≤ 1099511627776) (hne : s ≠ g) :
    Ret Tryz.prog 34 #[.slice (some ⟨s, so, none⟩) m sc, .slice (some ⟨g, o, none⟩) L dc] w fun v w' => v = .tuple #[] ∧ (∃ F, Row w' g t N F ∧ Put F f o (8 * m) (8 * m) (fun j => Value.bool (e (j / 8) / 2 ^ (j % 8) % 2 == 1))) ∧ Same [g] w w' := by
  refine Ret.enter (vs := [.slice (some ⟨s, so, none⟩) m sc, .slice (some ⟨g, o, none⟩) L dc]) Tryz.func34 Tryz.ntmps34 rfl rfl ?_
  refine WC.region ?_
  refine WR.move rfl rfl ?_
  refine WR.move rfl rfl ?_
  refine WR.callF rfl rfl cf39 rfl rfl (bytesToBoolsGo s so sc m g o L dc t N e f hd he hlt hF hoL hLm hL hne) ?_
  rintro _ w1 ⟨rfl, h⟩
  refine WR.nil ?_
  refine WN.endR rfl rfl ?_
  exact ⟨rfl, h⟩

end Go.Proofs.YtajgdpiodpoooaaGreatDoor.Vm
