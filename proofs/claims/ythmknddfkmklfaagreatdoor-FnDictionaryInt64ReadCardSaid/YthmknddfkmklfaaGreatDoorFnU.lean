/- Aligned reads: a byte, two, three; a number in groups of seven bits. -/
import Derived.Test.YthmknddfkmklfaaGreatDoorFnP
import Derived.Test.YthmknddfkmklfaaGreatDoorRle
import Derived.Test.YthmknddfkmklfaaGreatDoorVmCall
namespace Go.Proofs.YthmknddfkmklfaaGreatDoor.Vm
open Go Mix Go.RowKit Num
set_option maxRecDepth 20000
set_option linter.unusedSimpArgs false
theorem au_zv (w : World) : (zeroValue 5).run Tryz.prog w = .ok (.int .u8 0) w := by kernel_rfl
theorem ar_or16 {a c D : Int} (k : Nat) (hD : D = ((2 ^ k : Nat) : Int)) (h0 : 0 ≤ a) (h1 : a < D) (hc : 0 ≤ c) (h2 : a + c * D < 65536) : arith .or .u16 a (c * D) = some (.int .u16 (a + c * D)) := by
  have hcD : 0 ≤ c * D := Int.mul_nonneg hc (by rw [hD]; exact Int.natCast_nonneg _)
  obtain ⟨a', rfl⟩ := Int.eq_ofNat_of_zero_le h0
  obtain ⟨c', rfl⟩ := Int.eq_ofNat_of_zero_le hc
  have hlt : a' < 2 ^ k := by rw [hD] at h1; exact_mod_cast h1
  have e : (BitVec.ofInt IntKind.u16.bits (a' : Int) ||| BitVec.ofInt IntKind.u16.bits ((c' : Int) * D)).toNat = a' + c' * 2 ^ k := by
    have hmul : ((c' : Int) * D).toNat = c' * 2 ^ k := by rw [hD]; exact_mod_cast Int.toNat_natCast (c' * 2 ^ k)
    rw [BitVec.toNat_or, ofInt_toNat (by omega) (by show _ < (2 : Int) ^ 16; omega), ofInt_toNat hcD (by show _ < (2 : Int) ^ 16; omega), hmul, Int.toNat_natCast]
    have := Nat.two_pow_add_eq_or_of_lt hlt c'
    rw [Nat.or_comm, Nat.mul_comm c', ← this, Nat.add_comm]
  unfold arith
  simp only [e]
  congr 2
  rw [hD]
  have : ((a' + c' * 2 ^ k : Nat) : Int) = (a' : Int) + (c' : Int) * ((2 ^ k : Nat) : Int) := by push_cast; rfl
  rw [this, ← hD]
  exact wrap_u16 (by omega) (by omega)
theorem and_127 {a : Nat} (h : a < 256) : arith .and .u8 (a : Int) 127 = some (.int .u8 ((a % 128 : Nat) : Int)) := by
  have e : (BitVec.ofInt IntKind.u8.bits (a : Int) &&& BitVec.ofInt IntKind.u8.bits 127).toNat = a % 128 := by
    rw [BitVec.toNat_and, ofInt_toNat (by omega) (by show _ < (2 : Int) ^ 8; omega), ofInt_toNat (by omega) (by show _ < (2 : Int) ^ 8; omega), Int.toNat_natCast]
    exact Nat.and_two_pow_sub_one_eq_mod a 7
  unfold arith
  simp only [e]
  rw [wrap_u8 (by omega) (by omega)]
theorem cf118 (us : Array Value) (w : World) : (callFunc 118 us).run Tryz.prog w = .ok (.enter 118 us) w := by kernel_rfl
theorem cf79 (us : Array Value) (w : World) : (callFunc 79 us).run Tryz.prog w = .ok (.enter 79 us) w := by kernel_rfl
theorem cf81 (us : Array Value) (w : World) : (callFunc 81 us).run Tryz.prog w = .ok (.enter 81 us) w := by kernel_rfl
theorem sz114 : (Tryz.prog.info? 114).map (·.size) = some 1 := by kernel_rfl
set_option maxHeartbeats 200000 in
theorem memsetGo {w : World} (g o L dc t n : Nat) (c : Int) (f : Nat → Value) (hF : Row w g t n f) (hfit : o + L ≤ n) (hL : L ≤ 1099511627776) :
    Ret Tryz.prog 118 #[.slice (some ⟨g, o, none⟩) L dc, .int .u8 c] w fun v w' => v = .tuple #[] ∧ (∃ F, Row w' g t n F ∧ Put F f o L L (fun _ => .int .u8 c)) ∧ Same [g] w w' := by
  have hS := Same.refl [g] w
  have hput := Put.zero f o L (fun _ => Value.int .u8 c)
  refine Ret.enter (vs := [.slice (some ⟨g, o, none⟩) L dc, .int .u8 c]) Tryz.func118 Tryz.ntmps118 rfl rfl ?_
  refine WC.seq (WC.region ?_)
  refine WR.assign rfl rfl ?_
  refine WR.nil (WN.seq (WC.block ?_))
  refine WC.loop (fun i : Nat => [(0, .slice (some ⟨g, o, none⟩) L dc), (1, .int .u8 c), (4, .int .i64 (i : Nat))]) (fun m i w' => i + m = L ∧ Same [g] w w' ∧ ∃ F, Row w' g t n F ∧ Put F f o L i (fun _ => .int .u8 c)) L 0 ⟨rfl, rfl, rfl, trivial⟩ ⟨by omega, hS, _, hF, hput⟩ ?_
  clear hS hF hput
  rintro m i w1 ⟨hm, hS, F, hF, hput⟩
  refine WC.seq (WC.seq (WC.region ?_))
  refine WR.move rfl rfl ?_
  refine WR.move rfl rfl ?_
  refine WR.lenS rfl Tryz.underlying28 rfl ?_
  refine WR.bin rfl rfl rfl rfl ?_
  refine WR.nil (WN.seq ?_)
  refine WC.cond rfl (fun h26 => ?_) (fun h26 => ?_)
  · skip
    simp only [decide_eq_true_eq] at h26
    refine WC.skip (WN.seq ?_)
    refine WC.seq (WC.block (WC.region ?_))
    refine WR.move rfl rfl ?_
    refine WR.move rfl rfl ?_
    refine WR.move rfl rfl ?_
    refine WR.idx rfl rfl Tryz.underlying28 sz5 (by omega) (by omega) rfl ?_
    refine WR.storeK rfl rfl rfl sz5 (hF.cell (by omega)) (hF.fz _) ?_
    intro w2 hn hs
    replace hF := hF.set' hn
    replace hS := hS.trans hs (by simp)
    clear hn hs
    refine WR.nil (WN.block ?_)
    refine WN.seq (WC.region ?_)
    refine WR.move rfl rfl ?_
    (refine WR.bin rfl rfl (ar_add (wrap_i64 ?_ ?_)) rfl ?_; (omega); (omega))
    refine WR.assign rfl rfl ?_
    refine WR.nil ?_
    exact WN.loop (m - 1) (i + 1) (by omega) ⟨rfl, rfl, kint rfl (by omega), trivial⟩ ⟨by omega, hS, _, hF, (by rw [Nat.mul_one]; exact hput.step (by omega) rfl)⟩
  · skip
    simp only [decide_eq_false_iff_not, Int.not_lt] at h26
    obtain rfl : i = L := by omega
    refine WC.exit rfl ?_
    refine WN.endR rfl rfl ?_
    exact ⟨rfl, ⟨F, hF, hput⟩, hS⟩

set_option maxHeartbeats 200000 in
theorem memset {w : World} (g o L dc t n : Nat) (c : Int) (f : Nat → Value) (hF : Row w g t n f) (hfit : o + L ≤ n) (hL : L ≤ 1099511627776) :
    Ret Tryz.prog 79 #[.slice (some ⟨g, o, none⟩) L dc, .int .u8 c] w fun v w' => v = .tuple #[] ∧ (∃ F, Row w' g t n F ∧ Put F f o L L (fun _ => .int .u8 c)) ∧ Same [g] w w' := by
  refine Ret.enter (vs := [.slice (some ⟨g, o, none⟩) L dc, .int .u8 c]) Tryz.func79 Tryz.ntmps79 rfl rfl ?_
  refine WC.region ?_
  refine WR.move rfl rfl ?_
  refine WR.move rfl rfl ?_
  refine WR.callF rfl rfl cf118 rfl rfl (memsetGo g o L dc t n c f hF hfit hL) ?_
  rintro _ w1 ⟨rfl, hF, hS⟩
  refine WR.nil ?_
  refine WN.endR rfl rfl ?_
  exact ⟨rfl, hF, hS⟩

theorem uint16 {w : World} (g o dc : Nat) (e : Nat → Nat) (z : Value) (hd : Rd w g o 2 (byt e)) (he : ∀ i, i < 2 → e i < 256) (hlt : g < w.heap.size) :
    Ret Tryz.prog 81 #[z, .slice (some ⟨g, o, none⟩) 2 dc] w fun v w' => v = .int .u16 (num e 2) ∧ Same [] w w' := by
  have hS := Same.refl [] w
  have e0 := he 0 (by decide)
  have e1 := he 1 (by decide)
  refine Ret.enter (vs := [z, .slice (some ⟨g, o, none⟩) 2 dc]) Tryz.func81 Tryz.ntmps81 rfl rfl ?_
  refine WC.seq (WC.region ?_)
  refine WR.box rfl rfl rfl ?_
  intro w1 hn hs
  replace hd := hd.same hs (by simp) hlt
  replace hlt := Nat.lt_of_lt_of_le hlt hs.size
  replace hS := hS.trans hs (by simp)
  clear hn hs
  refine WR.assign rfl rfl ?_
  refine WR.nil (WN.seq ?_)
  refine WC.seq (WC.region ?_)
  refine WR.move rfl rfl ?_
  refine WR.idx rfl rfl Tryz.underlying28 sz5 (by decide) (by decide) rfl ?_
  refine WR.load rfl Tryz.underlying5 rfl (hd 1 (by decide)) rfl ?_
  refine WR.nil (WN.seq (WC.seq ?_))
  refine WC.mix [] mixed (by kernel_rfl) ?_
  replace hd := hd.same (Same.drew _) (by simp) hlt
  replace hlt := Nat.lt_of_lt_of_le hlt (Same.drew _).size
  replace hS := hS.trans (Same.drew _) (by simp)
  refine WR.move rfl rfl ?_
  refine WR.idx rfl rfl Tryz.underlying28 sz5 (by decide) (by decide) rfl ?_
  refine WR.load rfl Tryz.underlying5 rfl (hd 0 (by decide)) rfl ?_
  (refine WR.conv rfl Tryz.underlying5 Tryz.underlying114 (wrap_u16 ?_ ?_) rfl ?_; (omega); (omega))
  refine WR.move rfl rfl ?_
  refine WR.idx rfl rfl Tryz.underlying28 sz5 (by decide) (by decide) rfl ?_
  refine WR.load rfl Tryz.underlying5 rfl (hd 1 (by decide)) rfl ?_
  (refine WR.conv rfl Tryz.underlying5 Tryz.underlying114 (wrap_u16 ?_ ?_) rfl ?_; (omega); (omega))
  (refine WR.shl rfl rfl (by decide) (shl_c (D := 256) rfl (wrap_u16 ?_ ?_)) rfl ?_; (omega); (omega))
  refine WR.bin rfl rfl (ar_or16 (D := 256) 8 rfl ?_ ?_ ?_ ?_) rfl ?_; (omega); (omega); (omega); (omega)
  refine WR.assign rfl rfl ?_
  refine WR.nil (WN.seq ?_)
  refine WC.retR rfl rfl ?_
  refine ⟨?_, hS⟩
  refine congrArg (Value.int IntKind.u16) ?_
  rw [num_succ, num_succ]
  simp [num]

set_option maxHeartbeats 400000 in
theorem aligned8 {w : World} {aE aU aP : Addr} (hg : Glob w aE aU aP) (b : Nat) (rb : RB) (db dO len cap q g i t n : Nat) (d : Nat → Nat) (f : Nat → Value) (ha : At w b rb db dO len cap d (8 * q)) (hF : Row w g t n f) (hi : i < n) (hq : q + 1 ≤ len) (hgb : 6 ≤ b) (hgg : 6 ≤ g) (hne : b ≠ rb.blk) (hnd : b ≠ db) (hx1 : g ≠ b) (hx2 : g ≠ rb.blk) (hx3 : g ≠ db) :
    Ret Tryz.prog 68 #[.pointer (some ⟨b, 0, none⟩), .int .i64 1, .pointer (some ⟨g, i, none⟩)] w fun v w' => v = .bool true ∧ At w' b rb db dO len cap d (8 * (q + 1)) ∧ Row w' g t n (upd f i (.int .u8 (d q : Nat))) ∧ Same [g, b] w w' := by
  have hS := Same.refl [g, b] w
  obtain ⟨bo, bit, B, V, raw, unp, p, r, hb, hr, hpos, hbit, hB⟩ := ha
  have hlen := hr.len_
  obtain ⟨c, rfl⟩ : ∃ c, bit = 8 * c := ⟨bit / 8, by omega⟩
  refine Ret.enter (vs := [.pointer (some ⟨b, 0, none⟩), .int .i64 1, .pointer (some ⟨g, i, none⟩)]) Tryz.func68 Tryz.ntmps68 rfl rfl ?_
  refine WC.seq (WC.region ?_)
  refine WR.assign rfl rfl ?_
  refine WR.nil (WN.seq ?_)
  refine WC.seq (WC.seq (WC.region ?_))
  refine WR.move rfl rfl ?_
  refine WR.bin rfl rfl rfl rfl ?_
  refine WR.nil (WN.seq ?_)
  refine WC.cond rfl (fun h125 => ?_) (fun h125 => ?_)
  · skip
    exact absurd h125 (by decide)
  · skip
    simp only [gt_iff_lt, decide_eq_false_iff_not, Int.not_lt] at h125
    refine WC.skip (WN.seq ?_)
    refine WC.seq (WC.region ?_)
    refine WR.move rfl rfl ?_
    refine WR.nilCheckP rfl rfl ?_
    refine WR.field rfl fa152_3 rfl ?_
    refine WR.load rfl Tryz.underlying110 rfl hb.c3 rfl ?_
    (refine WR.conv rfl Tryz.underlying110 Tryz.underlying2 (wrap_i64 ?_ ?_) rfl ?_; (omega); (omega))
    refine WR.callFS rfl rfl cf64 rfl rfl (bytesForBits ((8 * c : Nat) : Int) _ (by omega) (by omega)) ?_
    refine WR.assign rfl rfl ?_
    refine WR.nil (WN.seq ?_)
    refine WC.seq (WC.region ?_)
    refine WR.move rfl rfl ?_
    refine WR.nilCheckP rfl rfl ?_
    refine WR.field rfl fa152_2 rfl ?_
    refine WR.load rfl Tryz.underlying2 rfl hb.c2 rfl ?_
    refine WR.move rfl rfl ?_
    (refine WR.bin rfl rfl (ar_add (z := ((q : Nat) : Int)) ?_) rfl ?_; (rw [wrap_i64 (by omega) (by omega)]; omega))
    refine WR.nilCheckP rfl rfl ?_
    refine WR.field rfl fa152_2 rfl ?_
    refine WR.storeK rfl rfl rfl sz2 hb.c2 (hb.fz 2) ?_
    intro w1 hn hs
    replace hb := hb.s2 hn
    replace hg := hg.same hs (by simp <;> omega)
    replace hr := hr.same hs (by simp <;> omega) (by simp <;> omega)
    replace hF := hF.same hs (by simp <;> omega)
    replace hS := hS.trans hs (by simp <;> omega)
    clear hn hs
    refine WR.nil (WN.seq (WC.seq ?_))
    refine WC.mix [] mixed (by kernel_rfl) ?_
    replace hg := hg.same (Same.drew _) (by simp <;> omega)
    replace hr := hr.same (Same.drew _) (by simp <;> omega) (by simp <;> omega)
    replace hb := hb.same (Same.drew _) (by simp <;> omega)
    replace hF := hF.same (Same.drew _) (by simp <;> omega)
    replace hS := hS.trans (Same.drew _) (by simp <;> omega)
    refine WR.move rfl rfl ?_
    refine WR.nilCheckP rfl rfl ?_
    refine WR.field rfl fa152_0 rfl ?_
    refine WR.load rfl Tryz.underlying148 rfl hb.c0 rfl ?_
    refine WR.move rfl rfl ?_
    refine WR.nilCheckP rfl rfl ?_
    refine WR.field rfl fa152_5 rfl ?_
    refine WR.move rfl rfl ?_
    refine WR.sliceA rfl Tryz.underlying149 sz5 ⟨_, _, rfl, by omega, by omega, show 1 = Int.toNat _ by rfl⟩ rfl rfl ?_
    refine WR.move rfl rfl ?_
    refine WR.nilCheckP rfl rfl ?_
    refine WR.field rfl fa152_2 rfl ?_
    refine WR.load rfl Tryz.underlying2 rfl hb.c2 rfl ?_
    refine WR.nilCheckI rfl rfl ?_
    refine WR.move rfl rfl ?_
    refine WR.invoke rfl rfl rfl mtRdr_ReadAt cf148 rfl rfl (readAt hg rb db dO len cap b 5 1 8 _ 1037 p r (q : Nat) d _ hgb hr.rd hr.data hr.nz hb hr.cap_ (by omega) (by omega) (by omega) (by omega) (by omega)) ?_
    rintro _ w2 ⟨k, hk, rfl, hb', hs⟩
    obtain rfl : k = 1 := by rw [hk, Int.toNat_natCast]; omega
    obtain ⟨raw1, hb, hraw0⟩ := BR.raw_row' hb' (fun j _ hj => by unfold ovr; rw [if_neg (by simp; omega)])
    have hraw : ∀ i, i < 1 → raw1 i = byt d (q + i) := by
      intro i hi
      rw [hraw0 i (by omega)]
      unfold ovr
      rw [if_pos (by simp; omega)]
      simp [hi]
      obtain rfl : i = 0 := by omega
      rfl
    clear hraw0 hb'
    replace hg := hg.same hs (by simp <;> omega)
    replace hr := hr.same hs (by simp <;> omega) (by simp <;> omega)
    replace hF := hF.same hs (by simp <;> omega)
    replace hS := hS.trans hs (by simp <;> omega)
    refine WR.move rfl rfl ?_
    refine WR.extract rfl rfl rfl ?_
    refine WR.extract rfl rfl rfl ?_
    refine WR.assign rfl rfl ?_
    refine WR.assign rfl rfl ?_
    refine WR.nil (WN.seq ?_)
    refine WC.seq (WC.seq (WC.region ?_))
    refine WR.move rfl rfl ?_
    refine WR.neqNil rfl rfl Tryz.underlying54 rfl ?_
    refine WR.move rfl rfl ?_
    refine WR.pass rfl rfl rfl rfl ?_
    refine WR.pass rfl rfl rfl rfl ?_
    refine WR.pass rfl rfl rfl rfl ?_
    refine WR.pickF rfl rfl rfl rfl ?_
    refine WR.nil (WN.seq ?_)
    refine WC.cond rfl (fun h132 => ?_) (fun h132 => ?_)
    · skip
      cases h132
    · skip
      simp only at h132
      refine WC.skip (WN.seq ?_)
      refine WC.seq (WC.seq (WC.region ?_))
      refine WR.move rfl rfl ?_
      refine WR.move rfl rfl ?_
      refine WR.bin rfl rfl rfl rfl ?_
      refine WR.nil (WN.seq ?_)
      refine WC.cond rfl (fun h135 => ?_) (fun h135 => ?_)
      · skip
        cases h135
      · skip
        simp only [bne_eq_false_iff_eq] at h135
        refine WC.skip (WN.seq ?_)
        refine WC.seq (WC.region ?_)
        refine WR.move rfl rfl ?_
        refine WR.move rfl rfl ?_
        refine WR.nilCheckP rfl rfl ?_
        refine WR.field rfl fa152_5 rfl ?_
        refine WR.idxA rfl rfl Tryz.underlying149 sz5 (by decide) (by decide) rfl ?_
        refine WR.load rfl Tryz.underlying5 rfl ((hb.raw_rd 0 (by decide)).trans (congrArg some (hraw 0 (by decide)))) rfl ?_
        refine WR.nilCheckP rfl rfl ?_
        refine WR.storeK rfl rfl rfl sz5 (hF.cell (by omega)) (hF.fz _) ?_
        intro w3 hn hs
        replace hF := hF.set' hn
        replace hg := hg.same hs (by simp <;> omega)
        replace hr := hr.same hs (by simp <;> omega) (by simp <;> omega)
        replace hb := hb.same hs (by simp <;> omega)
        replace hS := hS.trans hs (by simp <;> omega)
        clear hn hs
        refine WR.nil (WN.seq ?_)
        refine WC.seq (WC.region ?_)
        refine WR.move rfl rfl ?_
        refine WR.nilCheckP rfl rfl ?_
        refine WR.field rfl fa152_2 rfl ?_
        refine WR.load rfl Tryz.underlying2 rfl hb.c2 rfl ?_
        refine WR.move rfl rfl ?_
        (refine WR.bin rfl rfl (ar_add (z := ((q + 1 : Nat) : Int)) ?_) rfl ?_; (rw [wrap_i64 (by omega) (by omega)]; omega))
        refine WR.nilCheckP rfl rfl ?_
        refine WR.field rfl fa152_2 rfl ?_
        refine WR.storeK rfl rfl rfl sz2 hb.c2 (hb.fz 2) ?_
        intro w4 hn hs
        replace hb := hb.s2 hn
        replace hg := hg.same hs (by simp <;> omega)
        replace hr := hr.same hs (by simp <;> omega) (by simp <;> omega)
        replace hF := hF.same hs (by simp <;> omega)
        replace hS := hS.trans hs (by simp <;> omega)
        clear hn hs
        refine WR.nil (WN.seq ?_)
        refine WC.seq (WC.region ?_)
        refine WR.move rfl rfl ?_
        refine WR.nilCheckP rfl rfl ?_
        refine WR.field rfl fa152_3 rfl ?_
        refine WR.storeK rfl rfl rfl sz110 hb.c3 (hb.fz 3) ?_
        intro w5 hn hs
        replace hb := hb.s3 hn
        replace hg := hg.same hs (by simp <;> omega)
        replace hr := hr.same hs (by simp <;> omega) (by simp <;> omega)
        replace hF := hF.same hs (by simp <;> omega)
        replace hS := hS.trans hs (by simp <;> omega)
        clear hn hs
        refine WR.nil (WN.seq ?_)
        refine WC.seq (WC.region ?_)
        refine WR.move rfl rfl ?_
        refine WR.callF rfl rfl cf62 rfl rfl (fillbuffer hg b rb db dO len cap _ _ _ _ p r d _ _ hb hr (by omega) (by omega) hgb hne hnd) ?_
        rintro _ w6 ⟨rfl, ⟨raw2, hb'⟩, hs⟩
        replace hb := hb'
        clear hb'
        simp only [Int.toNat_natCast] at hb
        replace hg := hg.same hs (by simp <;> omega)
        replace hr := hr.same hs (by simp <;> omega) (by simp <;> omega)
        replace hF := hF.same hs (by simp <;> omega)
        replace hS := hS.trans hs (by simp <;> omega)
        refine WR.eqlNil rfl rfl Tryz.underlying54 rfl ?_
        refine WR.assign rfl rfl ?_
        refine WR.nil (WN.seq ?_)
        refine WC.retR rfl rfl ?_
        exact ⟨rfl, ⟨q + 1, 0, _, _, _, _, _, _, hb, hr, by omega, by omega, fun h => absurd rfl h⟩, hF, hS⟩

set_option maxHeartbeats 400000 in
theorem aligned16 {w : World} {aE aU aP : Addr} (hg : Glob w aE aU aP) (b : Nat) (rb : RB) (db dO len cap q g i t n : Nat) (d : Nat → Nat) (f : Nat → Value) (ha : At w b rb db dO len cap d (8 * q)) (hF : Row w g t n f) (hi : i < n) (hq : q + 2 ≤ len) (hgb : 6 ≤ b) (hgg : 6 ≤ g) (hne : b ≠ rb.blk) (hnd : b ≠ db) (hx1 : g ≠ b) (hx2 : g ≠ rb.blk) (hx3 : g ≠ db) :
    Ret Tryz.prog 67 #[.pointer (some ⟨b, 0, none⟩), .int .i64 2, .pointer (some ⟨g, i, none⟩)] w fun v w' => v = .bool true ∧ At w' b rb db dO len cap d (8 * (q + 2)) ∧ Row w' g t n (upd f i (.int .u16 (num (fun i => d (q + i)) 2 : Nat))) ∧ Same [g, b] w w' := by
  have hS := Same.refl [g, b] w
  obtain ⟨bo, bit, B, V, raw, unp, p, r, hb, hr, hpos, hbit, hB⟩ := ha
  have hlen := hr.len_
  obtain ⟨c, rfl⟩ : ∃ c, bit = 8 * c := ⟨bit / 8, by omega⟩
  refine Ret.enter (vs := [.pointer (some ⟨b, 0, none⟩), .int .i64 2, .pointer (some ⟨g, i, none⟩)]) Tryz.func67 Tryz.ntmps67 rfl rfl ?_
  refine WC.seq (WC.region ?_)
  refine WR.assign rfl rfl ?_
  refine WR.nil (WN.seq ?_)
  refine WC.seq (WC.seq (WC.region ?_))
  refine WR.move rfl rfl ?_
  refine WR.bin rfl rfl rfl rfl ?_
  refine WR.nil (WN.seq ?_)
  refine WC.cond rfl (fun h148 => ?_) (fun h148 => ?_)
  · skip
    exact absurd h148 (by decide)
  · skip
    simp only [gt_iff_lt, decide_eq_false_iff_not, Int.not_lt] at h148
    refine WC.skip (WN.seq ?_)
    refine WC.seq (WC.region ?_)
    refine WR.move rfl rfl ?_
    refine WR.nilCheckP rfl rfl ?_
    refine WR.field rfl fa152_3 rfl ?_
    refine WR.load rfl Tryz.underlying110 rfl hb.c3 rfl ?_
    (refine WR.conv rfl Tryz.underlying110 Tryz.underlying2 (wrap_i64 ?_ ?_) rfl ?_; (omega); (omega))
    refine WR.callFS rfl rfl cf64 rfl rfl (bytesForBits ((8 * c : Nat) : Int) _ (by omega) (by omega)) ?_
    refine WR.assign rfl rfl ?_
    refine WR.nil (WN.seq ?_)
    refine WC.seq (WC.region ?_)
    refine WR.move rfl rfl ?_
    refine WR.nilCheckP rfl rfl ?_
    refine WR.field rfl fa152_2 rfl ?_
    refine WR.load rfl Tryz.underlying2 rfl hb.c2 rfl ?_
    refine WR.move rfl rfl ?_
    (refine WR.bin rfl rfl (ar_add (z := ((q : Nat) : Int)) ?_) rfl ?_; (rw [wrap_i64 (by omega) (by omega)]; omega))
    refine WR.nilCheckP rfl rfl ?_
    refine WR.field rfl fa152_2 rfl ?_
    refine WR.storeK rfl rfl rfl sz2 hb.c2 (hb.fz 2) ?_
    intro w1 hn hs
    replace hb := hb.s2 hn
    replace hg := hg.same hs (by simp <;> omega)
    replace hr := hr.same hs (by simp <;> omega) (by simp <;> omega)
    replace hF := hF.same hs (by simp <;> omega)
    replace hS := hS.trans hs (by simp <;> omega)
    clear hn hs
    refine WR.nil (WN.seq (WC.seq ?_))
    refine WC.mix [] mixed (by kernel_rfl) ?_
    replace hg := hg.same (Same.drew _) (by simp <;> omega)
    replace hr := hr.same (Same.drew _) (by simp <;> omega) (by simp <;> omega)
    replace hb := hb.same (Same.drew _) (by simp <;> omega)
    replace hF := hF.same (Same.drew _) (by simp <;> omega)
    replace hS := hS.trans (Same.drew _) (by simp <;> omega)
    refine WR.move rfl rfl ?_
    refine WR.nilCheckP rfl rfl ?_
    refine WR.field rfl fa152_0 rfl ?_
    refine WR.load rfl Tryz.underlying148 rfl hb.c0 rfl ?_
    refine WR.move rfl rfl ?_
    refine WR.nilCheckP rfl rfl ?_
    refine WR.field rfl fa152_5 rfl ?_
    refine WR.move rfl rfl ?_
    refine WR.sliceA rfl Tryz.underlying149 sz5 ⟨_, _, rfl, by omega, by omega, show 2 = Int.toNat _ by rfl⟩ rfl rfl ?_
    refine WR.move rfl rfl ?_
    refine WR.nilCheckP rfl rfl ?_
    refine WR.field rfl fa152_2 rfl ?_
    refine WR.load rfl Tryz.underlying2 rfl hb.c2 rfl ?_
    refine WR.nilCheckI rfl rfl ?_
    refine WR.move rfl rfl ?_
    refine WR.invoke rfl rfl rfl mtRdr_ReadAt cf148 rfl rfl (readAt hg rb db dO len cap b 5 2 8 _ 1037 p r (q : Nat) d _ hgb hr.rd hr.data hr.nz hb hr.cap_ (by omega) (by omega) (by omega) (by omega) (by omega)) ?_
    rintro _ w2 ⟨k, hk, rfl, hb', hs⟩
    obtain rfl : k = 2 := by rw [hk, Int.toNat_natCast]; omega
    obtain ⟨raw1, hb, hraw0⟩ := BR.raw_row' hb' (fun j _ hj => by unfold ovr; rw [if_neg (by simp; omega)])
    have hraw : ∀ i, i < 2 → raw1 i = byt d (q + i) := by
      intro i hi
      rw [hraw0 i (by omega)]
      unfold ovr
      rw [if_pos (by simp; omega)]
      simp [hi]
    clear hraw0 hb'
    replace hg := hg.same hs (by simp <;> omega)
    replace hr := hr.same hs (by simp <;> omega) (by simp <;> omega)
    replace hF := hF.same hs (by simp <;> omega)
    replace hS := hS.trans hs (by simp <;> omega)
    refine WR.move rfl rfl ?_
    refine WR.extract rfl rfl rfl ?_
    refine WR.extract rfl rfl rfl ?_
    refine WR.assign rfl rfl ?_
    refine WR.assign rfl rfl ?_
    refine WR.nil (WN.seq ?_)
    refine WC.seq (WC.seq (WC.region ?_))
    refine WR.move rfl rfl ?_
    refine WR.neqNil rfl rfl Tryz.underlying54 rfl ?_
    refine WR.move rfl rfl ?_
    refine WR.pass rfl rfl rfl rfl ?_
    refine WR.pass rfl rfl rfl rfl ?_
    refine WR.pass rfl rfl rfl rfl ?_
    refine WR.pickF rfl rfl rfl rfl ?_
    refine WR.nil (WN.seq ?_)
    refine WC.cond rfl (fun h155 => ?_) (fun h155 => ?_)
    · skip
      cases h155
    · skip
      simp only at h155
      refine WC.skip (WN.seq ?_)
      refine WC.seq (WC.seq (WC.region ?_))
      refine WR.move rfl rfl ?_
      refine WR.move rfl rfl ?_
      refine WR.bin rfl rfl rfl rfl ?_
      refine WR.nil (WN.seq ?_)
      refine WC.cond rfl (fun h158 => ?_) (fun h158 => ?_)
      · skip
        cases h158
      · skip
        simp only [bne_eq_false_iff_eq] at h158
        refine WC.skip (WN.seq ?_)
        refine WC.seq (WC.region ?_)
        refine WR.move rfl rfl ?_
        refine WR.nilCheckP rfl rfl ?_
        refine WR.field rfl fa152_5 rfl ?_
        refine WR.move rfl rfl ?_
        refine WR.sliceA rfl Tryz.underlying149 sz5 ⟨_, _, rfl, by decide, by decide, rfl⟩ ⟨_, _, rfl, by decide, by decide, rfl⟩ rfl ?_
        refine WR.callF rfl rfl cf79 rfl rfl (memset b 7 0 6 _ 1037 0 _ hb (by decide) (by decide)) ?_
        rintro _ w3 ⟨rfl, ⟨F9, hF9, hp9⟩, hs⟩
        obtain ⟨raw3, hb, hraw3⟩ := BR.raw_row' hF9 (fun j _ hj => hp9.2 j (by omega))
        clear hF9
        replace hg := hg.same hs (by simp <;> omega)
        replace hr := hr.same hs (by simp <;> omega) (by simp <;> omega)
        replace hF := hF.same hs (by simp <;> omega)
        replace hS := hS.trans hs (by simp <;> omega)
        refine WR.nil (WN.seq (WC.seq ?_))
        refine WC.mix [] mixed (by kernel_rfl) ?_
        replace hg := hg.same (Same.drew _) (by simp <;> omega)
        replace hr := hr.same (Same.drew _) (by simp <;> omega) (by simp <;> omega)
        replace hb := hb.same (Same.drew _) (by simp <;> omega)
        replace hF := hF.same (Same.drew _) (by simp <;> omega)
        replace hS := hS.trans (Same.drew _) (by simp <;> omega)
        refine WR.move rfl rfl ?_
        refine WR.loadAgg rfl Tryz.underlying183 rfl sz183 (show Rd _ _ _ 0 (fun _ => undef) from fun i hi => absurd hi (by omega)) rfl ?_
        refine WR.move rfl rfl ?_
        refine WR.nilCheckP rfl rfl ?_
        refine WR.field rfl fa152_5 rfl ?_
        refine WR.sliceA rfl Tryz.underlying149 sz5 ⟨_, _, rfl, by decide, by decide, rfl⟩ rfl rfl ?_
        have hrd : Rd _ b 5 2 (byt fun i => d (q + i)) := fun i hi => (hb.raw_rd i (by omega)).trans (congrArg some (by rw [hraw3 i (by omega), Nat.add_comm i 5, hp9.2 (5 + i) (by omega), Nat.add_comm 5 i]; simp only [brF]; rw [if_pos (by omega)]; exact hraw i hi))
        refine WR.callF rfl rfl cf81 rfl rfl (uint16 b 5 _ (fun i => d (q + i)) _ hrd (fun i hi => hr.small _ (by omega)) hb.lt) ?_
        rintro _ w4 ⟨rfl, hs⟩
        replace hg := hg.same hs (by simp <;> omega)
        replace hr := hr.same hs (by simp <;> omega) (by simp <;> omega)
        replace hb := hb.same hs (by simp <;> omega)
        replace hF := hF.same hs (by simp <;> omega)
        replace hS := hS.trans hs (by simp <;> omega)
        refine WR.nilCheckP rfl rfl ?_
        refine WR.storeK rfl rfl rfl sz114 (hF.cell (by omega)) (hF.fz _) ?_
        intro w5 hn hs
        replace hF := hF.set' hn
        replace hg := hg.same hs (by simp <;> omega)
        replace hr := hr.same hs (by simp <;> omega) (by simp <;> omega)
        replace hb := hb.same hs (by simp <;> omega)
        replace hS := hS.trans hs (by simp <;> omega)
        clear hn hs
        refine WR.nil (WN.seq ?_)
        refine WC.seq (WC.region ?_)
        refine WR.move rfl rfl ?_
        refine WR.nilCheckP rfl rfl ?_
        refine WR.field rfl fa152_2 rfl ?_
        refine WR.load rfl Tryz.underlying2 rfl hb.c2 rfl ?_
        refine WR.move rfl rfl ?_
        (refine WR.bin rfl rfl (ar_add (z := ((q + 2 : Nat) : Int)) ?_) rfl ?_; (rw [wrap_i64 (by omega) (by omega)]; omega))
        refine WR.nilCheckP rfl rfl ?_
        refine WR.field rfl fa152_2 rfl ?_
        refine WR.storeK rfl rfl rfl sz2 hb.c2 (hb.fz 2) ?_
        intro w6 hn hs
        replace hb := hb.s2 hn
        replace hg := hg.same hs (by simp <;> omega)
        replace hr := hr.same hs (by simp <;> omega) (by simp <;> omega)
        replace hF := hF.same hs (by simp <;> omega)
        replace hS := hS.trans hs (by simp <;> omega)
        clear hn hs
        refine WR.nil (WN.seq ?_)
        refine WC.seq (WC.region ?_)
        refine WR.move rfl rfl ?_
        refine WR.nilCheckP rfl rfl ?_
        refine WR.field rfl fa152_3 rfl ?_
        refine WR.storeK rfl rfl rfl sz110 hb.c3 (hb.fz 3) ?_
        intro w7 hn hs
        replace hb := hb.s3 hn
        replace hg := hg.same hs (by simp <;> omega)
        replace hr := hr.same hs (by simp <;> omega) (by simp <;> omega)
        replace hF := hF.same hs (by simp <;> omega)
        replace hS := hS.trans hs (by simp <;> omega)
        clear hn hs
        refine WR.nil (WN.seq ?_)
        refine WC.seq (WC.region ?_)
        refine WR.move rfl rfl ?_
        refine WR.callF rfl rfl cf62 rfl rfl (fillbuffer hg b rb db dO len cap _ _ _ _ p r d _ _ hb hr (by omega) (by omega) hgb hne hnd) ?_
        rintro _ w8 ⟨rfl, ⟨raw2, hb'⟩, hs⟩
        replace hb := hb'
        clear hb'
        simp only [Int.toNat_natCast] at hb
        replace hg := hg.same hs (by simp <;> omega)
        replace hr := hr.same hs (by simp <;> omega) (by simp <;> omega)
        replace hF := hF.same hs (by simp <;> omega)
        replace hS := hS.trans hs (by simp <;> omega)
        refine WR.eqlNil rfl rfl Tryz.underlying54 rfl ?_
        refine WR.assign rfl rfl ?_
        refine WR.nil (WN.seq ?_)
        refine WC.retR rfl rfl ?_
        exact ⟨rfl, ⟨q + 2, 0, _, _, _, _, _, _, hb, hr, by omega, by omega, fun h => absurd rfl h⟩, hF, hS⟩

set_option maxHeartbeats 400000 in
theorem aligned32 {w : World} {aE aU aP : Addr} (hg : Glob w aE aU aP) (b : Nat) (rb : RB) (db dO len cap q g i t n : Nat) (d : Nat → Nat) (f : Nat → Value) (ha : At w b rb db dO len cap d (8 * q)) (hF : Row w g t n f) (hi : i < n) (hq : q + 3 ≤ len) (hgb : 6 ≤ b) (hgg : 6 ≤ g) (hne : b ≠ rb.blk) (hnd : b ≠ db) (hx1 : g ≠ b) (hx2 : g ≠ rb.blk) (hx3 : g ≠ db) :
    Ret Tryz.prog 66 #[.pointer (some ⟨b, 0, none⟩), .int .i64 3, .pointer (some ⟨g, i, none⟩)] w fun v w' => v = .bool true ∧ At w' b rb db dO len cap d (8 * (q + 3)) ∧ Row w' g t n (upd f i (.int .u32 (num (fun i => d (q + i)) 3 : Nat))) ∧ Same [g, b] w w' := by
  have hS := Same.refl [g, b] w
  obtain ⟨bo, bit, B, V, raw, unp, p, r, hb, hr, hpos, hbit, hB⟩ := ha
  have hlen := hr.len_
  obtain ⟨c, rfl⟩ : ∃ c, bit = 8 * c := ⟨bit / 8, by omega⟩
  refine Ret.enter (vs := [.pointer (some ⟨b, 0, none⟩), .int .i64 3, .pointer (some ⟨g, i, none⟩)]) Tryz.func66 Tryz.ntmps66 rfl rfl ?_
  refine WC.seq (WC.region ?_)
  refine WR.assign rfl rfl ?_
  refine WR.nil (WN.seq ?_)
  refine WC.seq (WC.seq (WC.region ?_))
  refine WR.move rfl rfl ?_
  refine WR.bin rfl rfl rfl rfl ?_
  refine WR.nil (WN.seq ?_)
  refine WC.cond rfl (fun h174 => ?_) (fun h174 => ?_)
  · skip
    exact absurd h174 (by decide)
  · skip
    simp only [gt_iff_lt, decide_eq_false_iff_not, Int.not_lt] at h174
    refine WC.skip (WN.seq ?_)
    refine WC.seq (WC.region ?_)
    refine WR.move rfl rfl ?_
    refine WR.nilCheckP rfl rfl ?_
    refine WR.field rfl fa152_3 rfl ?_
    refine WR.load rfl Tryz.underlying110 rfl hb.c3 rfl ?_
    (refine WR.conv rfl Tryz.underlying110 Tryz.underlying2 (wrap_i64 ?_ ?_) rfl ?_; (omega); (omega))
    refine WR.callFS rfl rfl cf64 rfl rfl (bytesForBits ((8 * c : Nat) : Int) _ (by omega) (by omega)) ?_
    refine WR.assign rfl rfl ?_
    refine WR.nil (WN.seq ?_)
    refine WC.seq (WC.region ?_)
    refine WR.move rfl rfl ?_
    refine WR.nilCheckP rfl rfl ?_
    refine WR.field rfl fa152_2 rfl ?_
    refine WR.load rfl Tryz.underlying2 rfl hb.c2 rfl ?_
    refine WR.move rfl rfl ?_
    (refine WR.bin rfl rfl (ar_add (z := ((q : Nat) : Int)) ?_) rfl ?_; (rw [wrap_i64 (by omega) (by omega)]; omega))
    refine WR.nilCheckP rfl rfl ?_
    refine WR.field rfl fa152_2 rfl ?_
    refine WR.storeK rfl rfl rfl sz2 hb.c2 (hb.fz 2) ?_
    intro w1 hn hs
    replace hb := hb.s2 hn
    replace hg := hg.same hs (by simp <;> omega)
    replace hr := hr.same hs (by simp <;> omega) (by simp <;> omega)
    replace hF := hF.same hs (by simp <;> omega)
    replace hS := hS.trans hs (by simp <;> omega)
    clear hn hs
    refine WR.nil (WN.seq (WC.seq ?_))
    refine WC.mix [] mixed (by kernel_rfl) ?_
    replace hg := hg.same (Same.drew _) (by simp <;> omega)
    replace hr := hr.same (Same.drew _) (by simp <;> omega) (by simp <;> omega)
    replace hb := hb.same (Same.drew _) (by simp <;> omega)
    replace hF := hF.same (Same.drew _) (by simp <;> omega)
    replace hS := hS.trans (Same.drew _) (by simp <;> omega)
    refine WR.move rfl rfl ?_
    refine WR.nilCheckP rfl rfl ?_
    refine WR.field rfl fa152_0 rfl ?_
    refine WR.load rfl Tryz.underlying148 rfl hb.c0 rfl ?_
    refine WR.move rfl rfl ?_
    refine WR.nilCheckP rfl rfl ?_
    refine WR.field rfl fa152_5 rfl ?_
    refine WR.move rfl rfl ?_
    refine WR.sliceA rfl Tryz.underlying149 sz5 ⟨_, _, rfl, by omega, by omega, show 3 = Int.toNat _ by rfl⟩ rfl rfl ?_
    refine WR.move rfl rfl ?_
    refine WR.nilCheckP rfl rfl ?_
    refine WR.field rfl fa152_2 rfl ?_
    refine WR.load rfl Tryz.underlying2 rfl hb.c2 rfl ?_
    refine WR.nilCheckI rfl rfl ?_
    refine WR.move rfl rfl ?_
    refine WR.invoke rfl rfl rfl mtRdr_ReadAt cf148 rfl rfl (readAt hg rb db dO len cap b 5 3 8 _ 1037 p r (q : Nat) d _ hgb hr.rd hr.data hr.nz hb hr.cap_ (by omega) (by omega) (by omega) (by omega) (by omega)) ?_
    rintro _ w2 ⟨k, hk, rfl, hb', hs⟩
    obtain rfl : k = 3 := by rw [hk, Int.toNat_natCast]; omega
    obtain ⟨raw1, hb, hraw0⟩ := BR.raw_row' hb' (fun j _ hj => by unfold ovr; rw [if_neg (by simp; omega)])
    have hraw : ∀ i, i < 3 → raw1 i = byt d (q + i) := by
      intro i hi
      rw [hraw0 i (by omega)]
      unfold ovr
      rw [if_pos (by simp; omega)]
      simp [hi]
    clear hraw0 hb'
    replace hg := hg.same hs (by simp <;> omega)
    replace hr := hr.same hs (by simp <;> omega) (by simp <;> omega)
    replace hF := hF.same hs (by simp <;> omega)
    replace hS := hS.trans hs (by simp <;> omega)
    refine WR.move rfl rfl ?_
    refine WR.extract rfl rfl rfl ?_
    refine WR.extract rfl rfl rfl ?_
    refine WR.assign rfl rfl ?_
    refine WR.assign rfl rfl ?_
    refine WR.nil (WN.seq ?_)
    refine WC.seq (WC.seq (WC.region ?_))
    refine WR.move rfl rfl ?_
    refine WR.neqNil rfl rfl Tryz.underlying54 rfl ?_
    refine WR.move rfl rfl ?_
    refine WR.pass rfl rfl rfl rfl ?_
    refine WR.pass rfl rfl rfl rfl ?_
    refine WR.pass rfl rfl rfl rfl ?_
    refine WR.pickF rfl rfl rfl rfl ?_
    refine WR.nil (WN.seq ?_)
    refine WC.cond rfl (fun h181 => ?_) (fun h181 => ?_)
    · skip
      cases h181
    · skip
      simp only at h181
      refine WC.skip (WN.seq ?_)
      refine WC.seq (WC.seq (WC.region ?_))
      refine WR.move rfl rfl ?_
      refine WR.move rfl rfl ?_
      refine WR.bin rfl rfl rfl rfl ?_
      refine WR.nil (WN.seq ?_)
      refine WC.cond rfl (fun h184 => ?_) (fun h184 => ?_)
      · skip
        cases h184
      · skip
        simp only [bne_eq_false_iff_eq] at h184
        refine WC.skip (WN.seq ?_)
        refine WC.seq (WC.region ?_)
        refine WR.move rfl rfl ?_
        refine WR.nilCheckP rfl rfl ?_
        refine WR.field rfl fa152_5 rfl ?_
        refine WR.move rfl rfl ?_
        refine WR.sliceA rfl Tryz.underlying149 sz5 ⟨_, _, rfl, by decide, by decide, rfl⟩ ⟨_, _, rfl, by decide, by decide, rfl⟩ rfl ?_
        refine WR.callF rfl rfl cf79 rfl rfl (memset b 8 1 5 _ 1037 0 _ hb (by decide) (by decide)) ?_
        rintro _ w3 ⟨rfl, ⟨F9, hF9, hp9⟩, hs⟩
        obtain ⟨raw3, hb, hraw3⟩ := BR.raw_row' hF9 (fun j _ hj => hp9.2 j (by omega))
        clear hF9
        replace hg := hg.same hs (by simp <;> omega)
        replace hr := hr.same hs (by simp <;> omega) (by simp <;> omega)
        replace hF := hF.same hs (by simp <;> omega)
        replace hS := hS.trans hs (by simp <;> omega)
        refine WR.nil (WN.seq (WC.seq ?_))
        refine WC.mix [] mixed (by kernel_rfl) ?_
        replace hg := hg.same (Same.drew _) (by simp <;> omega)
        replace hr := hr.same (Same.drew _) (by simp <;> omega) (by simp <;> omega)
        replace hb := hb.same (Same.drew _) (by simp <;> omega)
        replace hF := hF.same (Same.drew _) (by simp <;> omega)
        replace hS := hS.trans (Same.drew _) (by simp <;> omega)
        refine WR.move rfl rfl ?_
        refine WR.loadAgg rfl Tryz.underlying183 rfl sz183 (show Rd _ _ _ 0 (fun _ => undef) from fun i hi => absurd hi (by omega)) rfl ?_
        refine WR.move rfl rfl ?_
        refine WR.nilCheckP rfl rfl ?_
        refine WR.field rfl fa152_5 rfl ?_
        refine WR.sliceA rfl Tryz.underlying149 sz5 ⟨_, _, rfl, by decide, by decide, rfl⟩ rfl rfl ?_
        have hrd : Rd _ b 5 4 (byt fun i => if i < 3 then d (q + i) else 0) := fun i hi => (hb.raw_rd i (by omega)).trans (congrArg some (by
          rw [hraw3 i (by omega), Nat.add_comm i 5]
          by_cases h3 : i < 3
          · rw [hp9.2 (5 + i) (by omega), Nat.add_comm 5 i]
            simp only [brF, byt, if_pos h3]
            rw [if_pos (by omega)]
            exact hraw i h3
          · obtain rfl : i = 3 := by omega
            exact hp9.1 0 (by decide)))
        have he9 : num (fun i => if i < 3 then d (q + i) else 0) 4 = num (fun i => d (q + i)) 3 := by
          rw [num_succ]
          simp only [show ¬ (3 : Nat) < 3 by omega, if_false, Nat.zero_mul, Nat.add_zero]
          exact num_congr 3 fun i hi => by rw [if_pos hi]
        refine WR.callF rfl rfl cf80 rfl rfl (uint32 b 5 _ (fun i => if i < 3 then d (q + i) else 0) _ hrd (fun i hi => by by_cases h3 : i < 3 <;> simp only [h3, if_true, if_false]; (first | exact hr.small _ (by omega) | decide); (try decide)) hb.lt) ?_
        rintro _ w4 ⟨rfl, hs⟩
        replace hg := hg.same hs (by simp <;> omega)
        replace hr := hr.same hs (by simp <;> omega) (by simp <;> omega)
        replace hb := hb.same hs (by simp <;> omega)
        replace hF := hF.same hs (by simp <;> omega)
        replace hS := hS.trans hs (by simp <;> omega)
        refine WR.nilCheckP rfl rfl ?_
        refine WR.storeK rfl rfl rfl sz109 (hF.cell (by omega)) (hF.fz _) ?_
        intro w5 hn hs
        replace hF := hF.set' hn
        replace hg := hg.same hs (by simp <;> omega)
        replace hr := hr.same hs (by simp <;> omega) (by simp <;> omega)
        replace hb := hb.same hs (by simp <;> omega)
        replace hS := hS.trans hs (by simp <;> omega)
        clear hn hs
        refine WR.nil (WN.seq ?_)
        refine WC.seq (WC.region ?_)
        refine WR.move rfl rfl ?_
        refine WR.nilCheckP rfl rfl ?_
        refine WR.field rfl fa152_2 rfl ?_
        refine WR.load rfl Tryz.underlying2 rfl hb.c2 rfl ?_
        refine WR.move rfl rfl ?_
        (refine WR.bin rfl rfl (ar_add (z := ((q + 3 : Nat) : Int)) ?_) rfl ?_; (rw [wrap_i64 (by omega) (by omega)]; omega))
        refine WR.nilCheckP rfl rfl ?_
        refine WR.field rfl fa152_2 rfl ?_
        refine WR.storeK rfl rfl rfl sz2 hb.c2 (hb.fz 2) ?_
        intro w6 hn hs
        replace hb := hb.s2 hn
        replace hg := hg.same hs (by simp <;> omega)
        replace hr := hr.same hs (by simp <;> omega) (by simp <;> omega)
        replace hF := hF.same hs (by simp <;> omega)
        replace hS := hS.trans hs (by simp <;> omega)
        clear hn hs
        refine WR.nil (WN.seq ?_)
        refine WC.seq (WC.region ?_)
        refine WR.move rfl rfl ?_
        refine WR.nilCheckP rfl rfl ?_
        refine WR.field rfl fa152_3 rfl ?_
        refine WR.storeK rfl rfl rfl sz110 hb.c3 (hb.fz 3) ?_
        intro w7 hn hs
        replace hb := hb.s3 hn
        replace hg := hg.same hs (by simp <;> omega)
        replace hr := hr.same hs (by simp <;> omega) (by simp <;> omega)
        replace hF := hF.same hs (by simp <;> omega)
        replace hS := hS.trans hs (by simp <;> omega)
        clear hn hs
        refine WR.nil (WN.seq ?_)
        refine WC.seq (WC.region ?_)
        refine WR.move rfl rfl ?_
        refine WR.callF rfl rfl cf62 rfl rfl (fillbuffer hg b rb db dO len cap _ _ _ _ p r d _ _ hb hr (by omega) (by omega) hgb hne hnd) ?_
        rintro _ w8 ⟨rfl, ⟨raw2, hb'⟩, hs⟩
        replace hb := hb'
        clear hb'
        simp only [Int.toNat_natCast] at hb
        replace hg := hg.same hs (by simp <;> omega)
        replace hr := hr.same hs (by simp <;> omega) (by simp <;> omega)
        replace hF := hF.same hs (by simp <;> omega)
        replace hS := hS.trans hs (by simp <;> omega)
        refine WR.eqlNil rfl rfl Tryz.underlying54 rfl ?_
        refine WR.assign rfl rfl ?_
        refine WR.nil (WN.seq ?_)
        refine WC.retR rfl rfl ?_
        rw [he9] at hF
        exact ⟨rfl, ⟨q + 3, 0, _, _, _, _, _, _, hb, hr, by omega, by omega, fun h => absurd rfl h⟩, hF, hS⟩

end Go.Proofs.YthmknddfkmklfaaGreatDoor.Vm
