/- Bits of a byte slice. -/
import Derived.Test.YtajgdpiodpoooaaGreatDoorFnM
namespace Go.Proofs.YtajgdpiodpoooaaGreatDoor.Vm
open Go Mix Go.RowKit Num
set_option maxRecDepth 20000
set_option linter.unusedSimpArgs false
/-- the two listed tables -/
structure Tab (w : World) : Prop where
  m : Rd w 4 0 8 (fun i => .int .u8 ((2 ^ i : Nat) : Int))
  f : Rd w 5 0 8 (fun i => .int .u8 ((255 - 2 ^ i : Nat) : Int))
  lt : 7 ≤ w.heap.size
theorem Tab.same {w w' : World} {S : List Nat} (h : Tab w) (hs : Same S w w') (hS : ∀ g, g ∈ S → 7 ≤ g) : Tab w' :=
  ⟨h.m.same hs (fun hm => absurd (hS _ hm) (by decide)) (Nat.lt_of_lt_of_le (by decide) h.lt), h.f.same hs (fun hm => absurd (hS _ hm) (by decide)) (Nat.lt_of_lt_of_le (by decide) h.lt), Nat.le_trans h.lt hs.size⟩
theorem Tab.gm {w : World} (tb : Tab w) {k : Nat} {j : Int} (hj : j = (k : Nat)) (hk : k < 8) : w.cell? ⟨4, 0 + j.toNat * 1, none⟩ = some (.int .u8 ((2 ^ k : Nat) : Int)) := by
  have := tb.m k hk
  rwa [show 0 + k = 0 + j.toNat * 1 by omega] at this
theorem Tab.gf {w : World} (tb : Tab w) {k : Nat} {j : Int} (hj : j = (k : Nat)) (hk : k < 8) : w.cell? ⟨5, 0 + j.toNat * 1, none⟩ = some (.int .u8 ((255 - 2 ^ k : Nat) : Int)) := by
  have := tb.f k hk
  rwa [show 0 + k = 0 + j.toNat * 1 by omega] at this
theorem wrapU8 (i : Nat) : IntKind.u8.wrap ((i : Nat) : Int) = ((i % 256 : Nat) : Int) := by simp [IntKind.wrap, IntKind.bits, IntKind.signed]
theorem pow_lt8 {k : Nat} (h : k < 8) : 2 ^ k ≤ 128 := Nat.pow_le_pow_right (n := 2) (by decide) (show k ≤ 7 by omega)
theorem or_u8 {x y : Nat} (hx : x < 256) (hy : y < 256) : arith .or .u8 (x : Int) (y : Int) = some (.int .u8 ((x ||| y : Nat) : Int)) := by
  have hl : x ||| y < 2 ^ 8 := Nat.or_lt_two_pow (by omega) (by omega)
  have e : (BitVec.ofInt IntKind.u8.bits (x : Int) ||| BitVec.ofInt IntKind.u8.bits (y : Int)).toNat = x ||| y := by
    rw [BitVec.toNat_or, ofInt_toNat (by omega) (by show (x : Int) < (2 : Int) ^ 8; omega), ofInt_toNat (by omega) (by show (y : Int) < (2 : Int) ^ 8; omega), Int.toNat_natCast, Int.toNat_natCast]
  unfold arith
  simp only [e]
  rw [wrap_u8 (Int.natCast_nonneg _) (by omega)]
theorem and_u8 {x y : Nat} (hx : x < 256) (hy : y < 256) : arith .and .u8 (x : Int) (y : Int) = some (.int .u8 ((x &&& y : Nat) : Int)) := by
  have hl : x &&& y ≤ x := Nat.and_le_left
  have e : (BitVec.ofInt IntKind.u8.bits (x : Int) &&& BitVec.ofInt IntKind.u8.bits (y : Int)).toNat = x &&& y := by
    rw [BitVec.toNat_and, ofInt_toNat (by omega) (by show (x : Int) < (2 : Int) ^ 8; omega), ofInt_toNat (by omega) (by show (y : Int) < (2 : Int) ^ 8; omega), Int.toNat_natCast, Int.toNat_natCast]
  unfold arith
  simp only [e]
  rw [wrap_u8 (Int.natCast_nonneg _) (by omega)]
theorem flip_bit : ∀ k : Fin 8, ∀ j : Fin 8, (255 - 2 ^ k.val).testBit j.val = !decide (j = k) := by decide
theorem cf40 (us : Array Value) (w : World) : (callFunc 40 us).run Tryz.prog w = .ok (.enter 40 us) w := by kernel_rfl
theorem cf41 (us : Array Value) (w : World) : (callFunc 41 us).run Tryz.prog w = .ok (.enter 41 us) w := by kernel_rfl
theorem bitIsSet {w : World} (tb : Tab w) (g o L dc t N i x : Nat) (F : Nat → Value) (hF : Row w g t N F) (hx : F (o + i / 8) = .int .u8 (x : Nat)) (hx8 : x < 256) (hoL : o + L ≤ N) (hi : i / 8 < L) (hi2 : i ≤ 1099511627776) (hgg : 7 ≤ g) :
    Ret Tryz.prog 25 #[.slice (some ⟨g, o, none⟩) L dc, .int .i64 (i : Nat)] w fun v w' => v = .bool (x / 2 ^ (i % 8) % 2 == 1) ∧ Same [] w w' := by
  have hp8 := pow_lt8 (show i % 8 < 8 by omega)
  have hS := Same.refl [] w
  refine Ret.enter (vs := [.slice (some ⟨g, o, none⟩) L dc, .int .i64 (i : Nat)]) Tryz.func25 Tryz.ntmps25 rfl rfl ?_
  refine WC.seq ?_
  refine WC.region ?_
  refine WR.assign rfl rfl ?_
  refine WR.nil ?_
  refine WN.seq ?_
  refine WC.seq ?_
  refine WC.mix [] mixed (by kernel_rfl) ?_
  replace tb := tb.same (Same.drew _) (by simp <;> omega)
  replace hF := hF.same (Same.drew _) (by simp <;> omega)
  replace hS := hS.trans (Same.drew _) (by simp)
  refine WR.move rfl rfl ?_
  refine WR.move rfl rfl ?_
  refine WR.conv rfl Tryz.underlying3 Tryz.underlying44 (show _ = ((i : Nat) : Int) by rw [wrap_u64 (by omega) (by omega)]) rfl ?_
  refine WR.bin rfl rfl (ar_quo (z := ((i / 8 : Nat) : Int)) (by decide) (by rw [tdiv_pos (by omega), wrap_u64 (by omega) (by omega)]; omega)) rfl ?_
  refine WR.idxK (i / 8) rfl rfl Tryz.underlying22 sz5 (by omega) (by omega) rfl ?_
  refine WR.load rfl Tryz.underlying5 rfl ((hF.cell (by omega)).trans (congrArg some hx)) rfl ?_
  refine WR.move rfl rfl ?_
  refine WR.conv rfl Tryz.underlying3 Tryz.underlying5 (wrapU8 i) rfl ?_
  refine WR.bin rfl rfl (ar_rem (z := ((i % 8 : Nat) : Int)) (by decide) (by rw [tmod_pos (by omega)]; omega)) rfl ?_
  refine WR.idxA rfl rfl Tryz.underlying49 sz5 (by omega) (by omega) rfl ?_
  refine WR.load rfl Tryz.underlying5 rfl (tb.gm (k := i % 8) rfl (by omega)) rfl ?_
  refine WR.bin rfl rfl (and_bit8 hx8 (by omega)) rfl ?_
  refine WR.bin rfl rfl (neq_bit _ _) rfl ?_
  refine WR.assign rfl rfl ?_
  refine WR.nil ?_
  refine WN.seq ?_
  refine WC.retR rfl rfl ?_
  exact ⟨rfl, hS⟩

theorem setBit {w : World} (tb : Tab w) (g o L dc t N i x : Nat) (F : Nat → Value) (hF : Row w g t N F) (hx : F (o + i / 8) = .int .u8 (x : Nat)) (hx8 : x < 256) (hoL : o + L ≤ N) (hi : i / 8 < L) (hi2 : i ≤ 1099511627776) (hgg : 7 ≤ g) :
    Ret Tryz.prog 40 #[.slice (some ⟨g, o, none⟩) L dc, .int .i64 (i : Nat)] w fun v w' => v = .tuple #[] ∧ Row w' g t N (upd F (o + i / 8) (.int .u8 ((x ||| 2 ^ (i % 8) : Nat) : Int))) ∧ Same [g] w w' := by
  have hp8 := pow_lt8 (show i % 8 < 8 by omega)
  have hS := Same.refl [g] w
  refine Ret.enter (vs := [.slice (some ⟨g, o, none⟩) L dc, .int .i64 (i : Nat)]) Tryz.func40 Tryz.ntmps40 rfl rfl ?_
  refine WC.mix [] mixed (by kernel_rfl) ?_
  replace tb := tb.same (Same.drew _) (by simp <;> omega)
  replace hF := hF.same (Same.drew _) (by simp <;> omega)
  replace hS := hS.trans (Same.drew _) (by simp)
  refine WR.move rfl rfl ?_
  refine WR.move rfl rfl ?_
  refine WR.conv rfl Tryz.underlying3 Tryz.underlying44 (show _ = ((i : Nat) : Int) by rw [wrap_u64 (by omega) (by omega)]) rfl ?_
  refine WR.bin rfl rfl (ar_quo (z := ((i / 8 : Nat) : Int)) (by decide) (by rw [tdiv_pos (by omega), wrap_u64 (by omega) (by omega)]; omega)) rfl ?_
  refine WR.idxK (i / 8) rfl rfl Tryz.underlying22 sz5 (by omega) (by omega) rfl ?_
  refine WR.load rfl Tryz.underlying5 rfl ((hF.cell (by omega)).trans (congrArg some hx)) rfl ?_
  refine WR.move rfl rfl ?_
  refine WR.conv rfl Tryz.underlying3 Tryz.underlying5 (wrapU8 i) rfl ?_
  refine WR.bin rfl rfl (ar_rem (z := ((i % 8 : Nat) : Int)) (by decide) (by rw [tmod_pos (by omega)]; omega)) rfl ?_
  refine WR.idxA rfl rfl Tryz.underlying49 sz5 (by omega) (by omega) rfl ?_
  refine WR.load rfl Tryz.underlying5 rfl (tb.gm (k := i % 8) rfl (by omega)) rfl ?_
  refine WR.bin rfl rfl (or_u8 hx8 (by omega)) rfl ?_
  refine WR.idxK (i / 8) rfl rfl Tryz.underlying22 sz5 (by omega) (by omega) rfl ?_
  refine WR.storeK rfl rfl rfl sz5 (hF.cell (by omega)) (hF.fz _) ?_
  intro w1 hn hs
  replace hF := hF.set' hn
  replace tb := tb.same hs (by simp <;> omega)
  replace hS := hS.trans hs (by simp)
  clear hn hs
  refine WR.nil ?_
  refine WN.endR rfl rfl ?_
  exact ⟨rfl, hF, hS⟩

theorem clearBit {w : World} (tb : Tab w) (g o L dc t N i x : Nat) (F : Nat → Value) (hF : Row w g t N F) (hx : F (o + i / 8) = .int .u8 (x : Nat)) (hx8 : x < 256) (hoL : o + L ≤ N) (hi : i / 8 < L) (hi2 : i ≤ 1099511627776) (hgg : 7 ≤ g) :
    Ret Tryz.prog 41 #[.slice (some ⟨g, o, none⟩) L dc, .int .i64 (i : Nat)] w fun v w' => v = .tuple #[] ∧ Row w' g t N (upd F (o + i / 8) (.int .u8 ((x &&& (255 - 2 ^ (i % 8)) : Nat) : Int))) ∧ Same [g] w w' := by
  have hp8 := pow_lt8 (show i % 8 < 8 by omega)
  have hS := Same.refl [g] w
  refine Ret.enter (vs := [.slice (some ⟨g, o, none⟩) L dc, .int .i64 (i : Nat)]) Tryz.func41 Tryz.ntmps41 rfl rfl ?_
  refine WC.mix [] mixed (by kernel_rfl) ?_
  replace tb := tb.same (Same.drew _) (by simp <;> omega)
  replace hF := hF.same (Same.drew _) (by simp <;> omega)
  replace hS := hS.trans (Same.drew _) (by simp)
  refine WR.move rfl rfl ?_
  refine WR.move rfl rfl ?_
  refine WR.conv rfl Tryz.underlying3 Tryz.underlying44 (show _ = ((i : Nat) : Int) by rw [wrap_u64 (by omega) (by omega)]) rfl ?_
  refine WR.bin rfl rfl (ar_quo (z := ((i / 8 : Nat) : Int)) (by decide) (by rw [tdiv_pos (by omega), wrap_u64 (by omega) (by omega)]; omega)) rfl ?_
  refine WR.idxK (i / 8) rfl rfl Tryz.underlying22 sz5 (by omega) (by omega) rfl ?_
  refine WR.load rfl Tryz.underlying5 rfl ((hF.cell (by omega)).trans (congrArg some hx)) rfl ?_
  refine WR.move rfl rfl ?_
  refine WR.conv rfl Tryz.underlying3 Tryz.underlying5 (wrapU8 i) rfl ?_
  refine WR.bin rfl rfl (ar_rem (z := ((i % 8 : Nat) : Int)) (by decide) (by rw [tmod_pos (by omega)]; omega)) rfl ?_
  refine WR.idxA rfl rfl Tryz.underlying49 sz5 (by omega) (by omega) rfl ?_
  refine WR.load rfl Tryz.underlying5 rfl (tb.gf (k := i % 8) rfl (by omega)) rfl ?_
  refine WR.bin rfl rfl (and_u8 hx8 (Nat.lt_of_le_of_lt (Nat.sub_le _ _) (by decide))) rfl ?_
  refine WR.idxK (i / 8) rfl rfl Tryz.underlying22 sz5 (by omega) (by omega) rfl ?_
  refine WR.storeK rfl rfl rfl sz5 (hF.cell (by omega)) (hF.fz _) ?_
  intro w1 hn hs
  replace hF := hF.set' hn
  replace tb := tb.same hs (by simp <;> omega)
  replace hS := hS.trans hs (by simp)
  clear hn hs
  refine WR.nil ?_
  refine WN.endR rfl rfl ?_
  exact ⟨rfl, hF, hS⟩

theorem set_bit_bits {x k : Nat} (hx : x < 256) (hk : k < 8) : (x ||| 2 ^ k) < 256 ∧ ∀ j, (x ||| 2 ^ k).testBit j = (x.testBit j || decide (k = j)) := by
  have hp := pow_lt8 hk
  refine ⟨Nat.or_lt_two_pow (n := 8) (by omega) (by omega), fun j => ?_⟩
  rw [Nat.testBit_or, Nat.testBit_two_pow]
theorem clear_bit_bits {x k : Nat} (hx : x < 256) (hk : k < 8) : (x &&& (255 - 2 ^ k)) < 256 ∧ ∀ j, j < 8 → (x &&& (255 - 2 ^ k)).testBit j = (x.testBit j && !decide (k = j)) := by
  refine ⟨Nat.lt_of_le_of_lt Nat.and_le_left hx, fun j hj => ?_⟩
  have := flip_bit ⟨k, hk⟩ ⟨j, hj⟩
  simp only [] at this
  rw [Nat.testBit_and, this]
  congr 2
  simp [Fin.ext_iff, eq_comm]

theorem setBitTo {w : World} (tb : Tab w) (g o L dc t N i x : Nat) (F : Nat → Value) (hF : Row w g t N F) (hx : F (o + i / 8) = .int .u8 (x : Nat)) (hx8 : x < 256) (hoL : o + L ≤ N) (hi : i / 8 < L) (hi2 : i ≤ 1099511627776) (hgg : 7 ≤ g) (y : Bool) :
    Ret Tryz.prog 35 #[.slice (some ⟨g, o, none⟩) L dc, .int .i64 (i : Nat), .bool y] w fun v w' => v = .tuple #[] ∧ (∃ x' : Nat, x' < 256 ∧ (∀ j, j < 8 → x'.testBit j = if i % 8 = j then y else x.testBit j) ∧ Row w' g t N (upd F (o + i / 8) (.int .u8 (x' : Nat)))) ∧ Same [g] w w' := by
  have hk8 : i % 8 < 8 := by omega
  refine Ret.enter (vs := [.slice (some ⟨g, o, none⟩) L dc, .int .i64 (i : Nat), .bool y]) Tryz.func35 Tryz.ntmps35 rfl rfl ?_
  refine WC.seq ?_
  refine WC.region ?_
  refine WR.move rfl rfl ?_
  refine WR.nil ?_
  refine WN.seq ?_
  refine WC.cond rfl (fun h53 => ?_) (fun h53 => ?_)
  · skip
    (try simp only [decide_eq_true_eq, decide_eq_false_iff_not, beq_iff_eq, beq_eq_false_iff_ne, bne_iff_ne, bne_eq_false_iff_eq, gt_iff_lt, ge_iff_le, Int.not_lt, Int.not_le, ne_eq, Bool.not_eq_true, Bool.not_eq_false, Bool.and_eq_true, Bool.and_eq_false_iff, Bool.or_eq_true, Bool.or_eq_false_iff] at h53)
    subst h53
    refine WC.region ?_
    refine WR.move rfl rfl ?_
    refine WR.move rfl rfl ?_
    refine WR.callF rfl rfl cf40 rfl rfl (setBit tb g o L dc t N i x F hF hx hx8 hoL hi hi2 hgg) ?_
    rintro _ w1 ⟨rfl, hF, hs⟩
    refine WR.nil ?_
    refine WN.endR rfl rfl ?_
    refine ⟨rfl, ?_, hs⟩
    first
      | exact ⟨_, (set_bit_bits hx8 hk8).1, fun j hj => by rw [(set_bit_bits hx8 hk8).2 j]; by_cases h : i % 8 = j <;> simp [h], hF⟩
      | exact ⟨_, (clear_bit_bits hx8 hk8).1, fun j hj => by rw [(clear_bit_bits hx8 hk8).2 j hj]; by_cases h : i % 8 = j <;> simp [h], hF⟩
  · skip
    (try simp only [decide_eq_true_eq, decide_eq_false_iff_not, beq_iff_eq, beq_eq_false_iff_ne, bne_iff_ne, bne_eq_false_iff_eq, gt_iff_lt, ge_iff_le, Int.not_lt, Int.not_le, ne_eq, Bool.not_eq_true, Bool.not_eq_false, Bool.and_eq_true, Bool.and_eq_false_iff, Bool.or_eq_true, Bool.or_eq_false_iff] at h53)
    subst h53
    refine WC.region ?_
    refine WR.move rfl rfl ?_
    refine WR.move rfl rfl ?_
    refine WR.callF rfl rfl cf41 rfl rfl (clearBit tb g o L dc t N i x F hF hx hx8 hoL hi hi2 hgg) ?_
    rintro _ w1 ⟨rfl, hF, hs⟩
    refine WR.nil ?_
    refine WN.endR rfl rfl ?_
    refine ⟨rfl, ?_, hs⟩
    first
      | exact ⟨_, (set_bit_bits hx8 hk8).1, fun j hj => by rw [(set_bit_bits hx8 hk8).2 j]; by_cases h : i % 8 = j <;> simp [h], hF⟩
      | exact ⟨_, (clear_bit_bits hx8 hk8).1, fun j hj => by rw [(clear_bit_bits hx8 hk8).2 j hj]; by_cases h : i % 8 = j <;> simp [h], hF⟩

end Go.Proofs.YtajgdpiodpoooaaGreatDoor.Vm
