/- The reference writes runs. -/
import Derived.Test.YthmknddfkmklfaaGreatDoorVmSpec
namespace Go.Proofs.YthmknddfkmklfaaGreatDoor.Vm
open Go Mix Go.RowKit Num
set_option maxRecDepth 20000
set_option linter.unusedSimpArgs false
theorem or128 : ∀ a, a < 256 → a ||| 128 = a % 128 + 128 := by decide
theorem or_u8 {a : Nat} (h : a < 256) : arith .or .u8 ((a : Nat) : Int) 128 = some (.int .u8 ((a % 128 + 128 : Nat) : Int)) := by
  have e : (BitVec.ofInt IntKind.u8.bits (a : Int) ||| BitVec.ofInt IntKind.u8.bits 128).toNat = a % 128 + 128 := by
    rw [BitVec.toNat_or, ofInt_toNat (by omega) (by show _ < (2 : Int) ^ 8; omega), ofInt_toNat (by omega) (by show _ < (2 : Int) ^ 8; omega)]
    simp only [Int.toNat_natCast]
    exact or128 a h
  unfold arith
  simp only [e]
  rw [wrap_u8 (by omega) (by omega)]
theorem w8_nat (t : Nat) : IntKind.u8.wrap ((t : Nat) : Int) = ((t % 256 : Nat) : Int) := by
  simp [IntKind.wrap, IntKind.bits, IntKind.signed]
theorem sp_quo {a b : Nat} (ha : a ≤ 1099511627776) : IntKind.i64.wrap ((a : Int).tdiv (b : Int)) = ((a / b : Nat) : Int) := by
  have h : (a : Int).tdiv (b : Int) = ((a / b : Nat) : Int) := by rw [tdiv_pos (by omega)]; rfl
  have h2 := Nat.div_le_self a b
  rw [h]
  generalize a / b = q at h2
  exact wrap_i64 (by omega) (by omega)
theorem sp_rem (a b : Nat) : (a : Int).tmod (b : Int) = ((a % b : Nat) : Int) := by rw [tmod_pos (by omega)]; rfl
theorem sp_shr {a r k : Nat} (h : r ≤ k) : ((a : Nat) : Int).fdiv (2 ^ min (((r : Nat) : Int).toNat) k) = ((a / 2 ^ r : Nat) : Int) := by
  rw [Int.toNat_natCast, Nat.min_eq_left h, Int.fdiv_eq_ediv_of_nonneg _ (by exact_mod_cast Nat.zero_le _)]
  norm_cast
theorem and1_u64 {a : Nat} (h : a < 18446744073709551616) : arith .and .u64 (a : Int) 1 = some (.int .u64 ((a % 2 : Nat) : Int)) := and_mask a 1 (by omega) (by decide)
theorem shl1_u8 {r : Nat} (hr : r < 8) : IntKind.u8.wrap (1 * 2 ^ min (((r : Nat) : Int).toNat) IntKind.u8.bits) = ((2 ^ r : Nat) : Int) := by
  rcases (show r = 0 ∨ r = 1 ∨ r = 2 ∨ r = 3 ∨ r = 4 ∨ r = 5 ∨ r = 6 ∨ r = 7 by omega) with rfl | rfl | rfl | rfl | rfl | rfl | rfl | rfl <;> rfl
theorem or8_step {B i : Nat} (hb : bts B i 1 = 1) : arith .or .u8 ((gat B 8 i (i / 8) : Nat) : Int) ((2 ^ (i % 8) : Nat) : Int) = some (.int .u8 ((gat B 8 (i + 1) (i / 8) : Nat) : Int)) := by
  have h1 := gat_bit B 8 i (by decide)
  have h2 := gat_step B 8 i (by decide)
  have h4 : gat B 8 (i + 1) (i / 8) < 256 := by
    unfold gat
    have := bts_lt B (8 * (i / 8)) (min 8 (i + 1 - 8 * (i / 8)))
    have h5 : 2 ^ min 8 (i + 1 - 8 * (i / 8)) ≤ 2 ^ 8 := Nat.pow_le_pow_right (by decide) (by omega)
    omega
  rw [hb, Nat.one_mul] at h2
  have h3 : gat B 8 i (i / 8) ||| 2 ^ (i % 8) = gat B 8 i (i / 8) + 2 ^ (i % 8) := by
    have := Nat.two_pow_add_eq_or_of_lt h1 1
    rw [Nat.mul_one] at this
    rw [Nat.or_comm, ← this, Nat.add_comm]
  have e : (BitVec.ofInt IntKind.u8.bits ((gat B 8 i (i / 8) : Nat) : Int) ||| BitVec.ofInt IntKind.u8.bits ((2 ^ (i % 8) : Nat) : Int)).toNat = gat B 8 (i + 1) (i / 8) := by
    have h6 : gat B 8 i (i / 8) < 256 := by omega
    have h7 : 2 ^ (i % 8) < 256 := by omega
    rw [BitVec.toNat_or, ofInt_toNat (by omega) (by show _ < (2 : Int) ^ 8; omega), ofInt_toNat (by omega) (by show _ < (2 : Int) ^ 8; omega)]
    simp only [Int.toNat_natCast]
    rw [h3, h2]
  unfold arith
  simp only [e]
  rw [wrap_u8 (by omega) (by omega)]

set_option maxHeartbeats 400000 in
theorem putVlq {w : World} (n : Nat) (hn : n < 16384) :
    Ret Tryz.prog 40 #[.int .u64 (n : Nat)] w fun v w' => Own w' w.heap.size 5 v (u8s (Rl.vlq n)) ∧ Same [] w w' := by
  have hS := Same.refl [] w
  obtain ⟨H, hH⟩ : ∃ x, x = w.heap.size := ⟨_, rfl⟩
  rw [← hH]
  have hw0 := Nat.le_of_eq hH
  refine Ret.enter (vs := [.int .u64 (n : Nat)]) Tryz.func40 Tryz.ntmps40 rfl rfl ?_
  refine WC.seq (WC.region ?_)
  refine WR.assign rfl rfl ?_
  refine WR.nil (WN.seq ?_)
  refine WC.seq (WC.region ?_)
  refine WR.assign rfl rfl ?_
  refine WR.nil (WN.seq ?_)
  refine WC.seq (WC.block ?_)
  have hO : Own w H 5 (.slice none 0 0) (u8s []) := Own.nil _ _ _
  refine WC.loop (fun s : Nat × Value => [(0, .int .u64 (s.1 : Nat)), (3, s.2)]) (fun k s w' => s.1 = k ∧ H ≤ w'.heap.size ∧ Same [] w w' ∧ s.1 < 16384 ∧ ∃ pre : List Nat, pre.length ≤ 16384 - s.1 ∧ pre ++ Rl.vlq s.1 = Rl.vlq n ∧ Own w' H 5 s.2 (u8s pre)) n (n, .slice none 0 0) ⟨rfl, rfl, trivial⟩ ⟨rfl, hw0, hS, hn, [], by simp, rfl, hO⟩ ?_
  clear hS hw0 hO
  rintro k ⟨t, u⟩ w1 ⟨hk, hw0, hS, ht, pre, hpl, hpre, hO⟩
  simp only at hk ht hpl hpre hO
  refine WC.seq (WC.seq (WC.region ?_))
  refine WR.move rfl rfl ?_
  refine WR.bin rfl rfl rfl rfl ?_
  refine WR.nil (WN.seq ?_)
  refine WC.cond rfl (fun h8 => ?_) (fun h8 => ?_)
  · skip
    (try simp only [decide_eq_true_eq, decide_eq_false_iff_not, beq_iff_eq, beq_eq_false_iff_ne, bne_iff_ne, bne_eq_false_iff_eq, gt_iff_lt, ge_iff_le, Int.not_lt, Int.not_le, ne_eq, Bool.not_eq_true, Bool.not_eq_false, Bool.and_eq_true, Bool.and_eq_false_iff, Bool.or_eq_true, Bool.or_eq_false_iff] at h8)
    refine WC.skip (WN.seq ?_)
    refine WC.block (WC.seq (WC.region ?_))
    refine WR.move rfl rfl ?_
    refine WR.move rfl rfl ?_
    refine WR.conv rfl Tryz.underlying33 Tryz.underlying5 (w8_nat t) rfl ?_
    refine WR.bin rfl rfl (v := .int .u8 ((t % 128 + 128 : Nat) : Int)) (by rw [or_u8 (Nat.mod_lt _ (by decide)), show t % 256 % 128 = t % 128 by omega]) rfl ?_
    obtain ⟨nb, hnb⟩ : ∃ x, x = w1.heap.size := ⟨_, rfl⟩
    refine WR.buildSl (E := 5) (cs := #[.int .u8 (t % 128 + 128 : Nat)]) rfl rfl (fun w => by kernel_rfl) rfl rfl ?_
    rw [← hnb]
    intro w2 hM hs
    replace hw0 := Nat.le_trans hw0 hs.size
    replace hS := hS.trans hs (by first | (simp <;> omega) | (intro hm; have := hS9 _ hm; omega) | (intro g hm; have := hS9 _ hm; omega) | (intro g hm; have := hS9 _ hm; exact .inr (by omega)))
    (try replace hO := hO.same hs (by first | (simp <;> omega) | (intro hm; have := hS9 _ hm; omega) | (intro g hm; have := hS9 _ hm; omega) | (intro g hm; have := hS9 _ hm; exact .inr (by omega))))
    clear hs
    refine WR.appendL rfl hO rfl (show Ls _ 0 _ (u8s [t % 128 + 128]) from hM.lsOne) (fun i hi => u8s_one hi) Tryz.underlying28 mk5 rfl (by decide) (by simp [u8s_length] <;> omega) (by omega) rfl rfl ?_
    intro u2 w3 S9 hn hs hS9
    replace hO := hn
    replace hw0 := Nat.le_trans hw0 hs.size
    replace hS := hS.trans hs (by first | (simp <;> omega) | (intro hm; have := hS9 _ hm; omega) | (intro g hm; have := hS9 _ hm; omega) | (intro g hm; have := hS9 _ hm; exact .inr (by omega)))
    (try replace hM := hM.same hs (by first | (simp <;> omega) | (intro hm; have := hS9 _ hm; omega) | (intro g hm; have := hS9 _ hm; omega) | (intro g hm; have := hS9 _ hm; exact .inr (by omega))))
    clear hn hs hS9
    refine WR.assign rfl rfl ?_
    refine WR.nil (WN.seq (WC.region ?_))
    refine WR.move rfl rfl ?_
    refine WR.shr rfl rfl (by decide) (fdiv_c (D := 128) rfl (by decide)) rfl ?_
    refine WR.assign rfl rfl ?_
    refine WR.nil (WN.block ?_)
    exact WN.loop (t / 128) (t / 128, u2) (by omega) ⟨kint rfl (by show _ = ((t / 128 : Nat) : Int); omega), rfl, trivial⟩ ⟨rfl, hw0, hS, by show t / 128 < 16384; omega, pre ++ [t % 128 + 128], by simp; omega, by rw [← hpre, Rl.vlq_ge (u := t) (by omega), List.append_assoc]; rfl, by rw [u8s_append]; exact hO⟩
  · skip
    (try simp only [decide_eq_true_eq, decide_eq_false_iff_not, beq_iff_eq, beq_eq_false_iff_ne, bne_iff_ne, bne_eq_false_iff_eq, gt_iff_lt, ge_iff_le, Int.not_lt, Int.not_le, ne_eq, Bool.not_eq_true, Bool.not_eq_false, Bool.and_eq_true, Bool.and_eq_false_iff, Bool.or_eq_true, Bool.or_eq_false_iff] at h8)
    refine WC.exit rfl ?_
    refine WN.seq (WC.seq (WC.region ?_))
    refine WR.move rfl rfl ?_
    refine WR.move rfl rfl ?_
    refine WR.conv rfl Tryz.underlying33 Tryz.underlying5 (w8_nat t) rfl ?_
    obtain ⟨nb, hnb⟩ : ∃ x, x = w1.heap.size := ⟨_, rfl⟩
    refine WR.buildSl (E := 5) (cs := #[.int .u8 (t % 256 : Nat)]) rfl rfl (fun w => by kernel_rfl) rfl rfl ?_
    rw [← hnb]
    intro w2 hM hs
    replace hw0 := Nat.le_trans hw0 hs.size
    replace hS := hS.trans hs (by first | (simp <;> omega) | (intro hm; have := hS9 _ hm; omega) | (intro g hm; have := hS9 _ hm; omega) | (intro g hm; have := hS9 _ hm; exact .inr (by omega)))
    (try replace hO := hO.same hs (by first | (simp <;> omega) | (intro hm; have := hS9 _ hm; omega) | (intro g hm; have := hS9 _ hm; omega) | (intro g hm; have := hS9 _ hm; exact .inr (by omega))))
    clear hs
    refine WR.appendL rfl hO rfl (show Ls _ 0 _ (u8s [t % 256]) from hM.lsOne) (fun i hi => u8s_one hi) Tryz.underlying28 mk5 rfl (by decide) (by simp [u8s_length] <;> omega) (by omega) rfl rfl ?_
    intro u2 w3 S9 hn hs hS9
    replace hO := hn
    replace hw0 := Nat.le_trans hw0 hs.size
    replace hS := hS.trans hs (by first | (simp <;> omega) | (intro hm; have := hS9 _ hm; omega) | (intro g hm; have := hS9 _ hm; omega) | (intro g hm; have := hS9 _ hm; exact .inr (by omega)))
    (try replace hM := hM.same hs (by first | (simp <;> omega) | (intro hm; have := hS9 _ hm; omega) | (intro g hm; have := hS9 _ hm; omega) | (intro g hm; have := hS9 _ hm; exact .inr (by omega))))
    clear hn hs hS9
    refine WR.assign rfl rfl ?_
    refine WR.nil (WN.seq ?_)
    refine WC.retR rfl rfl ?_
    refine ⟨?_, hS⟩
    rw [← hpre, Rl.vlq_lt (u := t) (by omega), u8s_append]
    rw [show t % 256 = t by omega] at hO
    exact hO

set_option maxHeartbeats 400000 in
theorem packBits {w : World} (l : List Nat) (c W N cc B0 : Nat) (A : Option Addr) (hl : Ls w B0 (.slice A N cc) (u64s l)) (hN : N = 8 * c) (hll : l.length = 8 * c) (hc : c ≤ 1024) (hW : 1 ≤ W) (hW2 : W ≤ 20) (hv : ∀ v, v ∈ l → v < 2 ^ W) :
    Ret Tryz.prog 41 #[.slice A N cc, .int .i64 (W : Nat)] w fun v w' => ∃ u, v = u ∧ Ls w' w.heap.size u (u8s (Rl.pk W l)) ∧ Same [] w w' := by
  have hS := Same.refl [] w
  obtain ⟨H, hH⟩ : ∃ x, x = w.heap.size := ⟨_, rfl⟩
  replace hl : Lu w H (.slice A N cc) (u64s l) := by rw [hH]; exact hl.lu
  obtain ⟨M, hM1⟩ : ∃ M, M = c * W := ⟨_, rfl⟩
  have hMW : M ≤ 1024 * 20 := by rw [hM1]; exact Nat.mul_le_mul hc hW2
  have hmul : (N : Int) * (W : Int) = ((8 * M : Nat) : Int) := by rw [hN, hM1, ← Int.natCast_mul]; congr 1; rw [Nat.mul_assoc]
  obtain ⟨B, hB⟩ : ∃ B, B = Rl.pn W l := ⟨_, rfl⟩
  have hlu : (u64s l).length = 8 * c := by rw [u64s_length]; exact hll
  refine Ret.enter (vs := [.slice A N cc, .int .i64 (W : Nat)]) Tryz.func41 Tryz.ntmps41 rfl rfl ?_
  refine WC.seq (WC.region ?_)
  refine WR.assign rfl rfl ?_
  refine WR.nil (WN.seq ?_)
  refine WC.seq (WC.region ?_)
  refine WR.move rfl rfl ?_
  refine WR.lenS rfl Tryz.underlying37 rfl ?_
  refine WR.move rfl rfl ?_
  refine WR.bin rfl rfl (ar_mul (z := ((8 * M : Nat) : Int)) (by rw [hmul, wrap_i64 (by omega) (by omega)])) rfl ?_
  (refine WR.bin rfl rfl (ar_add (z := ((8 * M + 7 : Nat) : Int)) ?_) rfl ?_; (rw [wrap_i64 (by omega) (by omega)]; omega))
  refine WR.bin rfl rfl (ar_quo (z := ((M : Nat) : Int)) (by decide) (by have h9 := sp_quo (a := 8 * M + 7) (b := 8) (by omega); rw [show (8 * M + 7) / 8 = M by omega] at h9; exact h9)) rfl ?_
  obtain ⟨bM, hbM⟩ : ∃ x, x = w.heap.size := ⟨_, rfl⟩
  refine WR.make (n := M) rfl rfl Tryz.underlying28 mk5 rfl (by decide) (by omega) rfl rfl ?_
  rw [← hbM]
  intro w1 hM hs
  replace hS := hS.trans hs (by simp <;> omega)
  (try replace hl := hl.same hs (by simp <;> omega))
  (try replace hlr := hlr.same hs (by simp <;> omega) hlt)
  (try replace hlt := Nat.lt_of_lt_of_le hlt hs.size)
  clear hs
  refine WR.assign rfl rfl ?_
  refine WR.nil (WN.seq ?_)
  refine WC.seq (WC.seq (WC.region ?_))
  refine WR.assign rfl rfl ?_
  refine WR.nil (WN.seq (WC.block ?_))
  have hF : ∀ q, q < M → (fun _ => Value.int .u8 0 : Nat → Value) q = .int .u8 (gat B 8 0 q : Nat) := fun q _ => by rw [gat_zero]; rfl
  refine WC.loop (fun i : Nat => [(0, .slice A N cc), (1, .int .i64 (W : Nat)), (5, .slice (some ⟨bM, 0, none⟩) M M), (6, .int .i64 (i : Nat))]) (fun m i w' => i + m = 8 * M ∧ Same [] w w' ∧ Lu w' H (.slice A N cc) (u64s l) ∧ ∃ F, Row w' bM 5 M F ∧ ∀ q, q < M → F q = .int .u8 (gat B 8 i q : Nat)) (8 * M) 0 ⟨rfl, rfl, rfl, rfl, trivial⟩ ⟨by omega, hS, hl, _, hM, hF⟩ ?_
  clear hS hM hF hl
  rintro m i w2 ⟨hm, hS, hl, F, hM, hF⟩
  rcases (show i < 8 * M ∨ i = 8 * M by omega) with hi | hi
  · skip
    obtain ⟨g, o, cc2, he, hgH, hlt, hlr⟩ := hl.lit (by rw [hlu]; have := Nat.pos_of_ne_zero (n := c) (fun h => by rw [h, Nat.zero_mul] at hM1; omega); omega)
    cases he
    obtain ⟨q, hq⟩ : ∃ q, q = i / W := ⟨_, rfl⟩
    have hq1 : q < 8 * c := by rw [hq]; exact Nat.div_lt_of_lt_mul (by rw [show W * (8 * c) = 8 * M by rw [hM1, Nat.mul_left_comm, Nat.mul_comm W c]]; exact hi)
    have hr1 : i % W < W := Nat.mod_lt _ hW
    obtain ⟨x, hx⟩ : ∃ x, x = l.getD q 0 := ⟨_, rfl⟩
    have hxl : x < 2 ^ W := by rw [hx, List.getD_eq_getElem?_getD, List.getElem?_eq_getElem (by omega)]; exact hv _ (List.getElem_mem _)
    have hx20 : 2 ^ W ≤ 2 ^ 20 := Nat.pow_le_pow_right (by decide) hW2
    have hxd : x / 2 ^ (i % W) < 18446744073709551616 := Nat.lt_of_le_of_lt (Nat.div_le_self _ _) (by omega)
    have hbit : x / 2 ^ (i % W) % 2 = bts B i 1 := by
      have h1 := Rl.pn_at (W := W) (l := l) (j := q) hv (by omega)
      rw [← hB, ← hx] at h1
      have h2 := bts_bts (B := B) (p := W * q) (w := W) (q := i % W) (v := 1) (by omega)
      rw [h1, show W * q + i % W = i by rw [hq]; exact Nat.div_add_mod i W] at h2
      rw [← h2]
      unfold bts
      simp
    have hi8 : i / 8 < M := by omega
    refine WC.seq (WC.seq (WC.region ?_))
    refine WR.move rfl rfl ?_
    refine WR.move rfl rfl ?_
    refine WR.lenS rfl Tryz.underlying37 rfl ?_
    refine WR.move rfl rfl ?_
    refine WR.bin rfl rfl (ar_mul (z := ((8 * M : Nat) : Int)) (by rw [hmul, wrap_i64 (by omega) (by omega)])) rfl ?_
    refine WR.bin rfl rfl rfl rfl ?_
    refine WR.nil (WN.seq ?_)
    refine WC.cond rfl (fun h43 => ?_) (fun h43 => ?_)
    · skip
      (try simp only [decide_eq_true_eq, decide_eq_false_iff_not, beq_iff_eq, beq_eq_false_iff_ne, bne_iff_ne, bne_eq_false_iff_eq, gt_iff_lt, ge_iff_le, Int.not_lt, Int.not_le, ne_eq, Bool.not_eq_true, Bool.not_eq_false, Bool.and_eq_true, Bool.and_eq_false_iff, Bool.or_eq_true, Bool.or_eq_false_iff] at h43)
      refine WC.skip (WN.seq ?_)
      refine WC.seq (WC.block (WC.seq ?_))
      refine WC.mix [] mixed (by kernel_rfl) ?_
      replace hS := hS.trans (Same.drew _) (by simp <;> omega)
      (try replace hl := hl.same (Same.drew _) (by simp <;> omega))
      (try replace hlr := hlr.same (Same.drew _) (by simp <;> omega) hlt)
      (try replace hlt := Nat.lt_of_lt_of_le hlt (Same.drew _).size)
      (try replace hM := hM.same (Same.drew _) (by simp <;> omega))
      refine WR.move rfl rfl ?_
      refine WR.move rfl rfl ?_
      refine WR.move rfl rfl ?_
      refine WR.bin rfl rfl (ar_quo (z := ((q : Nat) : Int)) (by omega) (by rw [hq]; exact sp_quo (by omega))) rfl ?_
      refine WR.idx rfl rfl Tryz.underlying37 sz33 (by omega) (by omega) rfl ?_
      refine WR.load rfl Tryz.underlying33 rfl (show _ = some (Value.int .u64 (x : Nat)) by rw [Nat.mul_one, hx]; exact (hlr q (by omega)).trans (congrArg some (u64s_getD (by omega)))) rfl ?_
      refine WR.move rfl rfl ?_
      refine WR.move rfl rfl ?_
      refine WR.bin rfl rfl (ar_rem (z := ((i % W : Nat) : Int)) (by omega) (sp_rem i W)) rfl ?_
      refine WR.shr rfl rfl (by omega) (z := ((x / 2 ^ (i % W) : Nat) : Int)) (sp_shr (by show i % W ≤ 64; omega)) rfl ?_
      refine WR.bin rfl rfl (v := .int .u64 ((bts B i 1 : Nat) : Int)) (by rw [and1_u64 hxd, hbit]) rfl ?_
      refine WR.bin rfl rfl rfl rfl ?_
      refine WR.nil (WN.seq ?_)
      refine WC.cond rfl (fun h44 => ?_) (fun h44 => ?_)
      · skip
        (try simp only [decide_eq_true_eq, decide_eq_false_iff_not, beq_iff_eq, beq_eq_false_iff_ne, bne_iff_ne, bne_eq_false_iff_eq, gt_iff_lt, ge_iff_le, Int.not_lt, Int.not_le, ne_eq, Bool.not_eq_true, Bool.not_eq_false, Bool.and_eq_true, Bool.and_eq_false_iff, Bool.or_eq_true, Bool.or_eq_false_iff] at h44)
        have hb1 : bts B i 1 = 1 := by omega
        refine WC.mix [] mixed (by kernel_rfl) ?_
        replace hS := hS.trans (Same.drew _) (by simp <;> omega)
        (try replace hl := hl.same (Same.drew _) (by simp <;> omega))
        (try replace hlr := hlr.same (Same.drew _) (by simp <;> omega) hlt)
        (try replace hlt := Nat.lt_of_lt_of_le hlt (Same.drew _).size)
        (try replace hM := hM.same (Same.drew _) (by simp <;> omega))
        refine WR.move rfl rfl ?_
        refine WR.move rfl rfl ?_
        refine WR.bin rfl rfl (ar_quo (z := ((i / 8 : Nat) : Int)) (by decide) (sp_quo (b := 8) (by omega))) rfl ?_
        refine WR.idx rfl rfl Tryz.underlying28 sz5 (by omega) (by omega) rfl ?_
        refine WR.load rfl Tryz.underlying5 rfl (show _ = some (Value.int .u8 (gat B 8 i (i / 8) : Nat)) by rw [Nat.mul_one, Nat.zero_add]; exact (hM.cell (i := i / 8) hi8).trans (congrArg some (hF _ hi8))) rfl ?_
        refine WR.move rfl rfl ?_
        refine WR.bin rfl rfl (ar_rem (z := ((i % 8 : Nat) : Int)) (by decide) (sp_rem i 8)) rfl ?_
        refine WR.shl rfl rfl (by omega) (z := ((2 ^ (i % 8) : Nat) : Int)) (shl1_u8 (Nat.mod_lt _ (by decide))) rfl ?_
        refine WR.bin rfl rfl (v := .int .u8 ((gat B 8 (i + 1) (i / 8) : Nat) : Int)) (or8_step hb1) rfl ?_
        refine WR.idx rfl rfl Tryz.underlying28 sz5 (by omega) (by omega) rfl ?_
        refine WR.storeK rfl rfl rfl sz5 (hM.cell (by omega)) (hM.fz _) ?_
        intro w3 hn hs
        replace hM := hM.set' hn
        replace hS := hS.trans hs (by simp <;> omega)
        (try replace hl := hl.same hs (by simp <;> omega))
        (try replace hlr := hlr.same hs (by simp <;> omega) hlt)
        (try replace hlt := Nat.lt_of_lt_of_le hlt hs.size)
        clear hn hs
        refine WR.nil (WN.block ?_)
        refine WN.seq (WC.region ?_)
        refine WR.move rfl rfl ?_
        (refine WR.bin rfl rfl (ar_add (z := ((i + 1 : Nat) : Int)) ?_) rfl ?_; (rw [wrap_i64 (by omega) (by omega)]; omega))
        refine WR.assign rfl rfl ?_
        refine WR.nil ?_
        have hF2 : ∀ q', q' < M → F q' = .int .u8 (gat B 8 (i + 1) q' : Nat) ∨ q' = i / 8 ∧ bts B i 1 = 1 := fun q' hq' => by
          by_cases h : q' = i / 8
          · subst h
            by_cases hb : bts B i 1 = 1
            · exact .inr ⟨rfl, hb⟩
            · refine .inl ?_
              rw [hF _ hq', gat_step _ _ _ (by decide), show bts B i 1 = 0 by have := bts_lt B i 1; omega, Nat.zero_mul, Nat.add_zero]
          · refine .inl ?_
            rw [hF _ hq', gat_other _ _ _ _ (by decide) h]
        first
          | exact WN.loop (m - 1) (i + 1) (by omega) ⟨rfl, rfl, rfl, kint rfl (by omega), trivial⟩ ⟨by omega, hS, hl, _, hM, fun q' hq' => by rcases hF2 q' hq' with h | ⟨_, h⟩; exact h; omega⟩
          | exact WN.loop (m - 1) (i + 1) (by omega) ⟨rfl, rfl, rfl, kint rfl (by omega), trivial⟩ ⟨by omega, hS, hl, _, hM, fun q' hq' => by
              unfold upd
              rcases hF2 q' hq' with h | ⟨h, _⟩
              · by_cases hqq : q' = 0 + Int.toNat ((i / 8 : Nat) : Int) * 1
                · rw [if_pos hqq, show q' = i / 8 by rw [hqq, Int.toNat_natCast]; omega]
                · rw [if_neg hqq]; exact h
              · rw [if_pos (by rw [h, Int.toNat_natCast]; omega), h]⟩
      · skip
        (try simp only [decide_eq_true_eq, decide_eq_false_iff_not, beq_iff_eq, beq_eq_false_iff_ne, bne_iff_ne, bne_eq_false_iff_eq, gt_iff_lt, ge_iff_le, Int.not_lt, Int.not_le, ne_eq, Bool.not_eq_true, Bool.not_eq_false, Bool.and_eq_true, Bool.and_eq_false_iff, Bool.or_eq_true, Bool.or_eq_false_iff] at h44)
        have hb0 : bts B i 1 = 0 := by have := bts_lt B i 1; omega
        refine WC.skip (WN.block ?_)
        refine WN.seq (WC.region ?_)
        refine WR.move rfl rfl ?_
        first
          | (refine WR.bin rfl rfl (ar_add (wrap_i64 ?_ ?_)) rfl ?_; (omega); (omega))
          | refine WR.bin rfl rfl (ar_add rfl) rfl ?_
        refine WR.assign rfl rfl ?_
        refine WR.nil ?_
        have hF2 : ∀ q', q' < M → F q' = .int .u8 (gat B 8 (i + 1) q' : Nat) ∨ q' = i / 8 ∧ bts B i 1 = 1 := fun q' hq' => by
          by_cases h : q' = i / 8
          · subst h
            by_cases hb : bts B i 1 = 1
            · exact .inr ⟨rfl, hb⟩
            · refine .inl ?_
              rw [hF _ hq', gat_step _ _ _ (by decide), show bts B i 1 = 0 by have := bts_lt B i 1; omega, Nat.zero_mul, Nat.add_zero]
          · refine .inl ?_
            rw [hF _ hq', gat_other _ _ _ _ (by decide) h]
        first
          | exact WN.loop (m - 1) (i + 1) (by omega) ⟨rfl, rfl, rfl, kint rfl (by omega), trivial⟩ ⟨by omega, hS, hl, _, hM, fun q' hq' => by rcases hF2 q' hq' with h | ⟨_, h⟩; exact h; omega⟩
          | exact WN.loop (m - 1) (i + 1) (by omega) ⟨rfl, rfl, rfl, kint rfl (by omega), trivial⟩ ⟨by omega, hS, hl, _, hM, fun q' hq' => by
              unfold upd
              rcases hF2 q' hq' with h | ⟨h, _⟩
              · by_cases hqq : q' = 0 + Int.toNat ((i / 8 : Nat) : Int) * 1
                · rw [if_pos hqq, show q' = i / 8 by rw [hqq, Int.toNat_natCast]; omega]
                · rw [if_neg hqq]; exact h
              · rw [if_pos (by rw [h, Int.toNat_natCast]; omega), h]⟩
    · skip
      (try simp only [decide_eq_true_eq, decide_eq_false_iff_not, beq_iff_eq, beq_eq_false_iff_ne, bne_iff_ne, bne_eq_false_iff_eq, gt_iff_lt, ge_iff_le, Int.not_lt, Int.not_le, ne_eq, Bool.not_eq_true, Bool.not_eq_false, Bool.and_eq_true, Bool.and_eq_false_iff, Bool.or_eq_true, Bool.or_eq_false_iff] at h43)
      omega
  · skip
    subst hi
    refine WC.seq (WC.seq (WC.region ?_))
    refine WR.move rfl rfl ?_
    refine WR.move rfl rfl ?_
    refine WR.lenS rfl Tryz.underlying37 rfl ?_
    refine WR.move rfl rfl ?_
    refine WR.bin rfl rfl (ar_mul (z := ((8 * M : Nat) : Int)) (by rw [hmul, wrap_i64 (by omega) (by omega)])) rfl ?_
    refine WR.bin rfl rfl rfl rfl ?_
    refine WR.nil (WN.seq ?_)
    refine WC.cond rfl (fun h43 => ?_) (fun h43 => ?_)
    · skip
      (try simp only [decide_eq_true_eq, decide_eq_false_iff_not, beq_iff_eq, beq_eq_false_iff_ne, bne_iff_ne, bne_eq_false_iff_eq, gt_iff_lt, ge_iff_le, Int.not_lt, Int.not_le, ne_eq, Bool.not_eq_true, Bool.not_eq_false, Bool.and_eq_true, Bool.and_eq_false_iff, Bool.or_eq_true, Bool.or_eq_false_iff] at h43)
      omega
    · skip
      (try simp only [decide_eq_true_eq, decide_eq_false_iff_not, beq_iff_eq, beq_eq_false_iff_ne, bne_iff_ne, bne_eq_false_iff_eq, gt_iff_lt, ge_iff_le, Int.not_lt, Int.not_le, ne_eq, Bool.not_eq_true, Bool.not_eq_false, Bool.and_eq_true, Bool.and_eq_false_iff, Bool.or_eq_true, Bool.or_eq_false_iff] at h43)
      refine WC.exit rfl ?_
      refine WN.seq (WC.seq (WC.region ?_))
      refine WR.move rfl rfl ?_
      refine WR.assign rfl rfl ?_
      refine WR.nil (WN.seq ?_)
      refine WC.retR rfl rfl ?_
      refine ⟨_, rfl, Row.ls (o := 0) hM (by rw [u8s_length, Rl.pk_length, hll, Nat.mul_assoc, ← hM1]; omega) (by omega) (by omega) (fun q hq => ?_), hS⟩
      have hql : q < (Rl.pk W l).length := by rw [Rl.pk_length, hll, Nat.mul_assoc, ← hM1]; omega
      rw [Nat.zero_add, hF q hq, u8s_getD hql, show 8 * M = M * 8 by omega, gat_full B 8 M q hq]
      simp [Rl.pk, hll, Nat.mul_assoc, ← hM1, ← hB, show q < (8 * M + 7) / 8 by omega]

end Go.Proofs.YthmknddfkmklfaaGreatDoor.Vm
