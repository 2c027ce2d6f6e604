/- The reference: numbers unpacked bit by bit; batches of them. -/
import Derived.Test.YtajgdpiodpoooaaGreatDoorSpA
import Derived.Test.YtajgdpiodpoooaaGreatDoorFnM
namespace Go.Proofs.YtajgdpiodpoooaaGreatDoor.Sp
open Go Mix Go.RowKit Num Vm
set_option maxRecDepth 20000
set_option linter.unusedSimpArgs false
theorem quo_nat {a b : Nat} (ha : a ≤ 1099511627776) : IntKind.i64.wrap ((a : Int).tdiv (b : Int)) = ((a / b : Nat) : Int) := by
  have h : (a : Int).tdiv (b : Int) = ((a / b : Nat) : Int) := by rw [tdiv_pos (by omega)]; rfl
  have h2 := Nat.div_le_self a b
  rw [h]
  generalize a / b = q at h2
  exact wrap_i64 (by omega) (by omega)
theorem rem_nat (a b : Nat) : (a : Int).tmod (b : Int) = ((a % b : Nat) : Int) := by rw [tmod_pos (by omega)]; rfl
theorem shr_nat {a r k : Nat} (h : r ≤ k) : ((a : Nat) : Int).fdiv (2 ^ min (((r : Nat) : Int).toNat) k) = ((a / 2 ^ r : Nat) : Int) := by
  rw [Int.toNat_natCast, Nat.min_eq_left h, Int.fdiv_eq_ediv_of_nonneg _ (by exact_mod_cast Nat.zero_le _)]
  norm_cast
theorem and_one {a : Nat} (h : a < 256) : arith .and .u8 (a : Int) 1 = some (.int .u8 ((a % 2 : Nat) : Int)) := by
  have e : (BitVec.ofInt IntKind.u8.bits (a : Int) &&& BitVec.ofInt IntKind.u8.bits 1).toNat = a % 2 := by
    rw [BitVec.toNat_and, ofInt_toNat (by omega) (by show _ < (2 : Int) ^ 8; omega), ofInt_toNat (by omega) (by show _ < (2 : Int) ^ 8; omega)]
    simp
  unfold arith
  simp only [e]
  rw [wrap_u8 (by omega) (by omega)]
theorem shl_bit {b r : Nat} (hb : b < 2) (hr : r < 64) : IntKind.u64.wrap (((b : Nat) : Int) * 2 ^ min (((r : Nat) : Int).toNat) IntKind.u64.bits) = ((b : Nat) : Int) * ((2 ^ r : Nat) : Int) := by
  have h2 : 2 ^ r ≤ 2 ^ 63 := Nat.pow_le_pow_right (by decide) (by omega)
  rw [Int.toNat_natCast, Nat.min_eq_left (show r ≤ IntKind.u64.bits by show r ≤ 64; omega)]
  rw [show ((2 : Int) ^ r) = ((2 ^ r : Nat) : Int) by norm_cast]
  rcases (show b = 0 ∨ b = 1 by omega) with rfl | rfl
  · simp; rfl
  · rw [show (((1 : Nat) : Int) * ((2 ^ r : Nat) : Int)) = ((2 ^ r : Nat) : Int) by simp]
    generalize 2 ^ r = D at h2
    exact wrap_u64 (by omega) (by omega)
theorem or_step {B W i : Nat} (hW : 0 < W) (hW2 : W ≤ 64) : arith .or .u64 ((gat B W i (i / W) : Nat) : Int) (((bts B i 1 : Nat) : Int) * ((2 ^ (i % W) : Nat) : Int)) = some (.int .u64 ((gat B W (i + 1) (i / W) : Nat) : Int)) := by
  have h1 := gat_bit B W i hW
  have h2 := gat_step B W i hW
  have h3 := gat_lt B W (i + 1) (i / W) hW2
  rw [h2] at h3
  rw [ar_or (i % W) rfl (by omega) (by omega) (by omega) (cast_am_lt h3), h2, cast_am]
theorem mk28 : (Tryz.prog.info? 28).map (fun i => (i.size, i.bytes, i.zero)) = some (1, 8, some (.int .u64 0)) := by kernel_rfl
set_option maxHeartbeats 400000 in
theorem unpackBits {w : World} (db dO len cap W n : Nat) (d : Nat → Nat) (hd : Src2 w 0 db dO len cap d) (hW : 1 ≤ W) (hW2 : W ≤ 64) (hl : len ≤ 4096) (hn : n = 8 * len / W) (hg : 7 ≤ w.heap.size) :
    Ret Tryz.prog 7 #[.slice (ad db dO) len cap, .int .i64 0, .int .i64 (W : Nat), .int .i64 (n : Nat)] w fun v w' => ∃ bM, v = .tuple #[.slice (some ⟨bM, 0, none⟩) n n, .bool true] ∧ Ls w' w.heap.size (.slice (some ⟨bM, 0, none⟩) n n) (u64s ((List.range n).map fun q => bts (num d len) (W * q) W)) ∧ Same [] w w' := by
  have hS := Same.refl [] w
  obtain ⟨M, hM1⟩ : ∃ M, M = n * W := ⟨_, rfl⟩
  have hM2 : M ≤ 8 * len := by rw [hM1, hn]; exact Nat.div_mul_le_self _ _
  have hc : (n : Int) * (W : Int) = (M : Int) := by rw [hM1]; exact (Int.natCast_mul n W).symm
  have hnl : n ≤ 8 * len := by rw [hn]; exact Nat.div_le_self _ _
  refine Ret.enter (vs := [.slice (ad db dO) len cap, .int .i64 0, .int .i64 (W : Nat), .int .i64 (n : Nat)]) Tryz.func7 Tryz.ntmps7 rfl rfl ?_
  refine WC.seq ?_
  refine WC.region ?_
  refine WR.assign rfl rfl ?_
  refine WR.assign rfl rfl ?_
  refine WR.nil ?_
  refine WN.seq ?_
  refine WC.seq ?_
  refine WC.seq ?_
  refine WC.region ?_
  refine WR.move rfl rfl ?_
  refine WR.move rfl rfl ?_
  refine WR.move rfl rfl ?_
  refine WR.bin rfl rfl (ar_mul (z := ((M : Nat) : Int)) (by rw [hc, wrap_i64 (by omega) (by omega)])) rfl ?_
  (refine WR.bin rfl rfl (ar_add (z := ((M : Nat) : Int)) ?_) rfl ?_; (rw [wrap_i64 (by omega) (by omega)]; omega))
  refine WR.move rfl rfl ?_
  refine WR.lenS rfl Tryz.underlying22 rfl ?_
  (refine WR.bin rfl rfl (ar_mul (z := ((8 * len : Nat) : Int)) ?_) rfl ?_; (rw [wrap_i64 (by omega) (by omega)]; omega))
  refine WR.bin rfl rfl rfl rfl ?_
  refine WR.nil ?_
  refine WN.seq ?_
  refine WC.cond rfl (fun h53 => ?_) (fun h53 => ?_)
  · skip
    (try simp only [decide_eq_true_eq, decide_eq_false_iff_not, beq_iff_eq, beq_eq_false_iff_ne, bne_iff_ne, bne_eq_false_iff_eq, gt_iff_lt, ge_iff_le, Int.not_lt, Int.not_le, ne_eq, Bool.not_eq_true, Bool.not_eq_false, Bool.and_eq_true, Bool.and_eq_false_iff, Bool.or_eq_true, Bool.or_eq_false_iff] at h53)
    omega
  · skip
    (try simp only [decide_eq_true_eq, decide_eq_false_iff_not, beq_iff_eq, beq_eq_false_iff_ne, bne_iff_ne, bne_eq_false_iff_eq, gt_iff_lt, ge_iff_le, Int.not_lt, Int.not_le, ne_eq, Bool.not_eq_true, Bool.not_eq_false, Bool.and_eq_true, Bool.and_eq_false_iff, Bool.or_eq_true, Bool.or_eq_false_iff] at h53)
    have hlt0 := hd.lt
    refine WC.skip ?_
    refine WN.seq ?_
    refine WC.seq ?_
    refine WC.region ?_
    refine WR.move rfl rfl ?_
    obtain ⟨bM, hbM⟩ : ∃ x, x = w.heap.size := ⟨_, rfl⟩
    refine WR.make (n := n) rfl rfl Tryz.underlying24 mk28 rfl (by decide) (by omega) rfl rfl ?_
    rw [← hbM]
    intro w1 hM hs
    replace hS := hS.trans hs (by simp <;> omega)
    replace hd := hd.same hs (by simp <;> omega)
    clear hs
    refine WR.assign rfl rfl ?_
    refine WR.nil ?_
    refine WN.seq ?_
    refine WC.seq ?_
    refine WC.seq ?_
    refine WC.region ?_
    refine WR.assign rfl rfl ?_
    refine WR.nil ?_
    refine WN.seq ?_
    refine WC.block ?_
    have hF : ∀ q, q < n → (fun _ => Value.int .u64 0 : Nat → Value) q = .int .u64 (gat (num d len) W 0 q : Nat) := fun q _ => by rw [gat_zero]; rfl
    refine WC.loop (fun i : Nat => [(0, .slice (ad db dO) len cap), (1, .int .i64 0), (2, .int .i64 (W : Nat)), (3, .int .i64 (n : Nat)), (10, .slice (some ⟨bM, 0, none⟩) n n), (11, .int .i64 (i : Nat))]) (fun m i w' => i + m = M ∧ Same [] w w' ∧ Src2 w' 0 db dO len cap d ∧ ∃ F, Row w' bM 28 n F ∧ ∀ q, q < n → F q = .int .u64 (gat (num d len) W i q : Nat)) M 0 ⟨rfl, rfl, rfl, rfl, rfl, rfl, trivial⟩ ⟨by omega, hS, hd, _, hM, hF⟩ ?_
    clear hS hM hF
    rintro m i w2 ⟨hm, hS, hd, F, hM, hF⟩
    refine WC.seq ?_
    refine WC.seq ?_
    refine WC.region ?_
    refine WR.move rfl rfl ?_
    refine WR.move rfl rfl ?_
    refine WR.move rfl rfl ?_
    refine WR.bin rfl rfl (ar_mul (z := ((M : Nat) : Int)) (by rw [hc, wrap_i64 (by omega) (by omega)])) rfl ?_
    refine WR.bin rfl rfl rfl rfl ?_
    refine WR.nil ?_
    refine WN.seq ?_
    refine WC.cond rfl (fun h57 => ?_) (fun h57 => ?_)
    · skip
      (try simp only [decide_eq_true_eq, decide_eq_false_iff_not, beq_iff_eq, beq_eq_false_iff_ne, bne_iff_ne, bne_eq_false_iff_eq, gt_iff_lt, ge_iff_le, Int.not_lt, Int.not_le, ne_eq, Bool.not_eq_true, Bool.not_eq_false, Bool.and_eq_true, Bool.and_eq_false_iff, Bool.or_eq_true, Bool.or_eq_false_iff] at h57)
      obtain ⟨dO, rfl⟩ : ∃ x, dO = x + 1 := ⟨dO - 1, by have := hd.nz (by omega); omega⟩
      obtain ⟨q, hq⟩ : ∃ q, q = i / W := ⟨_, rfl⟩
      have hq1 : q < n := by rw [hq]; exact Nat.div_lt_of_lt_mul (by rw [Nat.mul_comm, ← hM1]; omega)
      have hr1 : i % W < 64 := Nat.lt_of_lt_of_le (Nat.mod_lt _ hW) hW2
      have hd8 := hd.small (i / 8) (by omega)
      have hb1 : d (i / 8) / 2 ^ (i % 8) < 256 := Nat.lt_of_le_of_lt (Nat.div_le_self _ _) hd8
      have hb2 : d (i / 8) / 2 ^ (i % 8) % 2 = bts (num d len) i 1 := by
        have := bit_byte (o := 0) (j := i) hd.small (by omega)
        rwa [Nat.zero_add, Nat.mul_zero, Nat.zero_add] at this
      have hb3 : bts (num d len) i 1 < 2 := bts_lt _ _ _
      refine WC.skip ?_
      refine WN.seq ?_
      refine WC.seq ?_
      refine WC.block ?_
      refine WC.seq ?_
      refine WC.region ?_
      refine WR.move rfl rfl ?_
      refine WR.move rfl rfl ?_
      (refine WR.bin rfl rfl (ar_add (z := ((i : Nat) : Int)) ?_) rfl ?_; (rw [wrap_i64 (by omega) (by omega)]; omega))
      refine WR.assign rfl rfl ?_
      refine WR.nil ?_
      refine WN.seq ?_
      refine WC.mix [] mixed (by kernel_rfl) ?_
      replace hS := hS.trans (Same.drew _) (by simp <;> omega)
      replace hd := hd.same (Same.drew _) (by simp <;> omega)
      (try replace hM := hM.same (Same.drew _) (by simp <;> omega))
      refine WR.move rfl rfl ?_
      refine WR.move rfl rfl ?_
      refine WR.move rfl rfl ?_
      refine WR.bin rfl rfl (ar_quo (z := ((q : Nat) : Int)) (by omega) (by rw [hq]; exact quo_nat (by omega))) rfl ?_
      refine WR.idx rfl rfl Tryz.underlying24 sz28 (by omega) (by omega) rfl ?_
      refine WR.load rfl Tryz.underlying28 rfl (show _ = some (Value.int .u64 (gat (num d len) W i q : Nat)) by rw [Nat.mul_one, Nat.zero_add]; exact (hM.cell (i := q) (by omega)).trans (congrArg some (hF _ (by omega)))) rfl ?_
      refine WR.move rfl rfl ?_
      refine WR.move rfl rfl ?_
      refine WR.bin rfl rfl (ar_quo (z := ((i / 8 : Nat) : Int)) (by decide) (quo_nat (b := 8) (by omega))) rfl ?_
      refine WR.idx rfl rfl Tryz.underlying22 sz5 (by omega) (by omega) rfl ?_
      refine WR.load rfl Tryz.underlying5 rfl (show _ = some (Value.int .u8 (d (i / 8) : Nat)) by rw [Nat.mul_one]; exact hd.data (i / 8) (by omega)) rfl ?_
      refine WR.move rfl rfl ?_
      refine WR.bin rfl rfl (ar_rem (z := ((i % 8 : Nat) : Int)) (by decide) (rem_nat i 8)) rfl ?_
      refine WR.shr rfl rfl (by omega) (z := ((d (i / 8) / 2 ^ (i % 8) : Nat) : Int)) (shr_nat (by show i % 8 ≤ 8; omega)) rfl ?_
      refine WR.bin rfl rfl (v := .int .u8 ((bts (num d len) i 1 : Nat) : Int)) (by rw [and_one hb1, hb2]) rfl ?_
      first
        | (refine WR.conv rfl Tryz.underlying5 Tryz.underlying28 (wrap_u64 ?_ ?_) rfl ?_; (omega); (omega))
        | refine WR.conv rfl Tryz.underlying5 Tryz.underlying28 rfl rfl ?_
      refine WR.move rfl rfl ?_
      refine WR.move rfl rfl ?_
      refine WR.bin rfl rfl (ar_rem (z := ((i % W : Nat) : Int)) (by omega) (rem_nat i W)) rfl ?_
      refine WR.shl rfl rfl (by omega) (z := ((bts (num d len) i 1 : Nat) : Int) * ((2 ^ (i % W) : Nat) : Int)) (shl_bit hb3 hr1) rfl ?_
      refine WR.bin rfl rfl (v := .int .u64 ((gat (num d len) W (i + 1) q : Nat) : Int)) (by rw [hq]; exact or_step hW hW2) rfl ?_
      refine WR.idx rfl rfl Tryz.underlying24 sz28 (by omega) (by omega) rfl ?_
      refine WR.storeK rfl rfl rfl sz28 (hM.cell (by omega)) (hM.fz _) ?_
      intro w3 hn hs
      replace hM := hM.set' hn
      replace hS := hS.trans hs (by simp <;> omega)
      replace hd := hd.same hs (by simp <;> omega)
      clear hn hs
      refine WR.nil ?_
      refine WN.block ?_
      refine WN.seq ?_
      refine WC.region ?_
      refine WR.move rfl rfl ?_
      (refine WR.bin rfl rfl (ar_add (z := ((i + 1 : Nat) : Int)) ?_) rfl ?_; (rw [wrap_i64 (by omega) (by omega)]; omega))
      refine WR.assign rfl rfl ?_
      refine WR.nil ?_
      have hF2 : ∀ q', q' < n → upd F (0 + Int.toNat ((q : Nat) : Int) * 1) (.int .u64 (gat (num d len) W (i + 1) q : Nat)) q' = .int .u64 (gat (num d len) W (i + 1) q' : Nat) := by
        intro q' hq'
        unfold upd
        rw [Nat.mul_one, Nat.zero_add, Int.toNat_natCast]
        by_cases h : q' = q
        · rw [if_pos h, h]
        · rw [if_neg h, hF q' hq', gat_other _ _ _ _ hW (hq ▸ h)]
      exact WN.loop (m - 1) (i + 1) (by omega) ⟨rfl, rfl, rfl, rfl, rfl, kint rfl (by omega), trivial⟩ ⟨by omega, hS, hd, _, hM, hF2⟩
    · skip
      (try simp only [decide_eq_true_eq, decide_eq_false_iff_not, beq_iff_eq, beq_eq_false_iff_ne, bne_iff_ne, bne_eq_false_iff_eq, gt_iff_lt, ge_iff_le, Int.not_lt, Int.not_le, ne_eq, Bool.not_eq_true, Bool.not_eq_false, Bool.and_eq_true, Bool.and_eq_false_iff, Bool.or_eq_true, Bool.or_eq_false_iff] at h57)
      obtain rfl : i = M := by omega
      refine WC.exit rfl ?_
      refine WN.seq ?_
      refine WC.seq ?_
      refine WC.region ?_
      refine WR.move rfl rfl ?_
      refine WR.assign rfl rfl ?_
      refine WR.assign rfl rfl ?_
      refine WR.nil ?_
      refine WN.seq ?_
      refine WC.retR rfl rfl ?_
      refine ⟨bM, rfl, Row.ls (o := 0) hM (by rw [u64s_length]; simp) (by omega) (by omega) (fun q hq => ?_), hS⟩
      rw [Nat.zero_add, hF q hq, u64s_getD (by simpa using hq)]
      have := gat_full (num d len) W n q hq
      rw [← hM1] at this
      simp [hq, this]

set_option maxHeartbeats 400000 in
theorem batched {w : World} (xs : List Nat) (zs : List Int) (A Az : Option Addr) (N c m cz lz H0 : Nat) (hH0 : H0 = w.heap.size) (hl : Lu w H0 (.slice A N c) (u64s xs)) (hN : N = (u64s xs).length) (hNc : N ≤ c) (hN2 : N ≤ 1099511627776) (hz : Lu w lz (.slice Az m cz) (i64s zs)) (hlz : lz ≤ H0) (hm0 : m = (i64s zs).length) (hzr : ∀ i, -9223372036854775808 ≤ zs.getD i 0 ∧ zs.getD i 0 ≤ 9223372036854775807) (hm63 : m ≤ 9223372036854775807) :
    Ret Tryz.prog 8 #[.slice A N c, .slice Az m cz] w fun v w' => ∃ u b, v = .tuple #[u, .bool b] ∧ (b = true → m ≤ 50 ∧ tpos (fun i => zs.getD i 0) m ≤ N ∧ Own w' H0 28 u (u64s (tout (fun k => xs.getD k 0) (fun i => zs.getD i 0) m))) ∧ Same [] w w' := by
  have hS := Same.refl [] w
  obtain ⟨z, hzd⟩ : ∃ z : Nat → Int, z = fun i => zs.getD i 0 := ⟨_, rfl⟩
  rw [← hzd]
  have hzi : ∀ i, -9223372036854775808 ≤ z i ∧ z i ≤ 9223372036854775807 := fun i => by rw [hzd]; exact hzr i
  obtain ⟨V, hV⟩ : ∃ V : Nat → Nat, V = fun k => xs.getD k 0 := ⟨_, rfl⟩
  rw [← hV]
  have hO : Own w H0 28 (.slice none 0 0) (u64s (tout V z 0)) := Own.nil _ _ _
  refine Ret.enter (vs := [.slice A N c, .slice Az m cz]) Tryz.func8 Tryz.ntmps8 rfl rfl ?_
  refine WC.seq ?_
  refine WC.region ?_
  refine WR.assign rfl rfl ?_
  refine WR.assign rfl rfl ?_
  refine WR.nil ?_
  refine WN.seq ?_
  refine WC.seq ?_
  refine WC.region ?_
  refine WR.assign rfl rfl ?_
  refine WR.nil ?_
  refine WN.seq ?_
  refine WC.seq ?_
  refine WC.region ?_
  refine WR.assign rfl rfl ?_
  refine WR.nil ?_
  refine WN.seq ?_
  refine WC.seq ?_
  refine WC.seq ?_
  refine WC.region ?_
  refine WR.move rfl rfl ?_
  refine WR.lenS rfl Tryz.underlying23 rfl ?_
  refine WR.bin rfl rfl rfl rfl ?_
  refine WR.nil ?_
  refine WN.seq ?_
  refine WC.cond rfl (fun h127 => ?_) (fun h127 => ?_)
  · skip
    (try simp only [decide_eq_true_eq, decide_eq_false_iff_not, beq_iff_eq, beq_eq_false_iff_ne, bne_iff_ne, bne_eq_false_iff_eq, gt_iff_lt, ge_iff_le, Int.not_lt, Int.not_le, ne_eq, Bool.not_eq_true, Bool.not_eq_false, Bool.and_eq_true, Bool.and_eq_false_iff, Bool.or_eq_true, Bool.or_eq_false_iff] at h127)
    refine WC.seq ?_
    refine WC.region ?_
    refine WR.assign rfl rfl ?_
    refine WR.assign rfl rfl ?_
    refine WR.nil ?_
    refine WN.seq ?_
    refine WC.retR rfl rfl ?_
    exact ⟨_, false, rfl, (fun h => by cases h), hS⟩
  · skip
    (try simp only [decide_eq_true_eq, decide_eq_false_iff_not, beq_iff_eq, beq_eq_false_iff_ne, bne_iff_ne, bne_eq_false_iff_eq, gt_iff_lt, ge_iff_le, Int.not_lt, Int.not_le, ne_eq, Bool.not_eq_true, Bool.not_eq_false, Bool.and_eq_true, Bool.and_eq_false_iff, Bool.or_eq_true, Bool.or_eq_false_iff] at h127)
    refine WC.skip ?_
    refine WN.seq ?_
    refine WC.seq ?_
    refine WC.seq ?_
    refine WC.region ?_
    refine WR.move rfl rfl ?_
    refine WR.lenS rfl Tryz.underlying23 rfl ?_
    refine WR.move rfl rfl ?_
    refine WR.nil ?_
    refine WN.seq ?_
    refine WC.block ?_
    refine WC.loop (fun x : Nat × Value => [(0, .slice A N c), (14, .slice Az m cz), (15, .int .i64 (m : Nat)), (16, .int .i64 (x.1 : Nat)), (6, x.2), (7, .int .i64 (tpos z x.1 : Nat))]) (fun k x w' => x.1 + k = m ∧ tpos z x.1 ≤ N ∧ Same [] w w' ∧ Lu w' H0 (.slice A N c) (u64s xs) ∧ Lu w' lz (.slice Az m cz) (i64s zs) ∧ Own w' H0 28 x.2 (u64s (tout V z x.1))) m (0, .slice none 0 0) ⟨rfl, rfl, rfl, rfl, rfl, rfl, trivial⟩ ⟨by simp, Nat.zero_le _, hS, hl, hz, hO⟩ ?_
    clear hS hl hz hO
    rintro k ⟨i, u⟩ w1 ⟨hm, hat, hS, hl, hz, hO⟩
    simp only [] at hm hat hO
    have hzz := hzi i
    obtain ⟨p, hp⟩ : ∃ p, p = tpos z i := ⟨_, rfl⟩
    have hout := tout_length V z i
    rw [← hp] at hat hout
    have hs1 := hS.size
    obtain ⟨zi, hzi0⟩ : ∃ zi, zi = z i := ⟨_, rfl⟩
    rw [← hzi0] at hzz
    have htp : tpos z (i + 1) = p + zi.natAbs := by simp only [tpos]; rw [← hp, ← hzi0]
    have hzi1 : zi = zs.getD i 0 := by rw [hzi0, hzd]
    refine WC.weak [(0, .slice A N c), (14, .slice Az m cz), (15, .int .i64 (m : Nat)), (16, .int .i64 (i : Nat)), (6, u), (7, .int .i64 (p : Nat))] ⟨rfl, rfl, rfl, rfl, rfl, kint rfl (by rw [hp]), trivial⟩ ?_
    rcases (show i < m ∧ zi = -9223372036854775808 ∨ i < m ∧ -9223372036854775808 < zi ∧ zi < 0 ∨ i < m ∧ 0 ≤ zi ∨ m ≤ i by omega) with ⟨hi, hzc⟩ | ⟨hi, hzc, hzd2⟩ | ⟨hi, hzc⟩ | hi
    · skip
      obtain ⟨gz, oz, ez, hez, hgz, hlz2, hrz⟩ := hz.lit (by omega)
      simp only [Value.slice.injEq] at hez
      obtain ⟨rfl, -, rfl⟩ := hez
      subst hzc
      refine WC.seq ?_
      refine WC.region ?_
      refine WR.bin rfl rfl rfl rfl ?_
      refine WR.nil ?_
      refine WN.seq ?_
      refine WC.seq ?_
      refine WC.cond rfl (fun h130 => ?_) (fun h130 => ?_)
      · skip
        (try simp only [decide_eq_true_eq, decide_eq_false_iff_not, beq_iff_eq, beq_eq_false_iff_ne, bne_iff_ne, bne_eq_false_iff_eq, gt_iff_lt, ge_iff_le, Int.not_lt, Int.not_le, ne_eq, Bool.not_eq_true, Bool.not_eq_false, Bool.and_eq_true, Bool.and_eq_false_iff, Bool.or_eq_true, Bool.or_eq_false_iff] at h130)
        refine WC.skip ?_
        refine WN.seq ?_
        refine WC.seq ?_
        refine WC.block ?_
        refine WC.seq ?_
        refine WC.region ?_
        refine WR.idx rfl rfl Tryz.underlying23 sz3 (by omega) (by omega) rfl ?_
        refine WR.load rfl Tryz.underlying3 rfl (show _ = some (Value.int .i64 _) by rw [Nat.mul_one]; exact (hrz i (by omega)).trans (congrArg some ((i64s_getD (by rw [i64s_length] at hm0; omega)).trans (by rw [← hzi1])))) rfl ?_
        refine WR.assign rfl rfl ?_
        refine WR.nil ?_
        refine WN.seq ?_
        refine WC.seq ?_
        refine WC.region ?_
        refine WR.move rfl rfl ?_
        refine WR.assign rfl rfl ?_
        refine WR.nil ?_
        refine WN.seq ?_
        refine WC.seq ?_
        refine WC.seq ?_
        refine WC.region ?_
        refine WR.move rfl rfl ?_
        refine WR.bin rfl rfl rfl rfl ?_
        refine WR.nil ?_
        refine WN.seq ?_
        refine WC.cond rfl (fun h132 => ?_) (fun h132 => ?_)
        · skip
          (try simp only [decide_eq_true_eq, decide_eq_false_iff_not, beq_iff_eq, beq_eq_false_iff_ne, bne_iff_ne, bne_eq_false_iff_eq, gt_iff_lt, ge_iff_le, Int.not_lt, Int.not_le, ne_eq, Bool.not_eq_true, Bool.not_eq_false, Bool.and_eq_true, Bool.and_eq_false_iff, Bool.or_eq_true, Bool.or_eq_false_iff] at h132)
          refine WC.region ?_
          refine WR.move rfl rfl ?_
          first
            | (refine WR.negOp rfl (wrap_i64 ?_ ?_) rfl ?_; (omega); (omega))
            | refine WR.negOp rfl rfl rfl ?_
          refine WR.assign rfl rfl ?_
          refine WR.nil ?_
          refine WN.seq ?_
          refine WC.seq ?_
          refine WC.seq ?_
          refine WC.region ?_
          refine WR.move rfl rfl ?_
          refine WR.bin rfl rfl rfl rfl ?_
          refine WR.move rfl rfl ?_
          refine WR.pass rfl rfl rfl (by first | rfl | assumption | simp_all) ?_
          refine WR.pass rfl rfl rfl (by first | rfl | assumption | simp_all) ?_
          refine WR.pass rfl rfl rfl (by first | rfl | assumption | simp_all) ?_
          refine WR.pass rfl rfl rfl (by first | rfl | assumption | simp_all) ?_
          refine WR.pass rfl rfl rfl (by first | rfl | assumption | simp_all) ?_
          refine WR.pass rfl rfl rfl (by first | rfl | assumption | simp_all) ?_
          refine WR.pickT rfl (by first | rfl | assumption | simp_all) rfl rfl ?_
          refine WR.nil ?_
          refine WN.seq ?_
          refine WC.cond rfl (fun h135 => ?_) (fun h135 => ?_)
          · skip
            (try simp only [decide_eq_true_eq, decide_eq_false_iff_not, beq_iff_eq, beq_eq_false_iff_ne, bne_iff_ne, bne_eq_false_iff_eq, gt_iff_lt, ge_iff_le, Int.not_lt, Int.not_le, ne_eq, Bool.not_eq_true, Bool.not_eq_false, Bool.and_eq_true, Bool.and_eq_false_iff, Bool.or_eq_true, Bool.or_eq_false_iff] at h135)
            refine WC.seq ?_
            refine WC.region ?_
            refine WR.assign rfl rfl ?_
            refine WR.assign rfl rfl ?_
            refine WR.nil ?_
            refine WN.seq ?_
            refine WC.retR rfl rfl ?_
            exact ⟨_, false, rfl, (fun h => by cases h), hS⟩
          · skip
            cases h135
        · skip
          (try simp only [decide_eq_true_eq, decide_eq_false_iff_not, beq_iff_eq, beq_eq_false_iff_ne, bne_iff_ne, bne_eq_false_iff_eq, gt_iff_lt, ge_iff_le, Int.not_lt, Int.not_le, ne_eq, Bool.not_eq_true, Bool.not_eq_false, Bool.and_eq_true, Bool.and_eq_false_iff, Bool.or_eq_true, Bool.or_eq_false_iff] at h132)
          omega
      · skip
        (try simp only [decide_eq_true_eq, decide_eq_false_iff_not, beq_iff_eq, beq_eq_false_iff_ne, bne_iff_ne, bne_eq_false_iff_eq, gt_iff_lt, ge_iff_le, Int.not_lt, Int.not_le, ne_eq, Bool.not_eq_true, Bool.not_eq_false, Bool.and_eq_true, Bool.and_eq_false_iff, Bool.or_eq_true, Bool.or_eq_false_iff] at h130)
        omega
    · skip
      obtain ⟨gz, oz, ez, hez, hgz, hlz2, hrz⟩ := hz.lit (by omega)
      simp only [Value.slice.injEq] at hez
      obtain ⟨rfl, -, rfl⟩ := hez
      have hgd : decide (-zi < 0) = false := by simp; omega
      refine WC.seq ?_
      refine WC.region ?_
      refine WR.bin rfl rfl rfl rfl ?_
      refine WR.nil ?_
      refine WN.seq ?_
      refine WC.seq ?_
      refine WC.cond rfl (fun h130 => ?_) (fun h130 => ?_)
      · skip
        (try simp only [decide_eq_true_eq, decide_eq_false_iff_not, beq_iff_eq, beq_eq_false_iff_ne, bne_iff_ne, bne_eq_false_iff_eq, gt_iff_lt, ge_iff_le, Int.not_lt, Int.not_le, ne_eq, Bool.not_eq_true, Bool.not_eq_false, Bool.and_eq_true, Bool.and_eq_false_iff, Bool.or_eq_true, Bool.or_eq_false_iff] at h130)
        refine WC.skip ?_
        refine WN.seq ?_
        refine WC.seq ?_
        refine WC.block ?_
        refine WC.seq ?_
        refine WC.region ?_
        refine WR.idx rfl rfl Tryz.underlying23 sz3 (by omega) (by omega) rfl ?_
        refine WR.load rfl Tryz.underlying3 rfl (show _ = some (Value.int .i64 _) by rw [Nat.mul_one]; exact (hrz i (by omega)).trans (congrArg some ((i64s_getD (by rw [i64s_length] at hm0; omega)).trans (by rw [← hzi1])))) rfl ?_
        refine WR.assign rfl rfl ?_
        refine WR.nil ?_
        refine WN.seq ?_
        refine WC.seq ?_
        refine WC.region ?_
        refine WR.move rfl rfl ?_
        refine WR.assign rfl rfl ?_
        refine WR.nil ?_
        refine WN.seq ?_
        refine WC.seq ?_
        refine WC.seq ?_
        refine WC.region ?_
        refine WR.move rfl rfl ?_
        refine WR.bin rfl rfl rfl rfl ?_
        refine WR.nil ?_
        refine WN.seq ?_
        refine WC.cond rfl (fun h132 => ?_) (fun h132 => ?_)
        · skip
          (try simp only [decide_eq_true_eq, decide_eq_false_iff_not, beq_iff_eq, beq_eq_false_iff_ne, bne_iff_ne, bne_eq_false_iff_eq, gt_iff_lt, ge_iff_le, Int.not_lt, Int.not_le, ne_eq, Bool.not_eq_true, Bool.not_eq_false, Bool.and_eq_true, Bool.and_eq_false_iff, Bool.or_eq_true, Bool.or_eq_false_iff] at h132)
          refine WC.region ?_
          refine WR.move rfl rfl ?_
          first
            | (refine WR.negOp rfl (wrap_i64 ?_ ?_) rfl ?_; (omega); (omega))
            | refine WR.negOp rfl rfl rfl ?_
          refine WR.assign rfl rfl ?_
          refine WR.nil ?_
          refine WN.seq ?_
          refine WC.seq ?_
          refine WC.seq ?_
          refine WC.region ?_
          refine WR.move rfl rfl ?_
          refine WR.bin rfl rfl rfl rfl ?_
          refine WR.move rfl rfl ?_
          refine WR.take rfl rfl (by first | rfl | assumption | simp_all) ?_
          refine WR.move rfl rfl ?_
          refine WR.take rfl rfl (by first | rfl | assumption | simp_all) ?_
          refine WR.move rfl rfl ?_
          refine WR.take rfl rfl (by first | rfl | assumption | simp_all) ?_
          refine WR.lenS rfl Tryz.underlying24 rfl ?_
          refine WR.take rfl rfl (by first | rfl | assumption | simp_all) ?_
          refine WR.move rfl rfl ?_
          refine WR.take rfl rfl (by first | rfl | assumption | simp_all) ?_
          first
            | (refine WR.bin rfl rfl (ar_sub (wrap_i64 ?_ ?_)) rfl ?_; (omega); (omega))
            | refine WR.bin rfl rfl (ar_sub rfl) rfl ?_
          refine WR.take rfl rfl (by first | rfl | assumption | simp_all) ?_
          refine WR.bin rfl rfl rfl rfl ?_
          refine WR.pickF rfl (by first | rfl | assumption | simp_all) rfl rfl ?_
          refine WR.nil ?_
          refine WN.seq ?_
          refine WC.cond rfl (fun h135 => ?_) (fun h135 => ?_)
          · skip
            (try simp only [decide_eq_true_eq, decide_eq_false_iff_not, beq_iff_eq, beq_eq_false_iff_ne, bne_iff_ne, bne_eq_false_iff_eq, gt_iff_lt, ge_iff_le, Int.not_lt, Int.not_le, ne_eq, Bool.not_eq_true, Bool.not_eq_false, Bool.and_eq_true, Bool.and_eq_false_iff, Bool.or_eq_true, Bool.or_eq_false_iff] at h135)
            refine WC.seq ?_
            refine WC.region ?_
            refine WR.assign rfl rfl ?_
            refine WR.assign rfl rfl ?_
            refine WR.nil ?_
            refine WN.seq ?_
            refine WC.retR rfl rfl ?_
            exact ⟨_, false, rfl, (fun h => by cases h), hS⟩
          · skip
            (try simp only [decide_eq_true_eq, decide_eq_false_iff_not, beq_iff_eq, beq_eq_false_iff_ne, bne_iff_ne, bne_eq_false_iff_eq, gt_iff_lt, ge_iff_le, Int.not_lt, Int.not_le, ne_eq, Bool.not_eq_true, Bool.not_eq_false, Bool.and_eq_true, Bool.and_eq_false_iff, Bool.or_eq_true, Bool.or_eq_false_iff] at h135)
            refine WC.skip ?_
            refine WN.seq ?_
            refine WC.seq ?_
            refine WC.seq ?_
            refine WC.region ?_
            refine WR.move rfl rfl ?_
            refine WR.bin rfl rfl rfl rfl ?_
            refine WR.nil ?_
            refine WN.seq ?_
            refine WC.cond rfl (fun h138 => ?_) (fun h138 => ?_)
            · skip
              (try simp only [decide_eq_true_eq, decide_eq_false_iff_not, beq_iff_eq, beq_eq_false_iff_ne, bne_iff_ne, bne_eq_false_iff_eq, gt_iff_lt, ge_iff_le, Int.not_lt, Int.not_le, ne_eq, Bool.not_eq_true, Bool.not_eq_false, Bool.and_eq_true, Bool.and_eq_false_iff, Bool.or_eq_true, Bool.or_eq_false_iff] at h138)
              omega
            · skip
              (try simp only [decide_eq_true_eq, decide_eq_false_iff_not, beq_iff_eq, beq_eq_false_iff_ne, bne_iff_ne, bne_eq_false_iff_eq, gt_iff_lt, ge_iff_le, Int.not_lt, Int.not_le, ne_eq, Bool.not_eq_true, Bool.not_eq_false, Bool.and_eq_true, Bool.and_eq_false_iff, Bool.or_eq_true, Bool.or_eq_false_iff] at h138)
              refine WC.skip ?_
              refine WN.seq ?_
              refine WC.region ?_
              refine WR.move rfl rfl ?_
              refine WR.move rfl rfl ?_
              first
                | (refine WR.bin rfl rfl (ar_add (wrap_i64 ?_ ?_)) rfl ?_; (omega); (omega))
                | refine WR.bin rfl rfl (ar_add rfl) rfl ?_
              refine WR.assign rfl rfl ?_
              refine WR.nil ?_
              refine WN.block ?_
              refine WN.seq ?_
              refine WC.region ?_
              first
                | (refine WR.bin rfl rfl (ar_add (wrap_i64 ?_ ?_)) rfl ?_; (omega); (omega))
                | refine WR.bin rfl rfl (ar_add rfl) rfl ?_
              refine WR.move rfl rfl ?_
              refine WR.nil ?_
              first
                | exact WN.loop (k - 1) (i + 1, u2) (by omega) ⟨rfl, rfl, rfl, kint rfl (by show _ = ((i + 1 : Nat) : Int); omega), rfl, kint rfl (by show _ = ((tpos z (i + 1) : Nat) : Int); rw [htp]; omega), trivial⟩ ⟨by show i + 1 + (k - 1) = m; omega, by show tpos z (i + 1) ≤ N; rw [htp]; omega, hS, hl, hz, hO2⟩
                | exact WN.loop (k - 1) (i + 1, u) (by omega) ⟨rfl, rfl, rfl, kint rfl (by show _ = ((i + 1 : Nat) : Int); omega), rfl, kint rfl (by show _ = ((tpos z (i + 1) : Nat) : Int); rw [htp]; omega), trivial⟩ ⟨by show i + 1 + (k - 1) = m; omega, by show tpos z (i + 1) ≤ N; rw [htp]; omega, hS, hl, hz, by show Own _ _ _ _ (u64s (tout V z (i + 1))); rw [tout_nonpos (by omega)]; exact hO⟩
        · skip
          (try simp only [decide_eq_true_eq, decide_eq_false_iff_not, beq_iff_eq, beq_eq_false_iff_ne, bne_iff_ne, bne_eq_false_iff_eq, gt_iff_lt, ge_iff_le, Int.not_lt, Int.not_le, ne_eq, Bool.not_eq_true, Bool.not_eq_false, Bool.and_eq_true, Bool.and_eq_false_iff, Bool.or_eq_true, Bool.or_eq_false_iff] at h132)
          omega
      · skip
        (try simp only [decide_eq_true_eq, decide_eq_false_iff_not, beq_iff_eq, beq_eq_false_iff_ne, bne_iff_ne, bne_eq_false_iff_eq, gt_iff_lt, ge_iff_le, Int.not_lt, Int.not_le, ne_eq, Bool.not_eq_true, Bool.not_eq_false, Bool.and_eq_true, Bool.and_eq_false_iff, Bool.or_eq_true, Bool.or_eq_false_iff] at h130)
        omega
    · skip
      obtain ⟨gz, oz, ez, hez, hgz, hlz2, hrz⟩ := hz.lit (by omega)
      simp only [Value.slice.injEq] at hez
      obtain ⟨rfl, -, rfl⟩ := hez
      have hgd : decide (zi < 0) = false := by simp; omega
      refine WC.seq ?_
      refine WC.region ?_
      refine WR.bin rfl rfl rfl rfl ?_
      refine WR.nil ?_
      refine WN.seq ?_
      refine WC.seq ?_
      refine WC.cond rfl (fun h130 => ?_) (fun h130 => ?_)
      · skip
        (try simp only [decide_eq_true_eq, decide_eq_false_iff_not, beq_iff_eq, beq_eq_false_iff_ne, bne_iff_ne, bne_eq_false_iff_eq, gt_iff_lt, ge_iff_le, Int.not_lt, Int.not_le, ne_eq, Bool.not_eq_true, Bool.not_eq_false, Bool.and_eq_true, Bool.and_eq_false_iff, Bool.or_eq_true, Bool.or_eq_false_iff] at h130)
        refine WC.skip ?_
        refine WN.seq ?_
        refine WC.seq ?_
        refine WC.block ?_
        refine WC.seq ?_
        refine WC.region ?_
        refine WR.idx rfl rfl Tryz.underlying23 sz3 (by omega) (by omega) rfl ?_
        refine WR.load rfl Tryz.underlying3 rfl (show _ = some (Value.int .i64 _) by rw [Nat.mul_one]; exact (hrz i (by omega)).trans (congrArg some ((i64s_getD (by rw [i64s_length] at hm0; omega)).trans (by rw [← hzi1])))) rfl ?_
        refine WR.assign rfl rfl ?_
        refine WR.nil ?_
        refine WN.seq ?_
        refine WC.seq ?_
        refine WC.region ?_
        refine WR.move rfl rfl ?_
        refine WR.assign rfl rfl ?_
        refine WR.nil ?_
        refine WN.seq ?_
        refine WC.seq ?_
        refine WC.seq ?_
        refine WC.region ?_
        refine WR.move rfl rfl ?_
        refine WR.bin rfl rfl rfl rfl ?_
        refine WR.nil ?_
        refine WN.seq ?_
        refine WC.cond rfl (fun h132 => ?_) (fun h132 => ?_)
        · skip
          (try simp only [decide_eq_true_eq, decide_eq_false_iff_not, beq_iff_eq, beq_eq_false_iff_ne, bne_iff_ne, bne_eq_false_iff_eq, gt_iff_lt, ge_iff_le, Int.not_lt, Int.not_le, ne_eq, Bool.not_eq_true, Bool.not_eq_false, Bool.and_eq_true, Bool.and_eq_false_iff, Bool.or_eq_true, Bool.or_eq_false_iff] at h132)
          omega
        · skip
          (try simp only [decide_eq_true_eq, decide_eq_false_iff_not, beq_iff_eq, beq_eq_false_iff_ne, bne_iff_ne, bne_eq_false_iff_eq, gt_iff_lt, ge_iff_le, Int.not_lt, Int.not_le, ne_eq, Bool.not_eq_true, Bool.not_eq_false, Bool.and_eq_true, Bool.and_eq_false_iff, Bool.or_eq_true, Bool.or_eq_false_iff] at h132)
          refine WC.skip ?_
          refine WN.seq ?_
          refine WC.seq ?_
          refine WC.seq ?_
          refine WC.region ?_
          refine WR.move rfl rfl ?_
          refine WR.bin rfl rfl rfl rfl ?_
          refine WR.move rfl rfl ?_
          refine WR.take rfl rfl (by first | rfl | assumption | simp_all) ?_
          refine WR.move rfl rfl ?_
          refine WR.take rfl rfl (by first | rfl | assumption | simp_all) ?_
          refine WR.move rfl rfl ?_
          refine WR.take rfl rfl (by first | rfl | assumption | simp_all) ?_
          refine WR.lenS rfl Tryz.underlying24 rfl ?_
          refine WR.take rfl rfl (by first | rfl | assumption | simp_all) ?_
          refine WR.move rfl rfl ?_
          refine WR.take rfl rfl (by first | rfl | assumption | simp_all) ?_
          first
            | (refine WR.bin rfl rfl (ar_sub (wrap_i64 ?_ ?_)) rfl ?_; (omega); (omega))
            | refine WR.bin rfl rfl (ar_sub rfl) rfl ?_
          refine WR.take rfl rfl (by first | rfl | assumption | simp_all) ?_
          refine WR.bin rfl rfl rfl rfl ?_
          refine WR.pickF rfl (by first | rfl | assumption | simp_all) rfl rfl ?_
          refine WR.nil ?_
          refine WN.seq ?_
          refine WC.cond rfl (fun h135 => ?_) (fun h135 => ?_)
          · skip
            (try simp only [decide_eq_true_eq, decide_eq_false_iff_not, beq_iff_eq, beq_eq_false_iff_ne, bne_iff_ne, bne_eq_false_iff_eq, gt_iff_lt, ge_iff_le, Int.not_lt, Int.not_le, ne_eq, Bool.not_eq_true, Bool.not_eq_false, Bool.and_eq_true, Bool.and_eq_false_iff, Bool.or_eq_true, Bool.or_eq_false_iff] at h135)
            refine WC.seq ?_
            refine WC.region ?_
            refine WR.assign rfl rfl ?_
            refine WR.assign rfl rfl ?_
            refine WR.nil ?_
            refine WN.seq ?_
            refine WC.retR rfl rfl ?_
            exact ⟨_, false, rfl, (fun h => by cases h), hS⟩
          · skip
            (try simp only [decide_eq_true_eq, decide_eq_false_iff_not, beq_iff_eq, beq_eq_false_iff_ne, bne_iff_ne, bne_eq_false_iff_eq, gt_iff_lt, ge_iff_le, Int.not_lt, Int.not_le, ne_eq, Bool.not_eq_true, Bool.not_eq_false, Bool.and_eq_true, Bool.and_eq_false_iff, Bool.or_eq_true, Bool.or_eq_false_iff] at h135)
            refine WC.skip ?_
            refine WN.seq ?_
            refine WC.seq ?_
            refine WC.seq ?_
            refine WC.region ?_
            refine WR.move rfl rfl ?_
            refine WR.bin rfl rfl rfl rfl ?_
            refine WR.nil ?_
            refine WN.seq ?_
            refine WC.cond rfl (fun h138 => ?_) (fun h138 => ?_)
            · skip
              (try simp only [decide_eq_true_eq, decide_eq_false_iff_not, beq_iff_eq, beq_eq_false_iff_ne, bne_iff_ne, bne_eq_false_iff_eq, gt_iff_lt, ge_iff_le, Int.not_lt, Int.not_le, ne_eq, Bool.not_eq_true, Bool.not_eq_false, Bool.and_eq_true, Bool.and_eq_false_iff, Bool.or_eq_true, Bool.or_eq_false_iff] at h138)
              obtain ⟨n, rfl⟩ := Int.eq_ofNat_of_zero_le hzc
              obtain ⟨gl, ol, el, hel, hgl, hll, hrl⟩ := hl.lit (by omega)
              simp only [Value.slice.injEq] at hel
              obtain ⟨rfl, -, rfl⟩ := hel
              refine WC.region ?_
              refine WR.move rfl rfl ?_
              refine WR.move rfl rfl ?_
              refine WR.move rfl rfl ?_
              refine WR.move rfl rfl ?_
              refine WR.move rfl rfl ?_
              first
                | (refine WR.bin rfl rfl (ar_add (wrap_i64 ?_ ?_)) rfl ?_; (omega); (omega))
                | refine WR.bin rfl rfl (ar_add rfl) rfl ?_
              refine WR.slice rfl Tryz.underlying24 sz28 ⟨_, _, rfl, by omega, by omega, show p + n = Int.toNat _ by omega⟩ ⟨_, _, rfl, by omega, by omega, show p = Int.toNat _ by omega⟩ rfl ?_
              rw [if_neg (show ¬ c = p by omega), Nat.mul_one, show p + n - p = n by omega]
              refine WR.appendL rfl hO rfl (Lu.part (at' := p) (k := n) (c := c - p) hrl hll rfl (by omega)) (fun i hi => u64s_one hi) Tryz.underlying24 mk28 rfl (by decide) (by simp only [u64s_length, List.length_map, List.length_range]; omega) (by omega) rfl rfl ?_
              intro u2 w2 S9 hn hs hS9
              replace hO := hn
              replace hS := hS.trans hs (by first | (simp <;> omega) | (intro hm; have := hS9 _ hm; omega) | (intro g hm; have := hS9 _ hm; omega) | (intro g hm; have := hS9 _ hm; exact .inr (by omega)))
              replace hl := hl.same hs (by first | (simp <;> omega) | (intro hm; have := hS9 _ hm; omega) | (intro g hm; have := hS9 _ hm; omega) | (intro g hm; have := hS9 _ hm; exact .inr (by omega)))
              replace hz := hz.same hs (by first | (simp <;> omega) | (intro hm; have := hS9 _ hm; omega) | (intro g hm; have := hS9 _ hm; omega) | (intro g hm; have := hS9 _ hm; exact .inr (by omega)))
              have hO2 : Own w2 H0 28 u2 (u64s (tout V z (i + 1))) := by
                rw [tout_pos (n := n) (by rw [← hzi0]), ← hp, show (fun j => V (p + j)) = fun j => xs.getD (p + j) 0 by rw [hV]]
                exact hO
              clear hn hs hS9
              refine WR.assign rfl rfl ?_
              refine WR.nil ?_
              refine WN.seq ?_
              refine WC.region ?_
              refine WR.move rfl rfl ?_
              refine WR.move rfl rfl ?_
              first
                | (refine WR.bin rfl rfl (ar_add (wrap_i64 ?_ ?_)) rfl ?_; (omega); (omega))
                | refine WR.bin rfl rfl (ar_add rfl) rfl ?_
              refine WR.assign rfl rfl ?_
              refine WR.nil ?_
              refine WN.block ?_
              refine WN.seq ?_
              refine WC.region ?_
              first
                | (refine WR.bin rfl rfl (ar_add (wrap_i64 ?_ ?_)) rfl ?_; (omega); (omega))
                | refine WR.bin rfl rfl (ar_add rfl) rfl ?_
              refine WR.move rfl rfl ?_
              refine WR.nil ?_
              first
                | exact WN.loop (k - 1) (i + 1, u2) (by omega) ⟨rfl, rfl, rfl, kint rfl (by show _ = ((i + 1 : Nat) : Int); omega), rfl, kint rfl (by show _ = ((tpos z (i + 1) : Nat) : Int); rw [htp]; omega), trivial⟩ ⟨by show i + 1 + (k - 1) = m; omega, by show tpos z (i + 1) ≤ N; rw [htp]; omega, hS, hl, hz, hO2⟩
                | exact WN.loop (k - 1) (i + 1, u) (by omega) ⟨rfl, rfl, rfl, kint rfl (by show _ = ((i + 1 : Nat) : Int); omega), rfl, kint rfl (by show _ = ((tpos z (i + 1) : Nat) : Int); rw [htp]; omega), trivial⟩ ⟨by show i + 1 + (k - 1) = m; omega, by show tpos z (i + 1) ≤ N; rw [htp]; omega, hS, hl, hz, by show Own _ _ _ _ (u64s (tout V z (i + 1))); rw [tout_nonpos (by omega)]; exact hO⟩
            · skip
              (try simp only [decide_eq_true_eq, decide_eq_false_iff_not, beq_iff_eq, beq_eq_false_iff_ne, bne_iff_ne, bne_eq_false_iff_eq, gt_iff_lt, ge_iff_le, Int.not_lt, Int.not_le, ne_eq, Bool.not_eq_true, Bool.not_eq_false, Bool.and_eq_true, Bool.and_eq_false_iff, Bool.or_eq_true, Bool.or_eq_false_iff] at h138)
              refine WC.skip ?_
              refine WN.seq ?_
              refine WC.region ?_
              refine WR.move rfl rfl ?_
              refine WR.move rfl rfl ?_
              first
                | (refine WR.bin rfl rfl (ar_add (wrap_i64 ?_ ?_)) rfl ?_; (omega); (omega))
                | refine WR.bin rfl rfl (ar_add rfl) rfl ?_
              refine WR.assign rfl rfl ?_
              refine WR.nil ?_
              refine WN.block ?_
              refine WN.seq ?_
              refine WC.region ?_
              first
                | (refine WR.bin rfl rfl (ar_add (wrap_i64 ?_ ?_)) rfl ?_; (omega); (omega))
                | refine WR.bin rfl rfl (ar_add rfl) rfl ?_
              refine WR.move rfl rfl ?_
              refine WR.nil ?_
              first
                | exact WN.loop (k - 1) (i + 1, u2) (by omega) ⟨rfl, rfl, rfl, kint rfl (by show _ = ((i + 1 : Nat) : Int); omega), rfl, kint rfl (by show _ = ((tpos z (i + 1) : Nat) : Int); rw [htp]; omega), trivial⟩ ⟨by show i + 1 + (k - 1) = m; omega, by show tpos z (i + 1) ≤ N; rw [htp]; omega, hS, hl, hz, hO2⟩
                | exact WN.loop (k - 1) (i + 1, u) (by omega) ⟨rfl, rfl, rfl, kint rfl (by show _ = ((i + 1 : Nat) : Int); omega), rfl, kint rfl (by show _ = ((tpos z (i + 1) : Nat) : Int); rw [htp]; omega), trivial⟩ ⟨by show i + 1 + (k - 1) = m; omega, by show tpos z (i + 1) ≤ N; rw [htp]; omega, hS, hl, hz, by show Own _ _ _ _ (u64s (tout V z (i + 1))); rw [tout_nonpos (by omega)]; exact hO⟩
      · skip
        (try simp only [decide_eq_true_eq, decide_eq_false_iff_not, beq_iff_eq, beq_eq_false_iff_ne, bne_iff_ne, bne_eq_false_iff_eq, gt_iff_lt, ge_iff_le, Int.not_lt, Int.not_le, ne_eq, Bool.not_eq_true, Bool.not_eq_false, Bool.and_eq_true, Bool.and_eq_false_iff, Bool.or_eq_true, Bool.or_eq_false_iff] at h130)
        omega
    · skip
      obtain rfl : i = m := by omega
      refine WC.seq ?_
      refine WC.region ?_
      refine WR.bin rfl rfl rfl rfl ?_
      refine WR.nil ?_
      refine WN.seq ?_
      refine WC.seq ?_
      refine WC.cond rfl (fun h130 => ?_) (fun h130 => ?_)
      · skip
        (try simp only [decide_eq_true_eq, decide_eq_false_iff_not, beq_iff_eq, beq_eq_false_iff_ne, bne_iff_ne, bne_eq_false_iff_eq, gt_iff_lt, ge_iff_le, Int.not_lt, Int.not_le, ne_eq, Bool.not_eq_true, Bool.not_eq_false, Bool.and_eq_true, Bool.and_eq_false_iff, Bool.or_eq_true, Bool.or_eq_false_iff] at h130)
        omega
      · skip
        (try simp only [decide_eq_true_eq, decide_eq_false_iff_not, beq_iff_eq, beq_eq_false_iff_ne, bne_iff_ne, bne_eq_false_iff_eq, gt_iff_lt, ge_iff_le, Int.not_lt, Int.not_le, ne_eq, Bool.not_eq_true, Bool.not_eq_false, Bool.and_eq_true, Bool.and_eq_false_iff, Bool.or_eq_true, Bool.or_eq_false_iff] at h130)
        refine WC.exit rfl ?_
        refine WN.seq ?_
        refine WC.seq ?_
        refine WC.region ?_
        refine WR.move rfl rfl ?_
        refine WR.assign rfl rfl ?_
        refine WR.assign rfl rfl ?_
        refine WR.nil ?_
        refine WN.seq ?_
        refine WC.retR rfl rfl ?_
        exact ⟨u, true, rfl, fun _ => ⟨by omega, by rw [← hp]; exact hat, hO⟩, hS⟩

end Go.Proofs.YtajgdpiodpoooaaGreatDoor.Sp
