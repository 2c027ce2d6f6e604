/- impl.UnpackedBatch where the batches are there. -/
import Derived.Test.YtajgdpiodpoooaaGreatDoorFnR
namespace Go.Proofs.YtajgdpiodpoooaaGreatDoor.Vm
open Go Mix Go.RowKit Num Sp
set_option maxRecDepth 20000
set_option linter.unusedSimpArgs false
theorem ub_z8 (w : World) : (zeroValue 24).run Tryz.prog w = .ok (.slice none 0 0) w := by kernel_rfl
theorem ub_z9 (w : World) : (zeroValue 4).run Tryz.prog w = .ok (.bool false) w := by kernel_rfl
theorem batch {w : World} {aE aU aP : Addr} (hg : Glob w aE aU aP) (tb : Tab w) (b rb db dO len cap W n pos k : Nat) (d : Nat → Nat) (ha : At w b rb db dO len cap d pos) (hk : k < 6) (hn : n ≤ 1048576) (hW1 : 1 ≤ W) (hW2 : W ≤ mostV k) (hfit : pos + W * n ≤ 8 * len) (hgb : 7 ≤ b) (hrb : 7 ≤ rb) (hne : b ≠ rb) (hnd : b ≠ db) (hrd : rb ≠ db) :
    Ret Tryz.prog 13 #[.pointer (some ⟨b, 0, none⟩), .int .i64 (W : Nat), .int .i64 (k : Nat), .int .i64 (n : Nat)] w fun v w' => ∃ u, v = .tuple #[u, .nilIface] ∧ At w' b rb db dO len cap d (pos + W * n) ∧ Ls w' w.heap.size u (u64s ((List.range n).map fun j => bts (num d len) (pos + W * j) W)) ∧ Same [b, rb] w w' := by
  rcases (show k = 0 ∨ k = 1 ∨ k = 2 ∨ k = 3 ∨ k = 4 ∨ k = 5 by omega) with rfl | rfl | rfl | rfl | rfl | rfl
  · exact batch0 hg tb b rb db dO len cap W n pos d ha hn hW1 hW2 hfit hgb hrb hne hnd hrd
  · exact batch1 hg tb b rb db dO len cap W n pos d ha hn hW1 hW2 hfit hgb hrb hne hnd hrd
  · obtain rfl : W = 1 := Nat.le_antisymm hW2 hW1
    exact batch2 hg tb b rb db dO len cap n pos d ha hn hfit hgb hrb hne hnd hrd
  · exact batch3 hg tb b rb db dO len cap W n pos d ha hn hW1 hW2 hfit hgb hrb hne hnd hrd
  · obtain rfl : W = 1 := Nat.le_antisymm hW2 hW1
    exact batch4 hg tb b rb db dO len cap n pos d ha hn hfit hgb hrb hne hnd hrd
  · exact batch5 hg tb b rb db dO len cap W n pos d ha hn hW1 hW2 hfit hgb hrb hne hnd hrd
theorem cf10 (us : Array Value) (w : World) : (callFunc 10 us).run Tryz.prog w = .ok (.enter 10 us) w := by kernel_rfl
theorem cf12 (us : Array Value) (w : World) : (callFunc 12 us).run Tryz.prog w = .ok (.enter 12 us) w := by kernel_rfl
theorem cf13 (us : Array Value) (w : World) : (callFunc 13 us).run Tryz.prog w = .ok (.enter 13 us) w := by kernel_rfl
theorem cf9 (us : Array Value) (w : World) : (callFunc 9 us).run Tryz.prog w = .ok (.enter 9 us) w := by kernel_rfl
theorem sz24 : (Tryz.prog.info? 24).map (·.size) = some 1 := by kernel_rfl
set_option maxHeartbeats 400000 in
theorem unpackedBatch {w : World} {aE aU aP : Addr} (hg : Glob w aE aU aP) (tb : Tab w) (db dO len cap W k m cz lz : Nat) (zs : List Int) (Az : Option Addr) (d : Nat → Nat) (hd : Src2 w 0 db dO len cap d) (hl : len ≤ 4096) (hk : k < 6) (hW1 : 1 ≤ W) (hW2 : W ≤ mostV k) (hW64 : W ≤ 64) (hz : Lu w lz (.slice Az m cz) (i64s zs)) (hlz : lz ≤ w.heap.size) (hm0 : m = (i64s zs).length) (hm50 : m ≤ 50) (hfit : W * tpos (fun i => zs.getD i 0) m ≤ 8 * len) :
    Ret Tryz.prog 4 #[.slice (ad db dO) len cap, .int .i64 (W : Nat), .int .i64 (k : Nat), .slice Az m cz] w fun v w' => ∃ u, v = .tuple #[u, .bool true] ∧ Ls w' w.heap.size u (u64s (tout (fun q => bts (num d len) (W * q) W) (fun i => zs.getD i 0) m)) ∧ Same [] w w' := by
  have hS := Same.refl [] w
  have hgs := hg.size
  have hdl := hd.lt
  obtain ⟨z, hzd⟩ : ∃ z : Nat → Int, z = fun i => zs.getD i 0 := ⟨_, rfl⟩
  rw [← hzd] at hfit ⊢
  obtain ⟨V, hV⟩ : ∃ V : Nat → Nat, V = fun q => bts (num d len) (W * q) W := ⟨_, rfl⟩
  rw [← hV]
  obtain ⟨b8, hb8⟩ : ∃ x, x = w.heap.size := ⟨_, rfl⟩
  refine Ret.enterD (vs := [.slice (ad db dO) len cap, .int .i64 (W : Nat), .int .i64 (k : Nat), .slice Az m cz]) Tryz.func4 Tryz.ntmps4 rfl rfl ?_
  refine WC.seq ?_
  refine WC.region ?_
  refine WR.alloc ub_z8 rfl rfl ?_
  intro w1 hn hs
  have hc8 : Row w1 b8 24 1 (fun _ => .slice none 0 0) := by
    rw [hn, hb8]
    exact (Row.alloc w #[.slice none 0 0] 24).congr fun i hi => by
      obtain rfl : i = 0 := by simp at hi; omega
      rfl
  rw [← hb8]
  obtain ⟨b9, hb9⟩ : ∃ x, x = w1.heap.size := ⟨_, rfl⟩
  have hb89 := hc8.lt
  (try replace hs1 := Nat.le_trans hs1 hs.size)
  replace hS := hS.trans hs (by first | (simp <;> omega) | (intro hm; have := hS9 _ hm; omega) | (intro g hm; have := hS9 _ hm; omega) | (intro g hm; have := hS9 _ hm; exact .inr (by omega)))
  replace hg := hg.same hs (by first | (simp <;> omega) | (intro hm; have := hS9 _ hm; omega) | (intro g hm; have := hS9 _ hm; omega) | (intro g hm; have := hS9 _ hm; exact .inr (by omega)))
  replace tb := tb.same hs (by first | (simp <;> omega) | (intro hm; have := hS9 _ hm; omega) | (intro g hm; have := hS9 _ hm; omega) | (intro g hm; have := hS9 _ hm; exact .inr (by omega)))
  replace hz := hz.same hs (by first | (simp <;> omega) | (intro hm; have := hS9 _ hm; omega) | (intro g hm; have := hS9 _ hm; omega) | (intro g hm; have := hS9 _ hm; exact .inr (by omega)))
  (try replace hd := hd.same hs (by first | (simp <;> omega) | (intro hm; have := hS9 _ hm; omega) | (intro g hm; have := hS9 _ hm; omega) | (intro g hm; have := hS9 _ hm; exact .inr (by omega))))
  (try replace hc9 := hc9.same hs (by first | (simp <;> omega) | (intro hm; have := hS9 _ hm; omega) | (intro g hm; have := hS9 _ hm; omega) | (intro g hm; have := hS9 _ hm; exact .inr (by omega))))
  (try replace ha := ha.same hs (by first | (simp <;> omega) | (intro hm; have := hS9 _ hm; omega) | (intro g hm; have := hS9 _ hm; omega) | (intro g hm; have := hS9 _ hm; exact .inr (by omega))) (by first | (simp <;> omega) | (intro hm; have := hS9 _ hm; omega) | (intro g hm; have := hS9 _ hm; omega) | (intro g hm; have := hS9 _ hm; exact .inr (by omega))) (by first | (simp <;> omega) | (intro hm; have := hS9 _ hm; omega) | (intro g hm; have := hS9 _ hm; omega) | (intro g hm; have := hS9 _ hm; exact .inr (by omega))))
  (try replace hO := hO.same hs (by first | (simp <;> omega) | (intro hm; have := hS9 _ hm; omega) | (intro g hm; have := hS9 _ hm; omega) | (intro g hm; have := hS9 _ hm; exact .inr (by omega))))
  clear hn hs
  refine WR.alloc ub_z9 rfl rfl ?_
  intro w2 hn hs
  have hc9 : Row w2 b9 4 1 (fun _ => .bool false) := by
    rw [hn, hb9]
    exact (Row.alloc _ #[.bool false] 4).congr fun i hi => by
      obtain rfl : i = 0 := by simp at hi; omega
      rfl
  rw [← hb9]
  have hl9 := hc9.lt
  (try replace hs1 := Nat.le_trans hs1 hs.size)
  replace hS := hS.trans hs (by first | (simp <;> omega) | (intro hm; have := hS9 _ hm; omega) | (intro g hm; have := hS9 _ hm; omega) | (intro g hm; have := hS9 _ hm; exact .inr (by omega)))
  replace hg := hg.same hs (by first | (simp <;> omega) | (intro hm; have := hS9 _ hm; omega) | (intro g hm; have := hS9 _ hm; omega) | (intro g hm; have := hS9 _ hm; exact .inr (by omega)))
  replace tb := tb.same hs (by first | (simp <;> omega) | (intro hm; have := hS9 _ hm; omega) | (intro g hm; have := hS9 _ hm; omega) | (intro g hm; have := hS9 _ hm; exact .inr (by omega)))
  replace hz := hz.same hs (by first | (simp <;> omega) | (intro hm; have := hS9 _ hm; omega) | (intro g hm; have := hS9 _ hm; omega) | (intro g hm; have := hS9 _ hm; exact .inr (by omega)))
  (try replace hd := hd.same hs (by first | (simp <;> omega) | (intro hm; have := hS9 _ hm; omega) | (intro g hm; have := hS9 _ hm; omega) | (intro g hm; have := hS9 _ hm; exact .inr (by omega))))
  (try replace hc8 := hc8.same hs (by first | (simp <;> omega) | (intro hm; have := hS9 _ hm; omega) | (intro g hm; have := hS9 _ hm; omega) | (intro g hm; have := hS9 _ hm; exact .inr (by omega))))
  (try replace ha := ha.same hs (by first | (simp <;> omega) | (intro hm; have := hS9 _ hm; omega) | (intro g hm; have := hS9 _ hm; omega) | (intro g hm; have := hS9 _ hm; exact .inr (by omega))) (by first | (simp <;> omega) | (intro hm; have := hS9 _ hm; omega) | (intro g hm; have := hS9 _ hm; omega) | (intro g hm; have := hS9 _ hm; exact .inr (by omega))) (by first | (simp <;> omega) | (intro hm; have := hS9 _ hm; omega) | (intro g hm; have := hS9 _ hm; omega) | (intro g hm; have := hS9 _ hm; exact .inr (by omega))))
  (try replace hO := hO.same hs (by first | (simp <;> omega) | (intro hm; have := hS9 _ hm; omega) | (intro g hm; have := hS9 _ hm; omega) | (intro g hm; have := hS9 _ hm; exact .inr (by omega))))
  clear hn hs
  refine WR.nil ?_
  refine WN.seq ?_
  refine WC.seq ?_
  refine WC.region ?_
  refine WR.deferF rfl rfl ?_
  refine WR.nil ?_
  refine WN.seq ?_
  refine WC.seq ?_
  refine WC.region ?_
  refine WR.move rfl rfl ?_
  refine WR.callF rfl rfl cf11 rfl rfl (newReader db dO len cap) ?_
  rintro _ w3 ⟨rb, hrb, rfl, hR, hs⟩
  have hrl := hR.lt
  (try replace hs1 := Nat.le_trans hs1 hs.size)
  replace hS := hS.trans hs (by first | (simp <;> omega) | (intro hm; have := hS9 _ hm; omega) | (intro g hm; have := hS9 _ hm; omega) | (intro g hm; have := hS9 _ hm; exact .inr (by omega)))
  replace hg := hg.same hs (by first | (simp <;> omega) | (intro hm; have := hS9 _ hm; omega) | (intro g hm; have := hS9 _ hm; omega) | (intro g hm; have := hS9 _ hm; exact .inr (by omega)))
  replace tb := tb.same hs (by first | (simp <;> omega) | (intro hm; have := hS9 _ hm; omega) | (intro g hm; have := hS9 _ hm; omega) | (intro g hm; have := hS9 _ hm; exact .inr (by omega)))
  replace hz := hz.same hs (by first | (simp <;> omega) | (intro hm; have := hS9 _ hm; omega) | (intro g hm; have := hS9 _ hm; omega) | (intro g hm; have := hS9 _ hm; exact .inr (by omega)))
  (try replace hd := hd.same hs (by first | (simp <;> omega) | (intro hm; have := hS9 _ hm; omega) | (intro g hm; have := hS9 _ hm; omega) | (intro g hm; have := hS9 _ hm; exact .inr (by omega))))
  (try replace hc8 := hc8.same hs (by first | (simp <;> omega) | (intro hm; have := hS9 _ hm; omega) | (intro g hm; have := hS9 _ hm; omega) | (intro g hm; have := hS9 _ hm; exact .inr (by omega))))
  (try replace hc9 := hc9.same hs (by first | (simp <;> omega) | (intro hm; have := hS9 _ hm; omega) | (intro g hm; have := hS9 _ hm; omega) | (intro g hm; have := hS9 _ hm; exact .inr (by omega))))
  (try replace ha := ha.same hs (by first | (simp <;> omega) | (intro hm; have := hS9 _ hm; omega) | (intro g hm; have := hS9 _ hm; omega) | (intro g hm; have := hS9 _ hm; exact .inr (by omega))) (by first | (simp <;> omega) | (intro hm; have := hS9 _ hm; omega) | (intro g hm; have := hS9 _ hm; omega) | (intro g hm; have := hS9 _ hm; exact .inr (by omega))) (by first | (simp <;> omega) | (intro hm; have := hS9 _ hm; omega) | (intro g hm; have := hS9 _ hm; omega) | (intro g hm; have := hS9 _ hm; exact .inr (by omega))))
  (try replace hO := hO.same hs (by first | (simp <;> omega) | (intro hm; have := hS9 _ hm; omega) | (intro g hm; have := hS9 _ hm; omega) | (intro g hm; have := hS9 _ hm; exact .inr (by omega))))
  refine WR.mkIface rfl Tryz.underlying38 rfl rfl ?_
  have hsrc := Src.of_two (⟨hd.data, hd.small, hd.cap_, hd.len_, hd.lt, hd.nz⟩ : Src2 _ rb db dO len cap d) hR (by omega)
  have hd2 := hd.lt
  refine WR.callF rfl rfl cf10 rfl rfl (newBitReader rb db dO len cap 0 (-1) d hsrc) ?_
  rintro _ w4 ⟨b, hb, rfl, ha, hs⟩
  (try replace hs1 := Nat.le_trans hs1 hs.size)
  replace hS := hS.trans hs (by first | (simp <;> omega) | (intro hm; have := hS9 _ hm; omega) | (intro g hm; have := hS9 _ hm; omega) | (intro g hm; have := hS9 _ hm; exact .inr (by omega)))
  replace hg := hg.same hs (by first | (simp <;> omega) | (intro hm; have := hS9 _ hm; omega) | (intro g hm; have := hS9 _ hm; omega) | (intro g hm; have := hS9 _ hm; exact .inr (by omega)))
  replace tb := tb.same hs (by first | (simp <;> omega) | (intro hm; have := hS9 _ hm; omega) | (intro g hm; have := hS9 _ hm; omega) | (intro g hm; have := hS9 _ hm; exact .inr (by omega)))
  replace hz := hz.same hs (by first | (simp <;> omega) | (intro hm; have := hS9 _ hm; omega) | (intro g hm; have := hS9 _ hm; omega) | (intro g hm; have := hS9 _ hm; exact .inr (by omega)))
  (try replace hd := hd.same hs (by first | (simp <;> omega) | (intro hm; have := hS9 _ hm; omega) | (intro g hm; have := hS9 _ hm; omega) | (intro g hm; have := hS9 _ hm; exact .inr (by omega))))
  (try replace hc8 := hc8.same hs (by first | (simp <;> omega) | (intro hm; have := hS9 _ hm; omega) | (intro g hm; have := hS9 _ hm; omega) | (intro g hm; have := hS9 _ hm; exact .inr (by omega))))
  (try replace hc9 := hc9.same hs (by first | (simp <;> omega) | (intro hm; have := hS9 _ hm; omega) | (intro g hm; have := hS9 _ hm; omega) | (intro g hm; have := hS9 _ hm; exact .inr (by omega))))
  (try replace hO := hO.same hs (by first | (simp <;> omega) | (intro hm; have := hS9 _ hm; omega) | (intro g hm; have := hS9 _ hm; omega) | (intro g hm; have := hS9 _ hm; exact .inr (by omega))))
  refine WR.assign rfl rfl ?_
  refine WR.nil ?_
  refine WN.seq ?_
  refine WC.seq ?_
  refine WC.seq ?_
  refine WC.region ?_
  refine WR.move rfl rfl ?_
  refine WR.lenS rfl Tryz.underlying23 rfl ?_
  refine WR.move rfl rfl ?_
  refine WR.nil ?_
  refine WN.seq ?_
  refine WC.block ?_
  obtain ⟨H1, hH1⟩ : ∃ x, x = w4.heap.size := ⟨_, rfl⟩
  obtain ⟨hl1, hl2, hl3⟩ := ha.lt
  rw [← hH1] at hl1 hl2 hl3
  have hO : Own w4 H1 28 (.slice none 0 0) (u64s (tout V z 0)) := Own.nil _ _ _
  have hs0 := hS.size
  rw [← hH1] at hs0
  have hl8 := hc8.lt
  have hl99 := hc9.lt
  rw [← hH1] at hl8 hl99
  refine WC.loop (fun i : Nat => [(8, .pointer (some ⟨b8, 0, none⟩)), (9, .pointer (some ⟨b9, 0, none⟩)), (1, .int .i64 (W : Nat)), (2, .int .i64 (k : Nat)), (10, .pointer (some ⟨b, 0, none⟩)), (21, .slice Az m cz), (22, .int .i64 (m : Nat)), (23, .int .i64 (i : Nat))]) (fun j i w' => i + j = m ∧ H1 ≤ w'.heap.size ∧ Same [] w w' ∧ Glob w' aE aU aP ∧ Tab w' ∧ At w' b rb db dO len cap d (W * tpos z i) ∧ Lu w' lz (.slice Az m cz) (i64s zs) ∧ (∃ f9, Row w' b9 4 1 f9) ∧ ∃ u, Row w' b8 24 1 (fun _ => u) ∧ Own w' H1 28 u (u64s (tout V z i))) m 0 ⟨rfl, rfl, rfl, rfl, rfl, rfl, rfl, rfl, trivial⟩ ⟨by omega, by omega, hS, hg, tb, ha, hz, ⟨_, hc9⟩, _, hc8, hO⟩ ?_
  clear hS hg tb ha hz hc8 hc9 hO
  rintro j i w5 ⟨hm, hs1, hS, hg, tb, ha, hz, ⟨f9, hc9⟩, u, hc8, hO⟩
  obtain ⟨p, hp⟩ : ∃ p, p = tpos z i := ⟨_, rfl⟩
  have hout := tout_length V z i
  rw [← hp] at hout ha
  obtain ⟨zi, hzi0⟩ : ∃ zi, zi = z i := ⟨_, rfl⟩
  have htp : tpos z (i + 1) = p + zi.natAbs := by simp only [tpos]; rw [← hp, ← hzi0]
  have hzi1 : zi = zs.getD i 0 := by rw [hzi0, hzd]
  have hpl : p ≤ W * p := Nat.le_mul_of_pos_left p hW1
  have hzl : zi.natAbs ≤ W * zi.natAbs := Nat.le_mul_of_pos_left _ hW1
  rcases (show i < m ∧ zi < 0 ∨ i < m ∧ 0 ≤ zi ∨ m ≤ i by omega) with ⟨hi, hzc⟩ | ⟨hi, hzc⟩ | hi
  · skip
    obtain ⟨gz, oz, ez, hez, hgz, hlz2, hrz⟩ := hz.lit (by omega)
    simp only [Value.slice.injEq] at hez
    obtain ⟨rfl, -, rfl⟩ := hez
    have hfi : W * p + W * zi.natAbs ≤ 8 * len := by
      rw [← Nat.mul_add, ← htp]
      exact Nat.le_trans (Nat.mul_le_mul_left W (tpos_mono z (by omega))) hfit
    obtain ⟨n, rfl⟩ : ∃ n : Nat, zi = -(n : Int) := ⟨zi.natAbs, by omega⟩
    rw [show (-(n : Int)).natAbs = n by omega] at hfi hzl htp
    refine WC.seq ?_
    refine WC.region ?_
    refine WR.bin rfl rfl rfl rfl ?_
    refine WR.nil ?_
    refine WN.seq ?_
    refine WC.seq ?_
    refine WC.cond rfl (fun h118 => ?_) (fun h118 => ?_)
    · skip
      (try simp only [decide_eq_true_eq, decide_eq_false_iff_not, beq_iff_eq, beq_eq_false_iff_ne, bne_iff_ne, bne_eq_false_iff_eq, gt_iff_lt, ge_iff_le, Int.not_lt, Int.not_le, ne_eq, Bool.not_eq_true, Bool.not_eq_false, Bool.and_eq_true, Bool.and_eq_false_iff, Bool.or_eq_true, Bool.or_eq_false_iff] at h118)
      refine WC.skip ?_
      refine WN.seq ?_
      refine WC.seq ?_
      refine WC.block ?_
      refine WC.seq ?_
      refine WC.region ?_
      refine WR.idx rfl rfl Tryz.underlying23 sz3 (by omega) (by omega) rfl ?_
      refine WR.load rfl Tryz.underlying3 rfl (show _ = some (Value.int .i64 _) by rw [Nat.mul_one]; exact (hrz i (by omega)).trans (congrArg some ((i64s_getD (by rw [i64s_length] at hm0; omega)).trans (by rw [← hzi1])))) rfl ?_
      refine WR.assign rfl rfl ?_
      refine WR.nil ?_
      refine WN.seq ?_
      refine WC.seq ?_
      refine WC.seq ?_
      refine WC.region ?_
      refine WR.move rfl rfl ?_
      refine WR.bin rfl rfl rfl rfl ?_
      refine WR.nil ?_
      refine WN.seq ?_
      refine WC.cond rfl (fun h119 => ?_) (fun h119 => ?_)
      · skip
        (try simp only [decide_eq_true_eq, decide_eq_false_iff_not, beq_iff_eq, beq_eq_false_iff_ne, bne_iff_ne, bne_eq_false_iff_eq, gt_iff_lt, ge_iff_le, Int.not_lt, Int.not_le, ne_eq, Bool.not_eq_true, Bool.not_eq_false, Bool.and_eq_true, Bool.and_eq_false_iff, Bool.or_eq_true, Bool.or_eq_false_iff] at h119)
        refine WC.seq ?_
        refine WC.seq ?_
        refine WC.region ?_
        refine WR.move rfl rfl ?_
        refine WR.move rfl rfl ?_
        first
          | (refine WR.conv rfl Tryz.underlying3 Tryz.underlying44 (wrap_u64 ?_ ?_) rfl ?_; (omega); (omega))
          | refine WR.conv rfl Tryz.underlying3 Tryz.underlying44 rfl rfl ?_
        refine WR.move rfl rfl ?_
        refine WR.negOp rfl (z := ((n : Nat) : Int)) (by rw [wrap_i64 (by omega) (by omega)]; omega) rfl ?_
        refine WR.callF rfl rfl cf12 rfl rfl (discard hg b rb db dO len cap W n (W * p) d ha (by omega) hW1 hW64 hfi (by omega) (by omega) (by omega) (by omega) (by omega)) ?_
        rintro _ w6 ⟨rfl, ha', hs⟩
        replace ha := ha'
        clear ha'
        (try replace hs1 := Nat.le_trans hs1 hs.size)
        replace hS := hS.trans hs (by first | (simp <;> omega) | (intro hm; have := hS9 _ hm; omega) | (intro g hm; have := hS9 _ hm; omega) | (intro g hm; have := hS9 _ hm; exact .inr (by omega)))
        replace hg := hg.same hs (by first | (simp <;> omega) | (intro hm; have := hS9 _ hm; omega) | (intro g hm; have := hS9 _ hm; omega) | (intro g hm; have := hS9 _ hm; exact .inr (by omega)))
        replace tb := tb.same hs (by first | (simp <;> omega) | (intro hm; have := hS9 _ hm; omega) | (intro g hm; have := hS9 _ hm; omega) | (intro g hm; have := hS9 _ hm; exact .inr (by omega)))
        replace hz := hz.same hs (by first | (simp <;> omega) | (intro hm; have := hS9 _ hm; omega) | (intro g hm; have := hS9 _ hm; omega) | (intro g hm; have := hS9 _ hm; exact .inr (by omega)))
        (try replace hd := hd.same hs (by first | (simp <;> omega) | (intro hm; have := hS9 _ hm; omega) | (intro g hm; have := hS9 _ hm; omega) | (intro g hm; have := hS9 _ hm; exact .inr (by omega))))
        (try replace hc8 := hc8.same hs (by first | (simp <;> omega) | (intro hm; have := hS9 _ hm; omega) | (intro g hm; have := hS9 _ hm; omega) | (intro g hm; have := hS9 _ hm; exact .inr (by omega))))
        (try replace hc9 := hc9.same hs (by first | (simp <;> omega) | (intro hm; have := hS9 _ hm; omega) | (intro g hm; have := hS9 _ hm; omega) | (intro g hm; have := hS9 _ hm; exact .inr (by omega))))
        (try replace hO := hO.same hs (by first | (simp <;> omega) | (intro hm; have := hS9 _ hm; omega) | (intro g hm; have := hS9 _ hm; omega) | (intro g hm; have := hS9 _ hm; exact .inr (by omega))))
        refine WR.move rfl rfl ?_
        refine WR.extract rfl rfl rfl ?_
        refine WR.extract rfl rfl rfl ?_
        refine WR.assign rfl rfl ?_
        refine WR.assign rfl rfl ?_
        refine WR.nil ?_
        refine WN.seq ?_
        refine WC.seq ?_
        refine WC.region ?_
        refine WR.move rfl rfl ?_
        refine WR.neqNil rfl rfl Tryz.underlying41 rfl ?_
        refine WR.move rfl rfl ?_
        refine WR.take rfl rfl (by first | rfl | assumption | simp_all) ?_
        refine WR.move rfl rfl ?_
        refine WR.take rfl rfl (by first | rfl | assumption | simp_all) ?_
        refine WR.move rfl rfl ?_
        refine WR.take rfl rfl (by first | rfl | assumption | simp_all) ?_
        refine WR.negOp rfl (z := ((n : Nat) : Int)) (by rw [wrap_i64 (by omega) (by omega)]; omega) rfl ?_
        refine WR.take rfl rfl (by first | rfl | assumption | simp_all) ?_
        refine WR.bin rfl rfl rfl rfl ?_
        refine WR.pickF rfl (by first | rfl | assumption | simp_all) rfl rfl ?_
        refine WR.nil ?_
        refine WN.seq ?_
        refine WC.cond rfl (fun h120 => ?_) (fun h120 => ?_)
        · skip
          exact absurd h120 (by simp)
        · skip
          (try simp only [decide_eq_true_eq, decide_eq_false_iff_not, beq_iff_eq, beq_eq_false_iff_ne, bne_iff_ne, bne_eq_false_iff_eq, gt_iff_lt, ge_iff_le, Int.not_lt, Int.not_le, ne_eq, Bool.not_eq_true, Bool.not_eq_false, Bool.and_eq_true, Bool.and_eq_false_iff, Bool.or_eq_true, Bool.or_eq_false_iff] at h120)
          refine WC.skip ?_
          refine WN.seq ?_
          refine WC.exit rfl ?_
          refine WN.seq ?_
          refine WC.region ?_
          first
            | (refine WR.bin rfl rfl (ar_add (wrap_i64 ?_ ?_)) rfl ?_; (omega); (omega))
            | refine WR.bin rfl rfl (ar_add rfl) rfl ?_
          refine WR.move rfl rfl ?_
          refine WR.nil ?_
          exact WN.loop (j - 1) (i + 1) (by omega) ⟨rfl, rfl, rfl, rfl, rfl, rfl, rfl, kint rfl (by omega), trivial⟩ ⟨by omega, hs1, hS, hg, tb, by rw [htp, Nat.mul_add]; exact ha, hz, ⟨_, hc9⟩, u, hc8, by rw [tout_nonpos (by rw [← hzi0]; omega)]; exact hO⟩
      · skip
        (try simp only [decide_eq_true_eq, decide_eq_false_iff_not, beq_iff_eq, beq_eq_false_iff_ne, bne_iff_ne, bne_eq_false_iff_eq, gt_iff_lt, ge_iff_le, Int.not_lt, Int.not_le, ne_eq, Bool.not_eq_true, Bool.not_eq_false, Bool.and_eq_true, Bool.and_eq_false_iff, Bool.or_eq_true, Bool.or_eq_false_iff] at h119)
        omega
    · skip
      (try simp only [decide_eq_true_eq, decide_eq_false_iff_not, beq_iff_eq, beq_eq_false_iff_ne, bne_iff_ne, bne_eq_false_iff_eq, gt_iff_lt, ge_iff_le, Int.not_lt, Int.not_le, ne_eq, Bool.not_eq_true, Bool.not_eq_false, Bool.and_eq_true, Bool.and_eq_false_iff, Bool.or_eq_true, Bool.or_eq_false_iff] at h118)
      omega
  · skip
    obtain ⟨gz, oz, ez, hez, hgz, hlz2, hrz⟩ := hz.lit (by omega)
    simp only [Value.slice.injEq] at hez
    obtain ⟨rfl, -, rfl⟩ := hez
    have hfi : W * p + W * zi.natAbs ≤ 8 * len := by
      rw [← Nat.mul_add, ← htp]
      exact Nat.le_trans (Nat.mul_le_mul_left W (tpos_mono z (by omega))) hfit
    obtain ⟨n, rfl⟩ := Int.eq_ofNat_of_zero_le hzc
    rw [show ((n : Nat) : Int).natAbs = n by omega] at hfi hzl htp
    refine WC.seq ?_
    refine WC.region ?_
    refine WR.bin rfl rfl rfl rfl ?_
    refine WR.nil ?_
    refine WN.seq ?_
    refine WC.seq ?_
    refine WC.cond rfl (fun h118 => ?_) (fun h118 => ?_)
    · skip
      (try simp only [decide_eq_true_eq, decide_eq_false_iff_not, beq_iff_eq, beq_eq_false_iff_ne, bne_iff_ne, bne_eq_false_iff_eq, gt_iff_lt, ge_iff_le, Int.not_lt, Int.not_le, ne_eq, Bool.not_eq_true, Bool.not_eq_false, Bool.and_eq_true, Bool.and_eq_false_iff, Bool.or_eq_true, Bool.or_eq_false_iff] at h118)
      refine WC.skip ?_
      refine WN.seq ?_
      refine WC.seq ?_
      refine WC.block ?_
      refine WC.seq ?_
      refine WC.region ?_
      refine WR.idx rfl rfl Tryz.underlying23 sz3 (by omega) (by omega) rfl ?_
      refine WR.load rfl Tryz.underlying3 rfl (show _ = some (Value.int .i64 _) by rw [Nat.mul_one]; exact (hrz i (by omega)).trans (congrArg some ((i64s_getD (by rw [i64s_length] at hm0; omega)).trans (by rw [← hzi1])))) rfl ?_
      refine WR.assign rfl rfl ?_
      refine WR.nil ?_
      refine WN.seq ?_
      refine WC.seq ?_
      refine WC.seq ?_
      refine WC.region ?_
      refine WR.move rfl rfl ?_
      refine WR.bin rfl rfl rfl rfl ?_
      refine WR.nil ?_
      refine WN.seq ?_
      refine WC.cond rfl (fun h119 => ?_) (fun h119 => ?_)
      · skip
        (try simp only [decide_eq_true_eq, decide_eq_false_iff_not, beq_iff_eq, beq_eq_false_iff_ne, bne_iff_ne, bne_eq_false_iff_eq, gt_iff_lt, ge_iff_le, Int.not_lt, Int.not_le, ne_eq, Bool.not_eq_true, Bool.not_eq_false, Bool.and_eq_true, Bool.and_eq_false_iff, Bool.or_eq_true, Bool.or_eq_false_iff] at h119)
        omega
      · skip
        (try simp only [decide_eq_true_eq, decide_eq_false_iff_not, beq_iff_eq, beq_eq_false_iff_ne, bne_iff_ne, bne_eq_false_iff_eq, gt_iff_lt, ge_iff_le, Int.not_lt, Int.not_le, ne_eq, Bool.not_eq_true, Bool.not_eq_false, Bool.and_eq_true, Bool.and_eq_false_iff, Bool.or_eq_true, Bool.or_eq_false_iff] at h119)
        refine WC.skip ?_
        refine WN.seq ?_
        refine WC.seq ?_
        refine WC.region ?_
        refine WR.move rfl rfl ?_
        refine WR.move rfl rfl ?_
        refine WR.move rfl rfl ?_
        refine WR.move rfl rfl ?_
        refine WR.callF rfl rfl cf13 rfl rfl (batch hg tb b rb db dO len cap W n (W * p) k d ha hk (by omega) hW1 hW2 hfi (by omega) (by omega) (by omega) (by omega) (by omega)) ?_
        rintro _ w6 ⟨l, rfl, ha', hl2, hs⟩
        replace ha := ha'
        clear ha'
        obtain ⟨Al, cl, rfl⟩ := hl2.shape
        have hln : (u64s ((List.range n).map fun j => bts (num d len) (W * p + W * j) W)).length = n := by rw [u64s_length]; simp
        rw [hln] at hl2 ⊢
        (try replace hs1 := Nat.le_trans hs1 hs.size)
        replace hS := hS.trans hs (by first | (simp <;> omega) | (intro hm; have := hS9 _ hm; omega) | (intro g hm; have := hS9 _ hm; omega) | (intro g hm; have := hS9 _ hm; exact .inr (by omega)))
        replace hg := hg.same hs (by first | (simp <;> omega) | (intro hm; have := hS9 _ hm; omega) | (intro g hm; have := hS9 _ hm; omega) | (intro g hm; have := hS9 _ hm; exact .inr (by omega)))
        replace tb := tb.same hs (by first | (simp <;> omega) | (intro hm; have := hS9 _ hm; omega) | (intro g hm; have := hS9 _ hm; omega) | (intro g hm; have := hS9 _ hm; exact .inr (by omega)))
        replace hz := hz.same hs (by first | (simp <;> omega) | (intro hm; have := hS9 _ hm; omega) | (intro g hm; have := hS9 _ hm; omega) | (intro g hm; have := hS9 _ hm; exact .inr (by omega)))
        (try replace hd := hd.same hs (by first | (simp <;> omega) | (intro hm; have := hS9 _ hm; omega) | (intro g hm; have := hS9 _ hm; omega) | (intro g hm; have := hS9 _ hm; exact .inr (by omega))))
        (try replace hc8 := hc8.same hs (by first | (simp <;> omega) | (intro hm; have := hS9 _ hm; omega) | (intro g hm; have := hS9 _ hm; omega) | (intro g hm; have := hS9 _ hm; exact .inr (by omega))))
        (try replace hc9 := hc9.same hs (by first | (simp <;> omega) | (intro hm; have := hS9 _ hm; omega) | (intro g hm; have := hS9 _ hm; omega) | (intro g hm; have := hS9 _ hm; exact .inr (by omega))))
        (try replace hO := hO.same hs (by first | (simp <;> omega) | (intro hm; have := hS9 _ hm; omega) | (intro g hm; have := hS9 _ hm; omega) | (intro g hm; have := hS9 _ hm; exact .inr (by omega))))
        refine WR.move rfl rfl ?_
        refine WR.extract rfl rfl rfl ?_
        refine WR.extract rfl rfl rfl ?_
        refine WR.assign rfl rfl ?_
        refine WR.assign rfl rfl ?_
        refine WR.nil ?_
        refine WN.seq ?_
        refine WC.seq ?_
        refine WC.region ?_
        refine WR.load rfl Tryz.underlying24 rfl (hc8.cell (by omega)) rfl ?_
        refine WR.move rfl rfl ?_
        refine WR.appendL rfl hO rfl hl2 (fun i hi => u64s_one hi) Tryz.underlying24 mk28 rfl (by decide) (by rw [hln, u64s_length]; omega) (by omega) rfl rfl ?_
        intro u2 w7 S9 hn hs hS9
        replace hO := hn
        (try replace hs1 := Nat.le_trans hs1 hs.size)
        replace hS := hS.trans hs (by first | (simp <;> omega) | (intro hm; have := hS9 _ hm; omega) | (intro g hm; have := hS9 _ hm; omega) | (intro g hm; have := hS9 _ hm; exact .inr (by omega)))
        replace hg := hg.same hs (by first | (simp <;> omega) | (intro hm; have := hS9 _ hm; omega) | (intro g hm; have := hS9 _ hm; omega) | (intro g hm; have := hS9 _ hm; exact .inr (by omega)))
        replace tb := tb.same hs (by first | (simp <;> omega) | (intro hm; have := hS9 _ hm; omega) | (intro g hm; have := hS9 _ hm; omega) | (intro g hm; have := hS9 _ hm; exact .inr (by omega)))
        replace hz := hz.same hs (by first | (simp <;> omega) | (intro hm; have := hS9 _ hm; omega) | (intro g hm; have := hS9 _ hm; omega) | (intro g hm; have := hS9 _ hm; exact .inr (by omega)))
        (try replace hd := hd.same hs (by first | (simp <;> omega) | (intro hm; have := hS9 _ hm; omega) | (intro g hm; have := hS9 _ hm; omega) | (intro g hm; have := hS9 _ hm; exact .inr (by omega))))
        (try replace hc8 := hc8.same hs (by first | (simp <;> omega) | (intro hm; have := hS9 _ hm; omega) | (intro g hm; have := hS9 _ hm; omega) | (intro g hm; have := hS9 _ hm; exact .inr (by omega))))
        (try replace hc9 := hc9.same hs (by first | (simp <;> omega) | (intro hm; have := hS9 _ hm; omega) | (intro g hm; have := hS9 _ hm; omega) | (intro g hm; have := hS9 _ hm; exact .inr (by omega))))
        (try replace ha := ha.same hs (by first | (simp <;> omega) | (intro hm; have := hS9 _ hm; omega) | (intro g hm; have := hS9 _ hm; omega) | (intro g hm; have := hS9 _ hm; exact .inr (by omega))) (by first | (simp <;> omega) | (intro hm; have := hS9 _ hm; omega) | (intro g hm; have := hS9 _ hm; omega) | (intro g hm; have := hS9 _ hm; exact .inr (by omega))) (by first | (simp <;> omega) | (intro hm; have := hS9 _ hm; omega) | (intro g hm; have := hS9 _ hm; omega) | (intro g hm; have := hS9 _ hm; exact .inr (by omega))))
        clear hn hs hS9
        refine WR.storeK rfl rfl hO.one sz24 (hc8.cell (by omega)) (hc8.fz _) ?_
        intro w8 hn hs
        replace hc8 := hc8.set' hn
        (try replace hs1 := Nat.le_trans hs1 hs.size)
        replace hS := hS.trans hs (by first | (simp <;> omega) | (intro hm; have := hS9 _ hm; omega) | (intro g hm; have := hS9 _ hm; omega) | (intro g hm; have := hS9 _ hm; exact .inr (by omega)))
        replace hg := hg.same hs (by first | (simp <;> omega) | (intro hm; have := hS9 _ hm; omega) | (intro g hm; have := hS9 _ hm; omega) | (intro g hm; have := hS9 _ hm; exact .inr (by omega)))
        replace tb := tb.same hs (by first | (simp <;> omega) | (intro hm; have := hS9 _ hm; omega) | (intro g hm; have := hS9 _ hm; omega) | (intro g hm; have := hS9 _ hm; exact .inr (by omega)))
        replace hz := hz.same hs (by first | (simp <;> omega) | (intro hm; have := hS9 _ hm; omega) | (intro g hm; have := hS9 _ hm; omega) | (intro g hm; have := hS9 _ hm; exact .inr (by omega)))
        (try replace hd := hd.same hs (by first | (simp <;> omega) | (intro hm; have := hS9 _ hm; omega) | (intro g hm; have := hS9 _ hm; omega) | (intro g hm; have := hS9 _ hm; exact .inr (by omega))))
        (try replace hc9 := hc9.same hs (by first | (simp <;> omega) | (intro hm; have := hS9 _ hm; omega) | (intro g hm; have := hS9 _ hm; omega) | (intro g hm; have := hS9 _ hm; exact .inr (by omega))))
        (try replace ha := ha.same hs (by first | (simp <;> omega) | (intro hm; have := hS9 _ hm; omega) | (intro g hm; have := hS9 _ hm; omega) | (intro g hm; have := hS9 _ hm; exact .inr (by omega))) (by first | (simp <;> omega) | (intro hm; have := hS9 _ hm; omega) | (intro g hm; have := hS9 _ hm; omega) | (intro g hm; have := hS9 _ hm; exact .inr (by omega))) (by first | (simp <;> omega) | (intro hm; have := hS9 _ hm; omega) | (intro g hm; have := hS9 _ hm; omega) | (intro g hm; have := hS9 _ hm; exact .inr (by omega))))
        (try replace hO := hO.same hs (by first | (simp <;> omega) | (intro hm; have := hS9 _ hm; omega) | (intro g hm; have := hS9 _ hm; omega) | (intro g hm; have := hS9 _ hm; exact .inr (by omega))))
        clear hn hs
        refine WR.nil ?_
        refine WN.seq ?_
        refine WC.seq ?_
        refine WC.region ?_
        refine WR.move rfl rfl ?_
        refine WR.neqNil rfl rfl Tryz.underlying41 rfl ?_
        refine WR.move rfl rfl ?_
        refine WR.take rfl rfl (by first | rfl | assumption | simp_all) ?_
        refine WR.move rfl rfl ?_
        refine WR.take rfl rfl (by first | rfl | assumption | simp_all) ?_
        refine WR.lenS rfl Tryz.underlying24 rfl ?_
        refine WR.take rfl rfl (by first | rfl | assumption | simp_all) ?_
        refine WR.move rfl rfl ?_
        refine WR.take rfl rfl (by first | rfl | assumption | simp_all) ?_
        refine WR.bin rfl rfl rfl rfl ?_
        refine WR.pickF rfl (by first | rfl | assumption | simp_all) rfl rfl ?_
        refine WR.nil ?_
        refine WN.seq ?_
        refine WC.cond rfl (fun h127 => ?_) (fun h127 => ?_)
        · skip
          exact absurd h127 (by simp)
        · skip
          (try simp only [decide_eq_true_eq, decide_eq_false_iff_not, beq_iff_eq, beq_eq_false_iff_ne, bne_iff_ne, bne_eq_false_iff_eq, gt_iff_lt, ge_iff_le, Int.not_lt, Int.not_le, ne_eq, Bool.not_eq_true, Bool.not_eq_false, Bool.and_eq_true, Bool.and_eq_false_iff, Bool.or_eq_true, Bool.or_eq_false_iff] at h127)
          refine WC.skip ?_
          refine WN.block ?_
          refine WN.seq ?_
          refine WC.region ?_
          first
            | (refine WR.bin rfl rfl (ar_add (wrap_i64 ?_ ?_)) rfl ?_; (omega); (omega))
            | refine WR.bin rfl rfl (ar_add rfl) rfl ?_
          refine WR.move rfl rfl ?_
          refine WR.nil ?_
          have e9 : u64s (tout V z (i + 1)) = u64s (tout V z i) ++ u64s ((List.range n).map fun j => bts (num d len) (W * p + W * j) W) := by
            rw [tout_pos (n := n) (by rw [← hzi0]), ← hp, show (fun j => V (p + j)) = fun j => bts (num d len) (W * p + W * j) W by
              rw [hV]
              funext j
              show bts (num d len) (W * (p + j)) W = _
              rw [Nat.mul_add]]
          have hc8' := hc8.congr (f' := fun _ => u2) (fun q hq => by
            obtain rfl : q = 0 := by omega
            rfl)
          exact WN.loop (j - 1) (i + 1) (by omega) ⟨rfl, rfl, rfl, rfl, rfl, rfl, rfl, kint rfl (by omega), trivial⟩ ⟨by omega, hs1, hS, hg, tb, by rw [htp, Nat.mul_add]; exact ha, hz, ⟨_, hc9⟩, u2, hc8', by rw [e9]; exact hO⟩
    · skip
      (try simp only [decide_eq_true_eq, decide_eq_false_iff_not, beq_iff_eq, beq_eq_false_iff_ne, bne_iff_ne, bne_eq_false_iff_eq, gt_iff_lt, ge_iff_le, Int.not_lt, Int.not_le, ne_eq, Bool.not_eq_true, Bool.not_eq_false, Bool.and_eq_true, Bool.and_eq_false_iff, Bool.or_eq_true, Bool.or_eq_false_iff] at h118)
      omega
  · skip
    obtain rfl : i = m := by omega
    refine WC.seq ?_
    refine WC.region ?_
    refine WR.bin rfl rfl rfl rfl ?_
    refine WR.nil ?_
    refine WN.seq ?_
    refine WC.seq ?_
    refine WC.cond rfl (fun h118 => ?_) (fun h118 => ?_)
    · skip
      (try simp only [decide_eq_true_eq, decide_eq_false_iff_not, beq_iff_eq, beq_eq_false_iff_ne, bne_iff_ne, bne_eq_false_iff_eq, gt_iff_lt, ge_iff_le, Int.not_lt, Int.not_le, ne_eq, Bool.not_eq_true, Bool.not_eq_false, Bool.and_eq_true, Bool.and_eq_false_iff, Bool.or_eq_true, Bool.or_eq_false_iff] at h118)
      omega
    · skip
      (try simp only [decide_eq_true_eq, decide_eq_false_iff_not, beq_iff_eq, beq_eq_false_iff_ne, bne_iff_ne, bne_eq_false_iff_eq, gt_iff_lt, ge_iff_le, Int.not_lt, Int.not_le, ne_eq, Bool.not_eq_true, Bool.not_eq_false, Bool.and_eq_true, Bool.and_eq_false_iff, Bool.or_eq_true, Bool.or_eq_false_iff] at h118)
      refine WC.exit rfl ?_
      refine WN.seq ?_
      refine WC.seq ?_
      refine WC.region ?_
      refine WR.load rfl Tryz.underlying24 rfl (hc8.cell (by omega)) rfl ?_
      refine WR.storeK rfl rfl hO.one sz24 (hc8.cell (by omega)) (hc8.fz _) ?_
      intro w6 hn hs
      replace hc8 := hc8.set' hn
      (try replace hs1 := Nat.le_trans hs1 hs.size)
      replace hS := hS.trans hs (by first | (simp <;> omega) | (intro hm; have := hS9 _ hm; omega) | (intro g hm; have := hS9 _ hm; omega) | (intro g hm; have := hS9 _ hm; exact .inr (by omega)))
      replace hg := hg.same hs (by first | (simp <;> omega) | (intro hm; have := hS9 _ hm; omega) | (intro g hm; have := hS9 _ hm; omega) | (intro g hm; have := hS9 _ hm; exact .inr (by omega)))
      replace tb := tb.same hs (by first | (simp <;> omega) | (intro hm; have := hS9 _ hm; omega) | (intro g hm; have := hS9 _ hm; omega) | (intro g hm; have := hS9 _ hm; exact .inr (by omega)))
      replace hz := hz.same hs (by first | (simp <;> omega) | (intro hm; have := hS9 _ hm; omega) | (intro g hm; have := hS9 _ hm; omega) | (intro g hm; have := hS9 _ hm; exact .inr (by omega)))
      (try replace hd := hd.same hs (by first | (simp <;> omega) | (intro hm; have := hS9 _ hm; omega) | (intro g hm; have := hS9 _ hm; omega) | (intro g hm; have := hS9 _ hm; exact .inr (by omega))))
      (try replace hc9 := hc9.same hs (by first | (simp <;> omega) | (intro hm; have := hS9 _ hm; omega) | (intro g hm; have := hS9 _ hm; omega) | (intro g hm; have := hS9 _ hm; exact .inr (by omega))))
      (try replace ha := ha.same hs (by first | (simp <;> omega) | (intro hm; have := hS9 _ hm; omega) | (intro g hm; have := hS9 _ hm; omega) | (intro g hm; have := hS9 _ hm; exact .inr (by omega))) (by first | (simp <;> omega) | (intro hm; have := hS9 _ hm; omega) | (intro g hm; have := hS9 _ hm; omega) | (intro g hm; have := hS9 _ hm; exact .inr (by omega))) (by first | (simp <;> omega) | (intro hm; have := hS9 _ hm; omega) | (intro g hm; have := hS9 _ hm; omega) | (intro g hm; have := hS9 _ hm; exact .inr (by omega))))
      (try replace hO := hO.same hs (by first | (simp <;> omega) | (intro hm; have := hS9 _ hm; omega) | (intro g hm; have := hS9 _ hm; omega) | (intro g hm; have := hS9 _ hm; exact .inr (by omega))))
      clear hn hs
      refine WR.storeK rfl rfl rfl sz4 (hc9.cell (by omega)) (hc9.fz _) ?_
      intro w7 hn hs
      replace hc9 := hc9.set' hn
      (try replace hs1 := Nat.le_trans hs1 hs.size)
      replace hS := hS.trans hs (by first | (simp <;> omega) | (intro hm; have := hS9 _ hm; omega) | (intro g hm; have := hS9 _ hm; omega) | (intro g hm; have := hS9 _ hm; exact .inr (by omega)))
      replace hg := hg.same hs (by first | (simp <;> omega) | (intro hm; have := hS9 _ hm; omega) | (intro g hm; have := hS9 _ hm; omega) | (intro g hm; have := hS9 _ hm; exact .inr (by omega)))
      replace tb := tb.same hs (by first | (simp <;> omega) | (intro hm; have := hS9 _ hm; omega) | (intro g hm; have := hS9 _ hm; omega) | (intro g hm; have := hS9 _ hm; exact .inr (by omega)))
      replace hz := hz.same hs (by first | (simp <;> omega) | (intro hm; have := hS9 _ hm; omega) | (intro g hm; have := hS9 _ hm; omega) | (intro g hm; have := hS9 _ hm; exact .inr (by omega)))
      (try replace hd := hd.same hs (by first | (simp <;> omega) | (intro hm; have := hS9 _ hm; omega) | (intro g hm; have := hS9 _ hm; omega) | (intro g hm; have := hS9 _ hm; exact .inr (by omega))))
      (try replace hc8 := hc8.same hs (by first | (simp <;> omega) | (intro hm; have := hS9 _ hm; omega) | (intro g hm; have := hS9 _ hm; omega) | (intro g hm; have := hS9 _ hm; exact .inr (by omega))))
      (try replace ha := ha.same hs (by first | (simp <;> omega) | (intro hm; have := hS9 _ hm; omega) | (intro g hm; have := hS9 _ hm; omega) | (intro g hm; have := hS9 _ hm; exact .inr (by omega))) (by first | (simp <;> omega) | (intro hm; have := hS9 _ hm; omega) | (intro g hm; have := hS9 _ hm; omega) | (intro g hm; have := hS9 _ hm; exact .inr (by omega))) (by first | (simp <;> omega) | (intro hm; have := hS9 _ hm; omega) | (intro g hm; have := hS9 _ hm; omega) | (intro g hm; have := hS9 _ hm; exact .inr (by omega))))
      (try replace hO := hO.same hs (by first | (simp <;> omega) | (intro hm; have := hS9 _ hm; omega) | (intro g hm; have := hS9 _ hm; omega) | (intro g hm; have := hS9 _ hm; exact .inr (by omega))))
      clear hn hs
      refine WR.nil ?_
      refine WN.seq ?_
      refine WC.retD2 _ rfl rfl rfl Tryz.underlying24 rfl Tryz.underlying4 rfl (cf9 _ _) (noNumbers _ _ _) (hc8.cell (i := 0) (by decide)) (hc9.cell (i := 0) (by decide)) ?_
      exact ⟨u, rfl, hO.ls.low (by omega), hS⟩

end Go.Proofs.YtajgdpiodpoooaaGreatDoor.Vm
