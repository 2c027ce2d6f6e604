/- A batch of numbers, by each of the six ways. -/
import Derived.Test.YtajgdpiodpoooaaGreatDoorSpB
import Derived.Test.YtajgdpiodpoooaaGreatDoorFnQ
namespace Go.Proofs.YtajgdpiodpoooaaGreatDoor.Vm
open Go Mix Go.RowKit Num Sp
set_option maxRecDepth 20000
set_option linter.unusedSimpArgs false
theorem bts_31 {B p W : Nat} (h : W ≤ 31) : bts B p W < 2147483648 := by
  have h1 := bts_lt B p W
  have h2 : 2 ^ W ≤ 2 ^ 31 := Nat.pow_le_pow_right (by decide) h
  omega
theorem bts_bool (B p : Nat) : (if (bts B p 1 == 1) = true then 1 else 0) = bts B p 1 := by
  have h := bts_lt B p 1
  rcases (show bts B p 1 = 0 ∨ bts B p 1 = 1 by omega) with h | h <;> simp [h]
theorem cf20 (us : Array Value) (w : World) : (callFunc 20 us).run Tryz.prog w = .ok (.enter 20 us) w := by kernel_rfl
theorem cf21 (us : Array Value) (w : World) : (callFunc 21 us).run Tryz.prog w = .ok (.enter 21 us) w := by kernel_rfl
theorem cf22 (us : Array Value) (w : World) : (callFunc 22 us).run Tryz.prog w = .ok (.enter 22 us) w := by kernel_rfl
theorem cf23 (us : Array Value) (w : World) : (callFunc 23 us).run Tryz.prog w = .ok (.enter 23 us) w := by kernel_rfl
theorem cf24 (us : Array Value) (w : World) : (callFunc 24 us).run Tryz.prog w = .ok (.enter 24 us) w := by kernel_rfl
theorem cf25 (us : Array Value) (w : World) : (callFunc 25 us).run Tryz.prog w = .ok (.enter 25 us) w := by kernel_rfl
theorem cf26 (us : Array Value) (w : World) : (callFunc 26 us).run Tryz.prog w = .ok (.enter 26 us) w := by kernel_rfl
theorem mk21 : (Tryz.prog.info? 21).map (fun i => (i.size, i.bytes, i.zero)) = some (1, 4, some (.int .i32 0)) := by kernel_rfl
theorem mk4 : (Tryz.prog.info? 4).map (fun i => (i.size, i.bytes, i.zero)) = some (1, 1, some (.bool false)) := by kernel_rfl
theorem mk75 : (Tryz.prog.info? 75).map (fun i => (i.size, i.bytes, i.zero)) = some (1, 2, some (.int .i16 0)) := by kernel_rfl
set_option maxHeartbeats 400000 in
theorem batch0 {w : World} {aE aU aP : Addr} (hg : Glob w aE aU aP) (tb : Tab w) (b rb db dO len cap W n pos : Nat) (d : Nat → Nat) (ha : At w b rb db dO len cap d pos) (hn : n ≤ 1048576) (hW1 : 1 ≤ W) (hW2 : W ≤ 64) (hfit : pos + W * n ≤ 8 * len) (hgb : 7 ≤ b) (hrb : 7 ≤ rb) (hne : b ≠ rb) (hnd : b ≠ db) (hrd : rb ≠ db) :
    Ret Tryz.prog 13 #[.pointer (some ⟨b, 0, none⟩), .int .i64 (W : Nat), .int .i64 0, .int .i64 (n : Nat)] w fun v w' => ∃ u, v = .tuple #[u, .nilIface] ∧ At w' b rb db dO len cap d (pos + W * n) ∧ Ls w' w.heap.size u (u64s ((List.range n).map fun j => bts (num d len) (pos + W * j) W)) ∧ Same [b, rb] w w' := by
  have hS := Same.refl [b, rb] w
  obtain ⟨hl1, hl2, hl3⟩ := ha.lt
  have hgs := hg.size
  refine Ret.enter (vs := [.pointer (some ⟨b, 0, none⟩), .int .i64 (W : Nat), .int .i64 0, .int .i64 (n : Nat)]) Tryz.func13 Tryz.ntmps13 rfl rfl ?_
  refine WC.seq ?_
  refine WC.region ?_
  refine WR.assign rfl rfl ?_
  refine WR.assign rfl rfl ?_
  refine WR.nil ?_
  refine WN.seq ?_
  refine WC.seq ?_
  refine WC.region ?_
  refine WR.assign rfl rfl ?_
  refine WR.nil ?_
  refine WN.seq ?_
  refine WC.seq ?_
  refine WC.seq ?_
  refine WC.region ?_
  refine WR.move rfl rfl ?_
  refine WR.nil ?_
  refine WN.seq ?_
  refine WC.block ?_
  refine WC.seq ?_
  refine WC.region ?_
  refine WR.bin rfl rfl rfl rfl ?_
  refine WR.assign rfl rfl ?_
  refine WR.nil ?_
  refine WN.seq ?_
  refine WC.cond rfl (fun h138 => ?_) (fun h138 => ?_)
  · skip
    (try simp only [decide_eq_true_eq, decide_eq_false_iff_not, beq_iff_eq, beq_eq_false_iff_ne, bne_iff_ne, bne_eq_false_iff_eq, gt_iff_lt, ge_iff_le, Int.not_lt, Int.not_le, ne_eq, Bool.not_eq_true, Bool.not_eq_false, Bool.and_eq_true, Bool.and_eq_false_iff, Bool.or_eq_true, Bool.or_eq_false_iff] at h138)
    refine WC.seq ?_
    refine WC.region ?_
    refine WR.move rfl rfl ?_
    obtain ⟨bM, hbM⟩ : ∃ x, x = w.heap.size := ⟨_, rfl⟩
    refine WR.make (n := n) rfl rfl Tryz.underlying24 mk28 rfl (by decide) (by omega) rfl rfl ?_
    rw [← hbM]
    intro w1 hM hs
    replace hS := hS.trans hs (by first | (simp <;> omega) | (intro hm; have := hS9 _ hm; omega) | (intro g hm; have := hS9 _ hm; omega) | (intro g hm; have := hS9 _ hm; exact .inr (by omega)))
    replace hg := hg.same hs (by first | (simp <;> omega) | (intro hm; have := hS9 _ hm; omega) | (intro g hm; have := hS9 _ hm; omega) | (intro g hm; have := hS9 _ hm; exact .inr (by omega)))
    replace tb := tb.same hs (by first | (simp <;> omega) | (intro hm; have := hS9 _ hm; omega) | (intro g hm; have := hS9 _ hm; omega) | (intro g hm; have := hS9 _ hm; exact .inr (by omega)))
    replace ha := ha.same hs (by first | (simp <;> omega) | (intro hm; have := hS9 _ hm; omega) | (intro g hm; have := hS9 _ hm; omega) | (intro g hm; have := hS9 _ hm; exact .inr (by omega))) (by first | (simp <;> omega) | (intro hm; have := hS9 _ hm; omega) | (intro g hm; have := hS9 _ hm; omega) | (intro g hm; have := hS9 _ hm; exact .inr (by omega))) (by first | (simp <;> omega) | (intro hm; have := hS9 _ hm; omega) | (intro g hm; have := hS9 _ hm; omega) | (intro g hm; have := hS9 _ hm; exact .inr (by omega)))
    (try replace hF := hF.same hs (by first | (simp <;> omega) | (intro hm; have := hS9 _ hm; omega) | (intro g hm; have := hS9 _ hm; omega) | (intro g hm; have := hS9 _ hm; exact .inr (by omega))))
    (try replace hO := hO.same hs (by first | (simp <;> omega) | (intro hm; have := hS9 _ hm; omega) | (intro g hm; have := hS9 _ hm; omega) | (intro g hm; have := hS9 _ hm; exact .inr (by omega))))
    clear hs
    refine WR.assign rfl rfl ?_
    refine WR.nil ?_
    refine WN.seq ?_
    refine WC.seq ?_
    refine WC.region ?_
    refine WR.move rfl rfl ?_
    refine WR.move rfl rfl ?_
    first
      | (refine WR.conv rfl Tryz.underlying3 Tryz.underlying44 (wrap_u64 ?_ ?_) rfl ?_; (omega); (omega))
      | refine WR.conv rfl Tryz.underlying3 Tryz.underlying44 rfl rfl ?_
    refine WR.move rfl rfl ?_
    refine WR.callF rfl rfl cf19 rfl rfl (getBatch hg b rb db dO len cap W n bM 0 n 28 n pos d _ ha hM (by omega) (Nat.le_refl _) (by omega) hW1 hW2 hfit hgb hrb (by omega) hne hnd hrd (by omega) (by omega) (by omega)) ?_
    rintro _ w2 ⟨rfl, ha', ⟨F, hF, hput⟩, hs⟩
    replace ha := ha'
    clear ha' hM
    replace hS := hS.trans hs (by first | (simp <;> omega) | (intro hm; have := hS9 _ hm; omega) | (intro g hm; have := hS9 _ hm; omega) | (intro g hm; have := hS9 _ hm; exact .inr (by omega)))
    replace hg := hg.same hs (by first | (simp <;> omega) | (intro hm; have := hS9 _ hm; omega) | (intro g hm; have := hS9 _ hm; omega) | (intro g hm; have := hS9 _ hm; exact .inr (by omega)))
    replace tb := tb.same hs (by first | (simp <;> omega) | (intro hm; have := hS9 _ hm; omega) | (intro g hm; have := hS9 _ hm; omega) | (intro g hm; have := hS9 _ hm; exact .inr (by omega)))
    (try replace hO := hO.same hs (by first | (simp <;> omega) | (intro hm; have := hS9 _ hm; omega) | (intro g hm; have := hS9 _ hm; omega) | (intro g hm; have := hS9 _ hm; exact .inr (by omega))))
    refine WR.move rfl rfl ?_
    refine WR.extract rfl rfl rfl ?_
    refine WR.extract rfl rfl rfl ?_
    refine WR.assign rfl rfl ?_
    refine WR.assign rfl rfl ?_
    refine WR.nil ?_
    refine WN.seq ?_
    refine WC.seq ?_
    refine WC.region ?_
    refine WR.move rfl rfl ?_
    refine WR.move rfl rfl ?_
    refine WR.slice rfl Tryz.underlying24 sz28 ⟨_, _, rfl, by omega, by omega, show n = Int.toNat _ by omega⟩ rfl rfl ?_
    refine WR.move rfl rfl ?_
    refine WR.assign rfl rfl ?_
    refine WR.assign rfl rfl ?_
    refine WR.nil ?_
    refine WN.seq ?_
    refine WC.retR rfl rfl ?_
    refine ⟨_, rfl, ha, ?_, hS⟩
    rw [show (if n = 0 then 0 else 0 + 0 * 1) = 0 by split <;> rfl, Nat.sub_zero]
    refine Row.ls (o := 0) hF (by rw [u64s_length]; simp) (by omega) (by omega) (fun j hj => ?_)
    rw [hput.1 j hj, u64s_getD (by simpa using hj)]
    simp [hj]
  · skip
    exact absurd h138 (by decide)

set_option maxHeartbeats 400000 in
theorem batch1 {w : World} {aE aU aP : Addr} (hg : Glob w aE aU aP) (tb : Tab w) (b rb db dO len cap W n pos : Nat) (d : Nat → Nat) (ha : At w b rb db dO len cap d pos) (hn : n ≤ 1048576) (hW1 : 1 ≤ W) (hW2 : W ≤ 31) (hfit : pos + W * n ≤ 8 * len) (hgb : 7 ≤ b) (hrb : 7 ≤ rb) (hne : b ≠ rb) (hnd : b ≠ db) (hrd : rb ≠ db) :
    Ret Tryz.prog 13 #[.pointer (some ⟨b, 0, none⟩), .int .i64 (W : Nat), .int .i64 1, .int .i64 (n : Nat)] w fun v w' => ∃ u, v = .tuple #[u, .nilIface] ∧ At w' b rb db dO len cap d (pos + W * n) ∧ Ls w' w.heap.size u (u64s ((List.range n).map fun j => bts (num d len) (pos + W * j) W)) ∧ Same [b, rb] w w' := by
  have hS := Same.refl [b, rb] w
  obtain ⟨hl1, hl2, hl3⟩ := ha.lt
  have hgs := hg.size
  refine Ret.enter (vs := [.pointer (some ⟨b, 0, none⟩), .int .i64 (W : Nat), .int .i64 1, .int .i64 (n : Nat)]) Tryz.func13 Tryz.ntmps13 rfl rfl ?_
  refine WC.seq ?_
  refine WC.region ?_
  refine WR.assign rfl rfl ?_
  refine WR.assign rfl rfl ?_
  refine WR.nil ?_
  refine WN.seq ?_
  refine WC.seq ?_
  refine WC.region ?_
  refine WR.assign rfl rfl ?_
  refine WR.nil ?_
  refine WN.seq ?_
  refine WC.seq ?_
  refine WC.seq ?_
  refine WC.region ?_
  refine WR.move rfl rfl ?_
  refine WR.nil ?_
  refine WN.seq ?_
  refine WC.block ?_
  refine WC.seq ?_
  refine WC.region ?_
  refine WR.bin rfl rfl rfl rfl ?_
  refine WR.assign rfl rfl ?_
  refine WR.nil ?_
  refine WN.seq ?_
  refine WC.cond rfl (fun h138 => ?_) (fun h138 => ?_)
  · skip
    exact absurd h138 (by decide)
  · skip
    (try simp only [decide_eq_true_eq, decide_eq_false_iff_not, beq_iff_eq, beq_eq_false_iff_ne, bne_iff_ne, bne_eq_false_iff_eq, gt_iff_lt, ge_iff_le, Int.not_lt, Int.not_le, ne_eq, Bool.not_eq_true, Bool.not_eq_false, Bool.and_eq_true, Bool.and_eq_false_iff, Bool.or_eq_true, Bool.or_eq_false_iff] at h138)
    refine WC.seq ?_
    refine WC.region ?_
    refine WR.bin rfl rfl rfl rfl ?_
    refine WR.assign rfl rfl ?_
    refine WR.nil ?_
    refine WN.seq ?_
    refine WC.cond rfl (fun h142 => ?_) (fun h142 => ?_)
    · skip
      (try simp only [decide_eq_true_eq, decide_eq_false_iff_not, beq_iff_eq, beq_eq_false_iff_ne, bne_iff_ne, bne_eq_false_iff_eq, gt_iff_lt, ge_iff_le, Int.not_lt, Int.not_le, ne_eq, Bool.not_eq_true, Bool.not_eq_false, Bool.and_eq_true, Bool.and_eq_false_iff, Bool.or_eq_true, Bool.or_eq_false_iff] at h142)
      refine WC.seq ?_
      refine WC.region ?_
      refine WR.move rfl rfl ?_
      obtain ⟨bM, hbM⟩ : ∃ x, x = w.heap.size := ⟨_, rfl⟩
      refine WR.make (n := n) rfl rfl Tryz.underlying64 mk21 rfl (by decide) (by omega) rfl rfl ?_
      rw [← hbM]
      intro w1 hM hs
      replace hS := hS.trans hs (by first | (simp <;> omega) | (intro hm; have := hS9 _ hm; omega) | (intro g hm; have := hS9 _ hm; omega) | (intro g hm; have := hS9 _ hm; exact .inr (by omega)))
      replace hg := hg.same hs (by first | (simp <;> omega) | (intro hm; have := hS9 _ hm; omega) | (intro g hm; have := hS9 _ hm; omega) | (intro g hm; have := hS9 _ hm; exact .inr (by omega)))
      replace tb := tb.same hs (by first | (simp <;> omega) | (intro hm; have := hS9 _ hm; omega) | (intro g hm; have := hS9 _ hm; omega) | (intro g hm; have := hS9 _ hm; exact .inr (by omega)))
      replace ha := ha.same hs (by first | (simp <;> omega) | (intro hm; have := hS9 _ hm; omega) | (intro g hm; have := hS9 _ hm; omega) | (intro g hm; have := hS9 _ hm; exact .inr (by omega))) (by first | (simp <;> omega) | (intro hm; have := hS9 _ hm; omega) | (intro g hm; have := hS9 _ hm; omega) | (intro g hm; have := hS9 _ hm; exact .inr (by omega))) (by first | (simp <;> omega) | (intro hm; have := hS9 _ hm; omega) | (intro g hm; have := hS9 _ hm; omega) | (intro g hm; have := hS9 _ hm; exact .inr (by omega)))
      (try replace hF := hF.same hs (by first | (simp <;> omega) | (intro hm; have := hS9 _ hm; omega) | (intro g hm; have := hS9 _ hm; omega) | (intro g hm; have := hS9 _ hm; exact .inr (by omega))))
      (try replace hO := hO.same hs (by first | (simp <;> omega) | (intro hm; have := hS9 _ hm; omega) | (intro g hm; have := hS9 _ hm; omega) | (intro g hm; have := hS9 _ hm; exact .inr (by omega))))
      clear hs
      refine WR.assign rfl rfl ?_
      refine WR.nil ?_
      refine WN.seq ?_
      refine WC.seq ?_
      refine WC.region ?_
      refine WR.move rfl rfl ?_
      refine WR.move rfl rfl ?_
      first
        | (refine WR.conv rfl Tryz.underlying3 Tryz.underlying44 (wrap_u64 ?_ ?_) rfl ?_; (omega); (omega))
        | refine WR.conv rfl Tryz.underlying3 Tryz.underlying44 rfl rfl ?_
      refine WR.move rfl rfl ?_
      refine WR.callF rfl rfl cf20 rfl rfl (batchIndex hg b rb db dO len cap W n bM 0 n 21 n pos d _ ha hM (by omega) (Nat.le_refl _) (by omega) hW1 hW2 hfit hgb hrb (by omega) hne hnd hrd (by omega) (by omega) (by omega)) ?_
      rintro _ w2 ⟨rfl, ha', ⟨F, hF, hput⟩, hs⟩
      replace ha := ha'
      clear ha' hM
      replace hS := hS.trans hs (by first | (simp <;> omega) | (intro hm; have := hS9 _ hm; omega) | (intro g hm; have := hS9 _ hm; omega) | (intro g hm; have := hS9 _ hm; exact .inr (by omega)))
      replace hg := hg.same hs (by first | (simp <;> omega) | (intro hm; have := hS9 _ hm; omega) | (intro g hm; have := hS9 _ hm; omega) | (intro g hm; have := hS9 _ hm; exact .inr (by omega)))
      replace tb := tb.same hs (by first | (simp <;> omega) | (intro hm; have := hS9 _ hm; omega) | (intro g hm; have := hS9 _ hm; omega) | (intro g hm; have := hS9 _ hm; exact .inr (by omega)))
      refine WR.move rfl rfl ?_
      refine WR.extract rfl rfl rfl ?_
      refine WR.extract rfl rfl rfl ?_
      refine WR.assign rfl rfl ?_
      refine WR.assign rfl rfl ?_
      refine WR.nil ?_
      refine WN.seq ?_
      refine WC.seq ?_
      refine WC.region ?_
      refine WR.move rfl rfl ?_
      refine WR.move rfl rfl ?_
      refine WR.slice rfl Tryz.underlying64 sz21 ⟨_, _, rfl, by omega, by omega, show n = Int.toNat _ by omega⟩ rfl rfl ?_
      refine WR.lenS rfl Tryz.underlying64 rfl ?_
      refine WR.move rfl rfl ?_
      refine WR.nil ?_
      refine WN.seq ?_
      refine WC.block ?_
      rw [show (if n = 0 then 0 else 0 + 0 * 1) = 0 by split <;> rfl, Nat.sub_zero]
      have hO : Own w2 (bM + 1) 28 (.slice none 0 0) (u64s ((List.range 0).map fun j => bts (num d len) (pos + W * j) W)) := Own.nil _ _ _
      refine WC.loop (fun x : Nat × Value => [(8, x.2), (9, .nilIface), (56, .slice (some ⟨bM, 0, none⟩) n n), (57, .int .i64 (n : Nat)), (58, .int .i64 (x.1 : Nat))]) (fun k x w' => x.1 + k = n ∧ Same [b, rb] w w' ∧ Glob w' aE aU aP ∧ Tab w' ∧ At w' b rb db dO len cap d (pos + W * n) ∧ Row w' bM 21 (n) F ∧ Own w' (bM + 1) 28 x.2 (u64s ((List.range x.1).map fun j => bts (num d len) (pos + W * j) W))) n (0, .slice none 0 0) ⟨rfl, rfl, rfl, rfl, rfl, trivial⟩ ⟨by simp, hS, hg, tb, ha, hF, hO⟩ ?_
      clear hS hg tb ha hF hO
      rintro k ⟨i, u⟩ w3 ⟨hm, hS, hg, tb, ha, hF, hO⟩
      simp only [] at hm hO
      refine WC.weak [(8, u), (9, .nilIface), (56, .slice (some ⟨bM, 0, none⟩) n n), (57, .int .i64 (n : Nat)), (58, .int .i64 (i : Nat))] ⟨rfl, rfl, rfl, rfl, rfl, trivial⟩ ?_
      refine WC.seq ?_
      refine WC.region ?_
      refine WR.bin rfl rfl rfl rfl ?_
      refine WR.nil ?_
      refine WN.seq ?_
      refine WC.seq ?_
      refine WC.cond rfl (fun h145 => ?_) (fun h145 => ?_)
      · skip
        (try simp only [decide_eq_true_eq, decide_eq_false_iff_not, beq_iff_eq, beq_eq_false_iff_ne, bne_iff_ne, bne_eq_false_iff_eq, gt_iff_lt, ge_iff_le, Int.not_lt, Int.not_le, ne_eq, Bool.not_eq_true, Bool.not_eq_false, Bool.and_eq_true, Bool.and_eq_false_iff, Bool.or_eq_true, Bool.or_eq_false_iff] at h145)
        have hb9 := bts_31 (B := num d len) (p := pos + W * i) hW2
        refine WC.skip ?_
        refine WN.seq ?_
        refine WC.seq ?_
        refine WC.block ?_
        refine WC.seq ?_
        refine WC.region ?_
        refine WR.idx rfl rfl Tryz.underlying64 sz21 (by omega) (by omega) rfl ?_
        refine WR.load rfl Tryz.underlying21 rfl (show _ = some (Value.int .i32 ((bts (num d len) (pos + W * i) W) : Nat)) by rw [Nat.mul_one]; exact (hF.cell (i := 0 + i) (by omega)).trans (congrArg some (hput.1 i (by omega)))) rfl ?_
        refine WR.assign rfl rfl ?_
        refine WR.nil ?_
        refine WN.seq ?_
        refine WC.region ?_
        refine WR.move rfl rfl ?_
        refine WR.move rfl rfl ?_
        first
          | (refine WR.conv rfl Tryz.underlying21 Tryz.underlying28 (wrap_u64 ?_ ?_) rfl ?_; (omega); (omega))
          | refine WR.conv rfl Tryz.underlying21 Tryz.underlying28 rfl rfl ?_
        obtain ⟨bQ, hbQ⟩ : ∃ x, x = w3.heap.size := ⟨_, rfl⟩
        refine WR.buildSl (E := 28) (cs := #[.int .u64 ((bts (num d len) (pos + W * i) W) : Nat)]) rfl rfl (fun w => by kernel_rfl) rfl rfl ?_
        rw [← hbQ]
        intro w4 hQ hs
        replace hS := hS.trans hs (by first | (simp <;> omega) | (intro hm; have := hS9 _ hm; omega) | (intro g hm; have := hS9 _ hm; omega) | (intro g hm; have := hS9 _ hm; exact .inr (by omega)))
        replace hg := hg.same hs (by first | (simp <;> omega) | (intro hm; have := hS9 _ hm; omega) | (intro g hm; have := hS9 _ hm; omega) | (intro g hm; have := hS9 _ hm; exact .inr (by omega)))
        replace tb := tb.same hs (by first | (simp <;> omega) | (intro hm; have := hS9 _ hm; omega) | (intro g hm; have := hS9 _ hm; omega) | (intro g hm; have := hS9 _ hm; exact .inr (by omega)))
        replace ha := ha.same hs (by first | (simp <;> omega) | (intro hm; have := hS9 _ hm; omega) | (intro g hm; have := hS9 _ hm; omega) | (intro g hm; have := hS9 _ hm; exact .inr (by omega))) (by first | (simp <;> omega) | (intro hm; have := hS9 _ hm; omega) | (intro g hm; have := hS9 _ hm; omega) | (intro g hm; have := hS9 _ hm; exact .inr (by omega))) (by first | (simp <;> omega) | (intro hm; have := hS9 _ hm; omega) | (intro g hm; have := hS9 _ hm; omega) | (intro g hm; have := hS9 _ hm; exact .inr (by omega)))
        (try replace hF := hF.same hs (by first | (simp <;> omega) | (intro hm; have := hS9 _ hm; omega) | (intro g hm; have := hS9 _ hm; omega) | (intro g hm; have := hS9 _ hm; exact .inr (by omega))))
        (try replace hO := hO.same hs (by first | (simp <;> omega) | (intro hm; have := hS9 _ hm; omega) | (intro g hm; have := hS9 _ hm; omega) | (intro g hm; have := hS9 _ hm; exact .inr (by omega))))
        clear hs
        refine WR.appendL rfl hO rfl (Row.one hQ) (fun i hi => u64s_one hi) Tryz.underlying24 mk28 rfl (by decide) (by simp only [u64s_length, List.length_map, List.length_range]; simp; omega) (by have := hS.size; have := hF.lt; omega) rfl rfl ?_
        intro u2 w5 S9 hn hs hS9
        replace hO := hn
        replace hS := hS.trans hs (by first | (simp <;> omega) | (intro hm; have := hS9 _ hm; omega) | (intro g hm; have := hS9 _ hm; omega) | (intro g hm; have := hS9 _ hm; exact .inr (by omega)))
        replace hg := hg.same hs (by first | (simp <;> omega) | (intro hm; have := hS9 _ hm; omega) | (intro g hm; have := hS9 _ hm; omega) | (intro g hm; have := hS9 _ hm; exact .inr (by omega)))
        replace tb := tb.same hs (by first | (simp <;> omega) | (intro hm; have := hS9 _ hm; omega) | (intro g hm; have := hS9 _ hm; omega) | (intro g hm; have := hS9 _ hm; exact .inr (by omega)))
        replace ha := ha.same hs (by first | (simp <;> omega) | (intro hm; have := hS9 _ hm; omega) | (intro g hm; have := hS9 _ hm; omega) | (intro g hm; have := hS9 _ hm; exact .inr (by omega))) (by first | (simp <;> omega) | (intro hm; have := hS9 _ hm; omega) | (intro g hm; have := hS9 _ hm; omega) | (intro g hm; have := hS9 _ hm; exact .inr (by omega))) (by first | (simp <;> omega) | (intro hm; have := hS9 _ hm; omega) | (intro g hm; have := hS9 _ hm; omega) | (intro g hm; have := hS9 _ hm; exact .inr (by omega)))
        (try replace hF := hF.same hs (by first | (simp <;> omega) | (intro hm; have := hS9 _ hm; omega) | (intro g hm; have := hS9 _ hm; omega) | (intro g hm; have := hS9 _ hm; exact .inr (by omega))))
        have hO2 : Own w5 (bM + 1) 28 u2 (u64s ((List.range (i + 1)).map fun j => bts (num d len) (pos + W * j) W)) := by
          rw [u64s_succ]
          exact hO
        clear hn hs hS9
        refine WR.assign rfl rfl ?_
        refine WR.nil ?_
        refine WN.block ?_
        refine WN.seq ?_
        refine WC.region ?_
        first
          | (refine WR.bin rfl rfl (ar_add (wrap_i64 ?_ ?_)) rfl ?_; (omega); (omega))
          | refine WR.bin rfl rfl (ar_add rfl) rfl ?_
        refine WR.move rfl rfl ?_
        refine WR.nil ?_
        exact WN.loop (k - 1) (i + 1, u2) (by omega) ⟨rfl, rfl, rfl, rfl, kint rfl (by show _ = ((i + 1 : Nat) : Int); omega), trivial⟩ ⟨by show i + 1 + (k - 1) = n; omega, hS, hg, tb, ha, hF, hO2⟩
      · skip
        (try simp only [decide_eq_true_eq, decide_eq_false_iff_not, beq_iff_eq, beq_eq_false_iff_ne, bne_iff_ne, bne_eq_false_iff_eq, gt_iff_lt, ge_iff_le, Int.not_lt, Int.not_le, ne_eq, Bool.not_eq_true, Bool.not_eq_false, Bool.and_eq_true, Bool.and_eq_false_iff, Bool.or_eq_true, Bool.or_eq_false_iff] at h145)
        obtain rfl : i = n := by omega
        refine WC.exit rfl ?_
        refine WN.block ?_
        refine WN.seq ?_
        refine WC.seq ?_
        refine WC.region ?_
        refine WR.move rfl rfl ?_
        refine WR.move rfl rfl ?_
        refine WR.assign rfl rfl ?_
        refine WR.assign rfl rfl ?_
        refine WR.nil ?_
        refine WN.seq ?_
        refine WC.retR rfl rfl ?_
        exact ⟨u, rfl, ha, hO.ls.low (by omega), hS⟩
    · skip
      exact absurd h142 (by decide)

set_option maxHeartbeats 400000 in
theorem batch2 {w : World} {aE aU aP : Addr} (hg : Glob w aE aU aP) (tb : Tab w) (b rb db dO len cap n pos : Nat) (d : Nat → Nat) (ha : At w b rb db dO len cap d pos) (hn : n ≤ 1048576) (hfit : pos + 1 * n ≤ 8 * len) (hgb : 7 ≤ b) (hrb : 7 ≤ rb) (hne : b ≠ rb) (hnd : b ≠ db) (hrd : rb ≠ db) :
    Ret Tryz.prog 13 #[.pointer (some ⟨b, 0, none⟩), .int .i64 1, .int .i64 2, .int .i64 (n : Nat)] w fun v w' => ∃ u, v = .tuple #[u, .nilIface] ∧ At w' b rb db dO len cap d (pos + 1 * n) ∧ Ls w' w.heap.size u (u64s ((List.range n).map fun j => bts (num d len) (pos + 1 * j) 1)) ∧ Same [b, rb] w w' := by
  have hS := Same.refl [b, rb] w
  obtain ⟨hl1, hl2, hl3⟩ := ha.lt
  have hgs := hg.size
  refine Ret.enter (vs := [.pointer (some ⟨b, 0, none⟩), .int .i64 1, .int .i64 2, .int .i64 (n : Nat)]) Tryz.func13 Tryz.ntmps13 rfl rfl ?_
  refine WC.seq ?_
  refine WC.region ?_
  refine WR.assign rfl rfl ?_
  refine WR.assign rfl rfl ?_
  refine WR.nil ?_
  refine WN.seq ?_
  refine WC.seq ?_
  refine WC.region ?_
  refine WR.assign rfl rfl ?_
  refine WR.nil ?_
  refine WN.seq ?_
  refine WC.seq ?_
  refine WC.seq ?_
  refine WC.region ?_
  refine WR.move rfl rfl ?_
  refine WR.nil ?_
  refine WN.seq ?_
  refine WC.block ?_
  refine WC.seq ?_
  refine WC.region ?_
  refine WR.bin rfl rfl rfl rfl ?_
  refine WR.assign rfl rfl ?_
  refine WR.nil ?_
  refine WN.seq ?_
  refine WC.cond rfl (fun h138 => ?_) (fun h138 => ?_)
  · skip
    exact absurd h138 (by decide)
  · skip
    (try simp only [decide_eq_true_eq, decide_eq_false_iff_not, beq_iff_eq, beq_eq_false_iff_ne, bne_iff_ne, bne_eq_false_iff_eq, gt_iff_lt, ge_iff_le, Int.not_lt, Int.not_le, ne_eq, Bool.not_eq_true, Bool.not_eq_false, Bool.and_eq_true, Bool.and_eq_false_iff, Bool.or_eq_true, Bool.or_eq_false_iff] at h138)
    refine WC.seq ?_
    refine WC.region ?_
    refine WR.bin rfl rfl rfl rfl ?_
    refine WR.assign rfl rfl ?_
    refine WR.nil ?_
    refine WN.seq ?_
    refine WC.cond rfl (fun h142 => ?_) (fun h142 => ?_)
    · skip
      exact absurd h142 (by decide)
    · skip
      (try simp only [decide_eq_true_eq, decide_eq_false_iff_not, beq_iff_eq, beq_eq_false_iff_ne, bne_iff_ne, bne_eq_false_iff_eq, gt_iff_lt, ge_iff_le, Int.not_lt, Int.not_le, ne_eq, Bool.not_eq_true, Bool.not_eq_false, Bool.and_eq_true, Bool.and_eq_false_iff, Bool.or_eq_true, Bool.or_eq_false_iff] at h142)
      refine WC.seq ?_
      refine WC.region ?_
      refine WR.bin rfl rfl rfl rfl ?_
      refine WR.assign rfl rfl ?_
      refine WR.nil ?_
      refine WN.seq ?_
      refine WC.cond rfl (fun h148 => ?_) (fun h148 => ?_)
      · skip
        (try simp only [decide_eq_true_eq, decide_eq_false_iff_not, beq_iff_eq, beq_eq_false_iff_ne, bne_iff_ne, bne_eq_false_iff_eq, gt_iff_lt, ge_iff_le, Int.not_lt, Int.not_le, ne_eq, Bool.not_eq_true, Bool.not_eq_false, Bool.and_eq_true, Bool.and_eq_false_iff, Bool.or_eq_true, Bool.or_eq_false_iff] at h148)
        refine WC.seq ?_
        refine WC.region ?_
        refine WR.move rfl rfl ?_
        obtain ⟨bM, hbM⟩ : ∃ x, x = w.heap.size := ⟨_, rfl⟩
        refine WR.make (n := n) rfl rfl Tryz.underlying66 mk4 rfl (by decide) (by omega) rfl rfl ?_
        rw [← hbM]
        intro w1 hM hs
        replace hS := hS.trans hs (by first | (simp <;> omega) | (intro hm; have := hS9 _ hm; omega) | (intro g hm; have := hS9 _ hm; omega) | (intro g hm; have := hS9 _ hm; exact .inr (by omega)))
        replace hg := hg.same hs (by first | (simp <;> omega) | (intro hm; have := hS9 _ hm; omega) | (intro g hm; have := hS9 _ hm; omega) | (intro g hm; have := hS9 _ hm; exact .inr (by omega)))
        replace tb := tb.same hs (by first | (simp <;> omega) | (intro hm; have := hS9 _ hm; omega) | (intro g hm; have := hS9 _ hm; omega) | (intro g hm; have := hS9 _ hm; exact .inr (by omega)))
        replace ha := ha.same hs (by first | (simp <;> omega) | (intro hm; have := hS9 _ hm; omega) | (intro g hm; have := hS9 _ hm; omega) | (intro g hm; have := hS9 _ hm; exact .inr (by omega))) (by first | (simp <;> omega) | (intro hm; have := hS9 _ hm; omega) | (intro g hm; have := hS9 _ hm; omega) | (intro g hm; have := hS9 _ hm; exact .inr (by omega))) (by first | (simp <;> omega) | (intro hm; have := hS9 _ hm; omega) | (intro g hm; have := hS9 _ hm; omega) | (intro g hm; have := hS9 _ hm; exact .inr (by omega)))
        (try replace hF := hF.same hs (by first | (simp <;> omega) | (intro hm; have := hS9 _ hm; omega) | (intro g hm; have := hS9 _ hm; omega) | (intro g hm; have := hS9 _ hm; exact .inr (by omega))))
        (try replace hO := hO.same hs (by first | (simp <;> omega) | (intro hm; have := hS9 _ hm; omega) | (intro g hm; have := hS9 _ hm; omega) | (intro g hm; have := hS9 _ hm; exact .inr (by omega))))
        clear hs
        refine WR.assign rfl rfl ?_
        refine WR.nil ?_
        refine WN.seq ?_
        refine WC.seq ?_
        refine WC.region ?_
        refine WR.move rfl rfl ?_
        refine WR.move rfl rfl ?_
        refine WR.callF rfl rfl cf21 rfl rfl (getBools hg b rb db dO len cap n bM 0 n 4 n pos d _ ha hM (by omega) (Nat.le_refl _) (by omega) (by omega) hgb hrb (by omega) hne hnd hrd (by omega) (by omega) (by omega)) ?_
        rintro _ w2 ⟨rfl, ha', ⟨F, hF, hput⟩, hs⟩
        replace ha := ha'
        clear ha' hM
        rw [show pos + n = pos + 1 * n by rw [Nat.one_mul]] at ha
        replace hS := hS.trans hs (by first | (simp <;> omega) | (intro hm; have := hS9 _ hm; omega) | (intro g hm; have := hS9 _ hm; omega) | (intro g hm; have := hS9 _ hm; exact .inr (by omega)))
        replace hg := hg.same hs (by first | (simp <;> omega) | (intro hm; have := hS9 _ hm; omega) | (intro g hm; have := hS9 _ hm; omega) | (intro g hm; have := hS9 _ hm; exact .inr (by omega)))
        replace tb := tb.same hs (by first | (simp <;> omega) | (intro hm; have := hS9 _ hm; omega) | (intro g hm; have := hS9 _ hm; omega) | (intro g hm; have := hS9 _ hm; exact .inr (by omega)))
        refine WR.move rfl rfl ?_
        refine WR.extract rfl rfl rfl ?_
        refine WR.extract rfl rfl rfl ?_
        refine WR.assign rfl rfl ?_
        refine WR.assign rfl rfl ?_
        refine WR.nil ?_
        refine WN.seq ?_
        refine WC.seq ?_
        refine WC.region ?_
        refine WR.move rfl rfl ?_
        refine WR.move rfl rfl ?_
        refine WR.slice rfl Tryz.underlying66 sz4 ⟨_, _, rfl, by omega, by omega, show n = Int.toNat _ by omega⟩ rfl rfl ?_
        refine WR.lenS rfl Tryz.underlying66 rfl ?_
        refine WR.move rfl rfl ?_
        refine WR.nil ?_
        refine WN.seq ?_
        refine WC.block ?_
        rw [show (if n = 0 then 0 else 0 + 0 * 1) = 0 by split <;> rfl, Nat.sub_zero]
        have hO : Own w2 (bM + 1) 28 (.slice none 0 0) (u64s ((List.range 0).map fun j => bts (num d len) (pos + 1 * j) 1)) := Own.nil _ _ _
        refine WC.loop (fun x : Nat × Value => [(8, x.2), (9, .nilIface), (80, .slice (some ⟨bM, 0, none⟩) n n), (81, .int .i64 (n : Nat)), (82, .int .i64 (x.1 : Nat))]) (fun k x w' => x.1 + k = n ∧ Same [b, rb] w w' ∧ Glob w' aE aU aP ∧ Tab w' ∧ At w' b rb db dO len cap d (pos + 1 * n) ∧ Row w' bM 4 (n) F ∧ Own w' (bM + 1) 28 x.2 (u64s ((List.range x.1).map fun j => bts (num d len) (pos + 1 * j) 1))) n (0, .slice none 0 0) ⟨rfl, rfl, rfl, rfl, rfl, trivial⟩ ⟨by simp, hS, hg, tb, ha, hF, hO⟩ ?_
        clear hS hg tb ha hF hO
        rintro k ⟨i, u⟩ w3 ⟨hm, hS, hg, tb, ha, hF, hO⟩
        simp only [] at hm hO
        refine WC.weak [(8, u), (9, .nilIface), (80, .slice (some ⟨bM, 0, none⟩) n n), (81, .int .i64 (n : Nat)), (82, .int .i64 (i : Nat))] ⟨rfl, rfl, rfl, rfl, rfl, trivial⟩ ?_
        refine WC.seq ?_
        refine WC.region ?_
        refine WR.bin rfl rfl rfl rfl ?_
        refine WR.nil ?_
        refine WN.seq ?_
        refine WC.seq ?_
        refine WC.cond rfl (fun h151 => ?_) (fun h151 => ?_)
        · skip
          (try simp only [decide_eq_true_eq, decide_eq_false_iff_not, beq_iff_eq, beq_eq_false_iff_ne, bne_iff_ne, bne_eq_false_iff_eq, gt_iff_lt, ge_iff_le, Int.not_lt, Int.not_le, ne_eq, Bool.not_eq_true, Bool.not_eq_false, Bool.and_eq_true, Bool.and_eq_false_iff, Bool.or_eq_true, Bool.or_eq_false_iff] at h151)
          have hbv : (if (bts (num d len) (pos + i) 1 == 1) = true then 1 else 0) = bts (num d len) (pos + 1 * i) 1 := by rw [Nat.one_mul]; exact bts_bool _ _
          refine WC.skip ?_
          refine WN.seq ?_
          refine WC.seq ?_
          refine WC.block ?_
          refine WC.seq ?_
          refine WC.region ?_
          refine WR.idx rfl rfl Tryz.underlying66 sz4 (by omega) (by omega) rfl ?_
          refine WR.load rfl Tryz.underlying4 rfl (show _ = some (Value.bool (bts (num d len) (pos + i) 1 == 1)) by rw [Nat.mul_one]; exact (hF.cell (i := 0 + i) (by omega)).trans (congrArg some (hput.1 i (by omega)))) rfl ?_
          refine WR.assign rfl rfl ?_
          refine WR.nil ?_
          refine WN.seq ?_
          refine WC.region ?_
          refine WR.move rfl rfl ?_
          refine WR.move rfl rfl ?_
          refine WR.callF rfl rfl cf22 rfl rfl (boolValue _) ?_
          rintro _ w4 ⟨rfl, hs⟩
          rw [hbv]
          replace hS := hS.trans hs (by first | (simp <;> omega) | (intro hm; have := hS9 _ hm; omega) | (intro g hm; have := hS9 _ hm; omega) | (intro g hm; have := hS9 _ hm; exact .inr (by omega)))
          replace hg := hg.same hs (by first | (simp <;> omega) | (intro hm; have := hS9 _ hm; omega) | (intro g hm; have := hS9 _ hm; omega) | (intro g hm; have := hS9 _ hm; exact .inr (by omega)))
          replace tb := tb.same hs (by first | (simp <;> omega) | (intro hm; have := hS9 _ hm; omega) | (intro g hm; have := hS9 _ hm; omega) | (intro g hm; have := hS9 _ hm; exact .inr (by omega)))
          replace ha := ha.same hs (by first | (simp <;> omega) | (intro hm; have := hS9 _ hm; omega) | (intro g hm; have := hS9 _ hm; omega) | (intro g hm; have := hS9 _ hm; exact .inr (by omega))) (by first | (simp <;> omega) | (intro hm; have := hS9 _ hm; omega) | (intro g hm; have := hS9 _ hm; omega) | (intro g hm; have := hS9 _ hm; exact .inr (by omega))) (by first | (simp <;> omega) | (intro hm; have := hS9 _ hm; omega) | (intro g hm; have := hS9 _ hm; omega) | (intro g hm; have := hS9 _ hm; exact .inr (by omega)))
          (try replace hF := hF.same hs (by first | (simp <;> omega) | (intro hm; have := hS9 _ hm; omega) | (intro g hm; have := hS9 _ hm; omega) | (intro g hm; have := hS9 _ hm; exact .inr (by omega))))
          (try replace hO := hO.same hs (by first | (simp <;> omega) | (intro hm; have := hS9 _ hm; omega) | (intro g hm; have := hS9 _ hm; omega) | (intro g hm; have := hS9 _ hm; exact .inr (by omega))))
          refine WR.fieldV (v := .int .u64 ((bts (num d len) (pos + 1 * i) 1) : Nat)) rfl (fun w => by kernel_rfl) rfl ?_
          obtain ⟨bQ, hbQ⟩ : ∃ x, x = w4.heap.size := ⟨_, rfl⟩
          refine WR.buildSl (E := 28) (cs := #[.int .u64 ((bts (num d len) (pos + 1 * i) 1) : Nat)]) rfl rfl (fun w => by kernel_rfl) rfl rfl ?_
          rw [← hbQ]
          intro w5 hQ hs
          replace hS := hS.trans hs (by first | (simp <;> omega) | (intro hm; have := hS9 _ hm; omega) | (intro g hm; have := hS9 _ hm; omega) | (intro g hm; have := hS9 _ hm; exact .inr (by omega)))
          replace hg := hg.same hs (by first | (simp <;> omega) | (intro hm; have := hS9 _ hm; omega) | (intro g hm; have := hS9 _ hm; omega) | (intro g hm; have := hS9 _ hm; exact .inr (by omega)))
          replace tb := tb.same hs (by first | (simp <;> omega) | (intro hm; have := hS9 _ hm; omega) | (intro g hm; have := hS9 _ hm; omega) | (intro g hm; have := hS9 _ hm; exact .inr (by omega)))
          replace ha := ha.same hs (by first | (simp <;> omega) | (intro hm; have := hS9 _ hm; omega) | (intro g hm; have := hS9 _ hm; omega) | (intro g hm; have := hS9 _ hm; exact .inr (by omega))) (by first | (simp <;> omega) | (intro hm; have := hS9 _ hm; omega) | (intro g hm; have := hS9 _ hm; omega) | (intro g hm; have := hS9 _ hm; exact .inr (by omega))) (by first | (simp <;> omega) | (intro hm; have := hS9 _ hm; omega) | (intro g hm; have := hS9 _ hm; omega) | (intro g hm; have := hS9 _ hm; exact .inr (by omega)))
          (try replace hF := hF.same hs (by first | (simp <;> omega) | (intro hm; have := hS9 _ hm; omega) | (intro g hm; have := hS9 _ hm; omega) | (intro g hm; have := hS9 _ hm; exact .inr (by omega))))
          (try replace hO := hO.same hs (by first | (simp <;> omega) | (intro hm; have := hS9 _ hm; omega) | (intro g hm; have := hS9 _ hm; omega) | (intro g hm; have := hS9 _ hm; exact .inr (by omega))))
          clear hs
          refine WR.appendL rfl hO rfl (Row.one hQ) (fun i hi => u64s_one hi) Tryz.underlying24 mk28 rfl (by decide) (by simp only [u64s_length, List.length_map, List.length_range]; simp; omega) (by have := hS.size; have := hF.lt; omega) rfl rfl ?_
          intro u2 w6 S9 hn hs hS9
          replace hO := hn
          replace hS := hS.trans hs (by first | (simp <;> omega) | (intro hm; have := hS9 _ hm; omega) | (intro g hm; have := hS9 _ hm; omega) | (intro g hm; have := hS9 _ hm; exact .inr (by omega)))
          replace hg := hg.same hs (by first | (simp <;> omega) | (intro hm; have := hS9 _ hm; omega) | (intro g hm; have := hS9 _ hm; omega) | (intro g hm; have := hS9 _ hm; exact .inr (by omega)))
          replace tb := tb.same hs (by first | (simp <;> omega) | (intro hm; have := hS9 _ hm; omega) | (intro g hm; have := hS9 _ hm; omega) | (intro g hm; have := hS9 _ hm; exact .inr (by omega)))
          replace ha := ha.same hs (by first | (simp <;> omega) | (intro hm; have := hS9 _ hm; omega) | (intro g hm; have := hS9 _ hm; omega) | (intro g hm; have := hS9 _ hm; exact .inr (by omega))) (by first | (simp <;> omega) | (intro hm; have := hS9 _ hm; omega) | (intro g hm; have := hS9 _ hm; omega) | (intro g hm; have := hS9 _ hm; exact .inr (by omega))) (by first | (simp <;> omega) | (intro hm; have := hS9 _ hm; omega) | (intro g hm; have := hS9 _ hm; omega) | (intro g hm; have := hS9 _ hm; exact .inr (by omega)))
          (try replace hF := hF.same hs (by first | (simp <;> omega) | (intro hm; have := hS9 _ hm; omega) | (intro g hm; have := hS9 _ hm; omega) | (intro g hm; have := hS9 _ hm; exact .inr (by omega))))
          have hO2 : Own w6 (bM + 1) 28 u2 (u64s ((List.range (i + 1)).map fun j => bts (num d len) (pos + 1 * j) 1)) := by
            rw [u64s_succ]
            exact hO
          clear hn hs hS9
          refine WR.assign rfl rfl ?_
          refine WR.nil ?_
          refine WN.block ?_
          refine WN.seq ?_
          refine WC.region ?_
          first
            | (refine WR.bin rfl rfl (ar_add (wrap_i64 ?_ ?_)) rfl ?_; (omega); (omega))
            | refine WR.bin rfl rfl (ar_add rfl) rfl ?_
          refine WR.move rfl rfl ?_
          refine WR.nil ?_
          exact WN.loop (k - 1) (i + 1, u2) (by omega) ⟨rfl, rfl, rfl, rfl, kint rfl (by show _ = ((i + 1 : Nat) : Int); omega), trivial⟩ ⟨by show i + 1 + (k - 1) = n; omega, hS, hg, tb, ha, hF, hO2⟩
        · skip
          (try simp only [decide_eq_true_eq, decide_eq_false_iff_not, beq_iff_eq, beq_eq_false_iff_ne, bne_iff_ne, bne_eq_false_iff_eq, gt_iff_lt, ge_iff_le, Int.not_lt, Int.not_le, ne_eq, Bool.not_eq_true, Bool.not_eq_false, Bool.and_eq_true, Bool.and_eq_false_iff, Bool.or_eq_true, Bool.or_eq_false_iff] at h151)
          obtain rfl : i = n := by omega
          refine WC.exit rfl ?_
          refine WN.block ?_
          refine WN.seq ?_
          refine WC.seq ?_
          refine WC.region ?_
          refine WR.move rfl rfl ?_
          refine WR.move rfl rfl ?_
          refine WR.assign rfl rfl ?_
          refine WR.assign rfl rfl ?_
          refine WR.nil ?_
          refine WN.seq ?_
          refine WC.retR rfl rfl ?_
          exact ⟨u, rfl, ha, hO.ls.low (by omega), hS⟩
      · skip
        exact absurd h148 (by decide)

set_option maxHeartbeats 400000 in
theorem batch3 {w : World} {aE aU aP : Addr} (hg : Glob w aE aU aP) (tb : Tab w) (b rb db dO len cap W n pos : Nat) (d : Nat → Nat) (ha : At w b rb db dO len cap d pos) (hn : n ≤ 1048576) (hW1 : 1 ≤ W) (hW2 : W ≤ 15) (hfit : pos + W * n ≤ 8 * len) (hgb : 7 ≤ b) (hrb : 7 ≤ rb) (hne : b ≠ rb) (hnd : b ≠ db) (hrd : rb ≠ db) :
    Ret Tryz.prog 13 #[.pointer (some ⟨b, 0, none⟩), .int .i64 (W : Nat), .int .i64 3, .int .i64 (n : Nat)] w fun v w' => ∃ u, v = .tuple #[u, .nilIface] ∧ At w' b rb db dO len cap d (pos + W * n) ∧ Ls w' w.heap.size u (u64s ((List.range n).map fun j => bts (num d len) (pos + W * j) W)) ∧ Same [b, rb] w w' := by
  have hS := Same.refl [b, rb] w
  obtain ⟨hl1, hl2, hl3⟩ := ha.lt
  have hgs := hg.size
  refine Ret.enter (vs := [.pointer (some ⟨b, 0, none⟩), .int .i64 (W : Nat), .int .i64 3, .int .i64 (n : Nat)]) Tryz.func13 Tryz.ntmps13 rfl rfl ?_
  refine WC.seq ?_
  refine WC.region ?_
  refine WR.assign rfl rfl ?_
  refine WR.assign rfl rfl ?_
  refine WR.nil ?_
  refine WN.seq ?_
  refine WC.seq ?_
  refine WC.region ?_
  refine WR.assign rfl rfl ?_
  refine WR.nil ?_
  refine WN.seq ?_
  refine WC.seq ?_
  refine WC.seq ?_
  refine WC.region ?_
  refine WR.move rfl rfl ?_
  refine WR.nil ?_
  refine WN.seq ?_
  refine WC.block ?_
  refine WC.seq ?_
  refine WC.region ?_
  refine WR.bin rfl rfl rfl rfl ?_
  refine WR.assign rfl rfl ?_
  refine WR.nil ?_
  refine WN.seq ?_
  refine WC.cond rfl (fun h138 => ?_) (fun h138 => ?_)
  · skip
    exact absurd h138 (by decide)
  · skip
    (try simp only [decide_eq_true_eq, decide_eq_false_iff_not, beq_iff_eq, beq_eq_false_iff_ne, bne_iff_ne, bne_eq_false_iff_eq, gt_iff_lt, ge_iff_le, Int.not_lt, Int.not_le, ne_eq, Bool.not_eq_true, Bool.not_eq_false, Bool.and_eq_true, Bool.and_eq_false_iff, Bool.or_eq_true, Bool.or_eq_false_iff] at h138)
    refine WC.seq ?_
    refine WC.region ?_
    refine WR.bin rfl rfl rfl rfl ?_
    refine WR.assign rfl rfl ?_
    refine WR.nil ?_
    refine WN.seq ?_
    refine WC.cond rfl (fun h142 => ?_) (fun h142 => ?_)
    · skip
      exact absurd h142 (by decide)
    · skip
      (try simp only [decide_eq_true_eq, decide_eq_false_iff_not, beq_iff_eq, beq_eq_false_iff_ne, bne_iff_ne, bne_eq_false_iff_eq, gt_iff_lt, ge_iff_le, Int.not_lt, Int.not_le, ne_eq, Bool.not_eq_true, Bool.not_eq_false, Bool.and_eq_true, Bool.and_eq_false_iff, Bool.or_eq_true, Bool.or_eq_false_iff] at h142)
      refine WC.seq ?_
      refine WC.region ?_
      refine WR.bin rfl rfl rfl rfl ?_
      refine WR.assign rfl rfl ?_
      refine WR.nil ?_
      refine WN.seq ?_
      refine WC.cond rfl (fun h148 => ?_) (fun h148 => ?_)
      · skip
        exact absurd h148 (by decide)
      · skip
        (try simp only [decide_eq_true_eq, decide_eq_false_iff_not, beq_iff_eq, beq_eq_false_iff_ne, bne_iff_ne, bne_eq_false_iff_eq, gt_iff_lt, ge_iff_le, Int.not_lt, Int.not_le, ne_eq, Bool.not_eq_true, Bool.not_eq_false, Bool.and_eq_true, Bool.and_eq_false_iff, Bool.or_eq_true, Bool.or_eq_false_iff] at h148)
        refine WC.seq ?_
        refine WC.region ?_
        refine WR.bin rfl rfl rfl rfl ?_
        refine WR.assign rfl rfl ?_
        refine WR.nil ?_
        refine WN.seq ?_
        refine WC.cond rfl (fun h154 => ?_) (fun h154 => ?_)
        · skip
          (try simp only [decide_eq_true_eq, decide_eq_false_iff_not, beq_iff_eq, beq_eq_false_iff_ne, bne_iff_ne, bne_eq_false_iff_eq, gt_iff_lt, ge_iff_le, Int.not_lt, Int.not_le, ne_eq, Bool.not_eq_true, Bool.not_eq_false, Bool.and_eq_true, Bool.and_eq_false_iff, Bool.or_eq_true, Bool.or_eq_false_iff] at h154)
          refine WC.seq ?_
          refine WC.region ?_
          refine WR.move rfl rfl ?_
          obtain ⟨bM, hbM⟩ : ∃ x, x = w.heap.size := ⟨_, rfl⟩
          refine WR.make (n := n) rfl rfl Tryz.underlying72 mk75 rfl (by decide) (by omega) rfl rfl ?_
          rw [← hbM]
          intro w1 hM hs
          replace hS := hS.trans hs (by first | (simp <;> omega) | (intro hm; have := hS9 _ hm; omega) | (intro g hm; have := hS9 _ hm; omega) | (intro g hm; have := hS9 _ hm; exact .inr (by omega)))
          replace hg := hg.same hs (by first | (simp <;> omega) | (intro hm; have := hS9 _ hm; omega) | (intro g hm; have := hS9 _ hm; omega) | (intro g hm; have := hS9 _ hm; exact .inr (by omega)))
          replace tb := tb.same hs (by first | (simp <;> omega) | (intro hm; have := hS9 _ hm; omega) | (intro g hm; have := hS9 _ hm; omega) | (intro g hm; have := hS9 _ hm; exact .inr (by omega)))
          replace ha := ha.same hs (by first | (simp <;> omega) | (intro hm; have := hS9 _ hm; omega) | (intro g hm; have := hS9 _ hm; omega) | (intro g hm; have := hS9 _ hm; exact .inr (by omega))) (by first | (simp <;> omega) | (intro hm; have := hS9 _ hm; omega) | (intro g hm; have := hS9 _ hm; omega) | (intro g hm; have := hS9 _ hm; exact .inr (by omega))) (by first | (simp <;> omega) | (intro hm; have := hS9 _ hm; omega) | (intro g hm; have := hS9 _ hm; omega) | (intro g hm; have := hS9 _ hm; exact .inr (by omega)))
          (try replace hF := hF.same hs (by first | (simp <;> omega) | (intro hm; have := hS9 _ hm; omega) | (intro g hm; have := hS9 _ hm; omega) | (intro g hm; have := hS9 _ hm; exact .inr (by omega))))
          (try replace hO := hO.same hs (by first | (simp <;> omega) | (intro hm; have := hS9 _ hm; omega) | (intro g hm; have := hS9 _ hm; omega) | (intro g hm; have := hS9 _ hm; exact .inr (by omega))))
          clear hs
          refine WR.assign rfl rfl ?_
          refine WR.nil ?_
          refine WN.seq ?_
          refine WC.seq ?_
          refine WC.region ?_
          refine WR.move rfl rfl ?_
          refine WR.move rfl rfl ?_
          first
            | (refine WR.conv rfl Tryz.underlying3 Tryz.underlying44 (wrap_u64 ?_ ?_) rfl ?_; (omega); (omega))
            | refine WR.conv rfl Tryz.underlying3 Tryz.underlying44 rfl rfl ?_
          refine WR.move rfl rfl ?_
          refine WR.callF rfl rfl cf23 rfl rfl (getLevels hg b rb db dO len cap W n bM 0 n 75 n pos 0 d _ ha hM (by omega) (Nat.le_refl _) (by omega) hW1 hW2 hfit hgb hrb (by omega) hne hnd hrd (by omega) (by omega) (by omega)) ?_
          rintro _ w2 ⟨⟨c9, rfl⟩, ha', ⟨F, hF, hput⟩, hs⟩
          replace ha := ha'
          clear ha' hM
          replace hS := hS.trans hs (by first | (simp <;> omega) | (intro hm; have := hS9 _ hm; omega) | (intro g hm; have := hS9 _ hm; omega) | (intro g hm; have := hS9 _ hm; exact .inr (by omega)))
          replace hg := hg.same hs (by first | (simp <;> omega) | (intro hm; have := hS9 _ hm; omega) | (intro g hm; have := hS9 _ hm; omega) | (intro g hm; have := hS9 _ hm; exact .inr (by omega)))
          replace tb := tb.same hs (by first | (simp <;> omega) | (intro hm; have := hS9 _ hm; omega) | (intro g hm; have := hS9 _ hm; omega) | (intro g hm; have := hS9 _ hm; exact .inr (by omega)))
          refine WR.move rfl rfl ?_
          refine WR.extract rfl rfl rfl ?_
          refine WR.extract rfl rfl rfl ?_
          refine WR.extract rfl rfl rfl ?_
          refine WR.assign rfl rfl ?_
          refine WR.assign rfl rfl ?_
          refine WR.nil ?_
          refine WN.seq ?_
          refine WC.seq ?_
          refine WC.region ?_
          refine WR.move rfl rfl ?_
          refine WR.move rfl rfl ?_
          refine WR.slice rfl Tryz.underlying72 sz75 ⟨_, _, rfl, by omega, by omega, show n = Int.toNat _ by omega⟩ rfl rfl ?_
          refine WR.lenS rfl Tryz.underlying72 rfl ?_
          refine WR.move rfl rfl ?_
          refine WR.nil ?_
          refine WN.seq ?_
          refine WC.block ?_
          rw [show (if n = 0 then 0 else 0 + 0 * 1) = 0 by split <;> rfl, Nat.sub_zero]
          have hO : Own w2 (bM + 1) 28 (.slice none 0 0) (u64s ((List.range 0).map fun j => bts (num d len) (pos + W * j) W)) := Own.nil _ _ _
          refine WC.loop (fun x : Nat × Value => [(8, x.2), (9, .nilIface), (108, .slice (some ⟨bM, 0, none⟩) n n), (109, .int .i64 (n : Nat)), (110, .int .i64 (x.1 : Nat))]) (fun k x w' => x.1 + k = n ∧ Same [b, rb] w w' ∧ Glob w' aE aU aP ∧ Tab w' ∧ At w' b rb db dO len cap d (pos + W * n) ∧ Row w' bM 75 (n) F ∧ Own w' (bM + 1) 28 x.2 (u64s ((List.range x.1).map fun j => bts (num d len) (pos + W * j) W))) n (0, .slice none 0 0) ⟨rfl, rfl, rfl, rfl, rfl, trivial⟩ ⟨by simp, hS, hg, tb, ha, hF, hO⟩ ?_
          clear hS hg tb ha hF hO
          rintro k ⟨i, u⟩ w3 ⟨hm, hS, hg, tb, ha, hF, hO⟩
          simp only [] at hm hO
          refine WC.weak [(8, u), (9, .nilIface), (108, .slice (some ⟨bM, 0, none⟩) n n), (109, .int .i64 (n : Nat)), (110, .int .i64 (i : Nat))] ⟨rfl, rfl, rfl, rfl, rfl, trivial⟩ ?_
          refine WC.seq ?_
          refine WC.region ?_
          refine WR.bin rfl rfl rfl rfl ?_
          refine WR.nil ?_
          refine WN.seq ?_
          refine WC.seq ?_
          refine WC.cond rfl (fun h157 => ?_) (fun h157 => ?_)
          · skip
            (try simp only [decide_eq_true_eq, decide_eq_false_iff_not, beq_iff_eq, beq_eq_false_iff_ne, bne_iff_ne, bne_eq_false_iff_eq, gt_iff_lt, ge_iff_le, Int.not_lt, Int.not_le, ne_eq, Bool.not_eq_true, Bool.not_eq_false, Bool.and_eq_true, Bool.and_eq_false_iff, Bool.or_eq_true, Bool.or_eq_false_iff] at h157)
            have hb9 := bts_31 (B := num d len) (p := pos + W * i) (show W ≤ 31 by omega)
            refine WC.skip ?_
            refine WN.seq ?_
            refine WC.seq ?_
            refine WC.block ?_
            refine WC.seq ?_
            refine WC.region ?_
            refine WR.idx rfl rfl Tryz.underlying72 sz75 (by omega) (by omega) rfl ?_
            refine WR.load rfl Tryz.underlying75 rfl (show _ = some (Value.int .i16 ((bts (num d len) (pos + W * i) W) : Nat)) by rw [Nat.mul_one]; exact (hF.cell (i := 0 + i) (by omega)).trans (congrArg some (hput.1 i (by omega)))) rfl ?_
            refine WR.assign rfl rfl ?_
            refine WR.nil ?_
            refine WN.seq ?_
            refine WC.region ?_
            refine WR.move rfl rfl ?_
            refine WR.move rfl rfl ?_
            first
              | (refine WR.conv rfl Tryz.underlying75 Tryz.underlying28 (wrap_u64 ?_ ?_) rfl ?_; (omega); (omega))
              | refine WR.conv rfl Tryz.underlying75 Tryz.underlying28 rfl rfl ?_
            obtain ⟨bQ, hbQ⟩ : ∃ x, x = w3.heap.size := ⟨_, rfl⟩
            refine WR.buildSl (E := 28) (cs := #[.int .u64 ((bts (num d len) (pos + W * i) W) : Nat)]) rfl rfl (fun w => by kernel_rfl) rfl rfl ?_
            rw [← hbQ]
            intro w4 hQ hs
            replace hS := hS.trans hs (by first | (simp <;> omega) | (intro hm; have := hS9 _ hm; omega) | (intro g hm; have := hS9 _ hm; omega) | (intro g hm; have := hS9 _ hm; exact .inr (by omega)))
            replace hg := hg.same hs (by first | (simp <;> omega) | (intro hm; have := hS9 _ hm; omega) | (intro g hm; have := hS9 _ hm; omega) | (intro g hm; have := hS9 _ hm; exact .inr (by omega)))
            replace tb := tb.same hs (by first | (simp <;> omega) | (intro hm; have := hS9 _ hm; omega) | (intro g hm; have := hS9 _ hm; omega) | (intro g hm; have := hS9 _ hm; exact .inr (by omega)))
            replace ha := ha.same hs (by first | (simp <;> omega) | (intro hm; have := hS9 _ hm; omega) | (intro g hm; have := hS9 _ hm; omega) | (intro g hm; have := hS9 _ hm; exact .inr (by omega))) (by first | (simp <;> omega) | (intro hm; have := hS9 _ hm; omega) | (intro g hm; have := hS9 _ hm; omega) | (intro g hm; have := hS9 _ hm; exact .inr (by omega))) (by first | (simp <;> omega) | (intro hm; have := hS9 _ hm; omega) | (intro g hm; have := hS9 _ hm; omega) | (intro g hm; have := hS9 _ hm; exact .inr (by omega)))
            (try replace hF := hF.same hs (by first | (simp <;> omega) | (intro hm; have := hS9 _ hm; omega) | (intro g hm; have := hS9 _ hm; omega) | (intro g hm; have := hS9 _ hm; exact .inr (by omega))))
            (try replace hO := hO.same hs (by first | (simp <;> omega) | (intro hm; have := hS9 _ hm; omega) | (intro g hm; have := hS9 _ hm; omega) | (intro g hm; have := hS9 _ hm; exact .inr (by omega))))
            clear hs
            refine WR.appendL rfl hO rfl (Row.one hQ) (fun i hi => u64s_one hi) Tryz.underlying24 mk28 rfl (by decide) (by simp only [u64s_length, List.length_map, List.length_range]; simp; omega) (by have := hS.size; have := hF.lt; omega) rfl rfl ?_
            intro u2 w5 S9 hn hs hS9
            replace hO := hn
            replace hS := hS.trans hs (by first | (simp <;> omega) | (intro hm; have := hS9 _ hm; omega) | (intro g hm; have := hS9 _ hm; omega) | (intro g hm; have := hS9 _ hm; exact .inr (by omega)))
            replace hg := hg.same hs (by first | (simp <;> omega) | (intro hm; have := hS9 _ hm; omega) | (intro g hm; have := hS9 _ hm; omega) | (intro g hm; have := hS9 _ hm; exact .inr (by omega)))
            replace tb := tb.same hs (by first | (simp <;> omega) | (intro hm; have := hS9 _ hm; omega) | (intro g hm; have := hS9 _ hm; omega) | (intro g hm; have := hS9 _ hm; exact .inr (by omega)))
            replace ha := ha.same hs (by first | (simp <;> omega) | (intro hm; have := hS9 _ hm; omega) | (intro g hm; have := hS9 _ hm; omega) | (intro g hm; have := hS9 _ hm; exact .inr (by omega))) (by first | (simp <;> omega) | (intro hm; have := hS9 _ hm; omega) | (intro g hm; have := hS9 _ hm; omega) | (intro g hm; have := hS9 _ hm; exact .inr (by omega))) (by first | (simp <;> omega) | (intro hm; have := hS9 _ hm; omega) | (intro g hm; have := hS9 _ hm; omega) | (intro g hm; have := hS9 _ hm; exact .inr (by omega)))
            (try replace hF := hF.same hs (by first | (simp <;> omega) | (intro hm; have := hS9 _ hm; omega) | (intro g hm; have := hS9 _ hm; omega) | (intro g hm; have := hS9 _ hm; exact .inr (by omega))))
            have hO2 : Own w5 (bM + 1) 28 u2 (u64s ((List.range (i + 1)).map fun j => bts (num d len) (pos + W * j) W)) := by
              rw [u64s_succ]
              exact hO
            clear hn hs hS9
            refine WR.assign rfl rfl ?_
            refine WR.nil ?_
            refine WN.block ?_
            refine WN.seq ?_
            refine WC.region ?_
            first
              | (refine WR.bin rfl rfl (ar_add (wrap_i64 ?_ ?_)) rfl ?_; (omega); (omega))
              | refine WR.bin rfl rfl (ar_add rfl) rfl ?_
            refine WR.move rfl rfl ?_
            refine WR.nil ?_
            exact WN.loop (k - 1) (i + 1, u2) (by omega) ⟨rfl, rfl, rfl, rfl, kint rfl (by show _ = ((i + 1 : Nat) : Int); omega), trivial⟩ ⟨by show i + 1 + (k - 1) = n; omega, hS, hg, tb, ha, hF, hO2⟩
          · skip
            (try simp only [decide_eq_true_eq, decide_eq_false_iff_not, beq_iff_eq, beq_eq_false_iff_ne, bne_iff_ne, bne_eq_false_iff_eq, gt_iff_lt, ge_iff_le, Int.not_lt, Int.not_le, ne_eq, Bool.not_eq_true, Bool.not_eq_false, Bool.and_eq_true, Bool.and_eq_false_iff, Bool.or_eq_true, Bool.or_eq_false_iff] at h157)
            obtain rfl : i = n := by omega
            refine WC.exit rfl ?_
            refine WN.block ?_
            refine WN.seq ?_
            refine WC.seq ?_
            refine WC.region ?_
            refine WR.move rfl rfl ?_
            refine WR.move rfl rfl ?_
            refine WR.assign rfl rfl ?_
            refine WR.assign rfl rfl ?_
            refine WR.nil ?_
            refine WN.seq ?_
            refine WC.retR rfl rfl ?_
            exact ⟨u, rfl, ha, hO.ls.low (by omega), hS⟩
        · skip
          exact absurd h154 (by decide)

set_option maxHeartbeats 400000 in
theorem batch4 {w : World} {aE aU aP : Addr} (hg : Glob w aE aU aP) (tb : Tab w) (b rb db dO len cap n pos : Nat) (d : Nat → Nat) (ha : At w b rb db dO len cap d pos) (hn : n ≤ 1048576) (hfit : pos + 1 * n ≤ 8 * len) (hgb : 7 ≤ b) (hrb : 7 ≤ rb) (hne : b ≠ rb) (hnd : b ≠ db) (hrd : rb ≠ db) :
    Ret Tryz.prog 13 #[.pointer (some ⟨b, 0, none⟩), .int .i64 1, .int .i64 4, .int .i64 (n : Nat)] w fun v w' => ∃ u, v = .tuple #[u, .nilIface] ∧ At w' b rb db dO len cap d (pos + 1 * n) ∧ Ls w' w.heap.size u (u64s ((List.range n).map fun j => bts (num d len) (pos + 1 * j) 1)) ∧ Same [b, rb] w w' := by
  have hS := Same.refl [b, rb] w
  obtain ⟨hl1, hl2, hl3⟩ := ha.lt
  have hgs := hg.size
  refine Ret.enter (vs := [.pointer (some ⟨b, 0, none⟩), .int .i64 1, .int .i64 4, .int .i64 (n : Nat)]) Tryz.func13 Tryz.ntmps13 rfl rfl ?_
  refine WC.seq ?_
  refine WC.region ?_
  refine WR.assign rfl rfl ?_
  refine WR.assign rfl rfl ?_
  refine WR.nil ?_
  refine WN.seq ?_
  refine WC.seq ?_
  refine WC.region ?_
  refine WR.assign rfl rfl ?_
  refine WR.nil ?_
  refine WN.seq ?_
  refine WC.seq ?_
  refine WC.seq ?_
  refine WC.region ?_
  refine WR.move rfl rfl ?_
  refine WR.nil ?_
  refine WN.seq ?_
  refine WC.block ?_
  refine WC.seq ?_
  refine WC.region ?_
  refine WR.bin rfl rfl rfl rfl ?_
  refine WR.assign rfl rfl ?_
  refine WR.nil ?_
  refine WN.seq ?_
  refine WC.cond rfl (fun h138 => ?_) (fun h138 => ?_)
  · skip
    exact absurd h138 (by decide)
  · skip
    (try simp only [decide_eq_true_eq, decide_eq_false_iff_not, beq_iff_eq, beq_eq_false_iff_ne, bne_iff_ne, bne_eq_false_iff_eq, gt_iff_lt, ge_iff_le, Int.not_lt, Int.not_le, ne_eq, Bool.not_eq_true, Bool.not_eq_false, Bool.and_eq_true, Bool.and_eq_false_iff, Bool.or_eq_true, Bool.or_eq_false_iff] at h138)
    refine WC.seq ?_
    refine WC.region ?_
    refine WR.bin rfl rfl rfl rfl ?_
    refine WR.assign rfl rfl ?_
    refine WR.nil ?_
    refine WN.seq ?_
    refine WC.cond rfl (fun h142 => ?_) (fun h142 => ?_)
    · skip
      exact absurd h142 (by decide)
    · skip
      (try simp only [decide_eq_true_eq, decide_eq_false_iff_not, beq_iff_eq, beq_eq_false_iff_ne, bne_iff_ne, bne_eq_false_iff_eq, gt_iff_lt, ge_iff_le, Int.not_lt, Int.not_le, ne_eq, Bool.not_eq_true, Bool.not_eq_false, Bool.and_eq_true, Bool.and_eq_false_iff, Bool.or_eq_true, Bool.or_eq_false_iff] at h142)
      refine WC.seq ?_
      refine WC.region ?_
      refine WR.bin rfl rfl rfl rfl ?_
      refine WR.assign rfl rfl ?_
      refine WR.nil ?_
      refine WN.seq ?_
      refine WC.cond rfl (fun h148 => ?_) (fun h148 => ?_)
      · skip
        exact absurd h148 (by decide)
      · skip
        (try simp only [decide_eq_true_eq, decide_eq_false_iff_not, beq_iff_eq, beq_eq_false_iff_ne, bne_iff_ne, bne_eq_false_iff_eq, gt_iff_lt, ge_iff_le, Int.not_lt, Int.not_le, ne_eq, Bool.not_eq_true, Bool.not_eq_false, Bool.and_eq_true, Bool.and_eq_false_iff, Bool.or_eq_true, Bool.or_eq_false_iff] at h148)
        refine WC.seq ?_
        refine WC.region ?_
        refine WR.bin rfl rfl rfl rfl ?_
        refine WR.assign rfl rfl ?_
        refine WR.nil ?_
        refine WN.seq ?_
        refine WC.cond rfl (fun h154 => ?_) (fun h154 => ?_)
        · skip
          exact absurd h154 (by decide)
        · skip
          (try simp only [decide_eq_true_eq, decide_eq_false_iff_not, beq_iff_eq, beq_eq_false_iff_ne, bne_iff_ne, bne_eq_false_iff_eq, gt_iff_lt, ge_iff_le, Int.not_lt, Int.not_le, ne_eq, Bool.not_eq_true, Bool.not_eq_false, Bool.and_eq_true, Bool.and_eq_false_iff, Bool.or_eq_true, Bool.or_eq_false_iff] at h154)
          refine WC.seq ?_
          refine WC.region ?_
          refine WR.bin rfl rfl rfl rfl ?_
          refine WR.assign rfl rfl ?_
          refine WR.nil ?_
          refine WN.seq ?_
          refine WC.cond rfl (fun h160 => ?_) (fun h160 => ?_)
          · skip
            (try simp only [decide_eq_true_eq, decide_eq_false_iff_not, beq_iff_eq, beq_eq_false_iff_ne, bne_iff_ne, bne_eq_false_iff_eq, gt_iff_lt, ge_iff_le, Int.not_lt, Int.not_le, ne_eq, Bool.not_eq_true, Bool.not_eq_false, Bool.and_eq_true, Bool.and_eq_false_iff, Bool.or_eq_true, Bool.or_eq_false_iff] at h160)
            refine WC.seq ?_
            refine WC.region ?_
            refine WR.move rfl rfl ?_
            (refine WR.bin rfl rfl (ar_add (z := ((n + 7 : Nat) : Int)) ?_) rfl ?_; (rw [wrap_i64 (by omega) (by omega)]; omega))
            refine WR.bin rfl rfl (ar_quo (z := (((n + 7) / 8 : Nat) : Int)) (by decide) (Sp.quo_nat (b := 8) (by omega))) rfl ?_
            obtain ⟨bM, hbM⟩ : ∃ x, x = w.heap.size := ⟨_, rfl⟩
            refine WR.make (n := (n + 7) / 8) rfl rfl Tryz.underlying22 mk5 rfl (by decide) (by omega) rfl rfl ?_
            rw [← hbM]
            intro w1 hM hs
            replace hS := hS.trans hs (by first | (simp <;> omega) | (intro hm; have := hS9 _ hm; omega) | (intro g hm; have := hS9 _ hm; omega) | (intro g hm; have := hS9 _ hm; exact .inr (by omega)))
            replace hg := hg.same hs (by first | (simp <;> omega) | (intro hm; have := hS9 _ hm; omega) | (intro g hm; have := hS9 _ hm; omega) | (intro g hm; have := hS9 _ hm; exact .inr (by omega)))
            replace tb := tb.same hs (by first | (simp <;> omega) | (intro hm; have := hS9 _ hm; omega) | (intro g hm; have := hS9 _ hm; omega) | (intro g hm; have := hS9 _ hm; exact .inr (by omega)))
            replace ha := ha.same hs (by first | (simp <;> omega) | (intro hm; have := hS9 _ hm; omega) | (intro g hm; have := hS9 _ hm; omega) | (intro g hm; have := hS9 _ hm; exact .inr (by omega))) (by first | (simp <;> omega) | (intro hm; have := hS9 _ hm; omega) | (intro g hm; have := hS9 _ hm; omega) | (intro g hm; have := hS9 _ hm; exact .inr (by omega))) (by first | (simp <;> omega) | (intro hm; have := hS9 _ hm; omega) | (intro g hm; have := hS9 _ hm; omega) | (intro g hm; have := hS9 _ hm; exact .inr (by omega)))
            (try replace hF := hF.same hs (by first | (simp <;> omega) | (intro hm; have := hS9 _ hm; omega) | (intro g hm; have := hS9 _ hm; omega) | (intro g hm; have := hS9 _ hm; exact .inr (by omega))))
            (try replace hO := hO.same hs (by first | (simp <;> omega) | (intro hm; have := hS9 _ hm; omega) | (intro g hm; have := hS9 _ hm; omega) | (intro g hm; have := hS9 _ hm; exact .inr (by omega))))
            clear hs
            refine WR.assign rfl rfl ?_
            refine WR.nil ?_
            refine WN.seq ?_
            refine WC.seq ?_
            refine WC.region ?_
            refine WR.move rfl rfl ?_
            refine WR.move rfl rfl ?_
            refine WR.move rfl rfl ?_
            refine WR.callF rfl rfl cf24 rfl rfl (getBitmap hg tb b rb db dO len cap n bM 0 ((n + 7) / 8) ((n + 7) / 8) 5 ((n + 7) / 8) pos d _ ha hM (fun q hq => rfl) (by omega) (Nat.le_refl _) (by omega) (by omega) (by omega) (by omega) hgb hrb (by omega) hne hnd hrd (by omega) (by omega) (by omega)) ?_
            rintro _ w2 ⟨rfl, ha', ⟨F, hF, ⟨c, hc, hcb⟩⟩, hs⟩
            replace ha := ha'
            clear ha' hM
            rw [show pos + n = pos + 1 * n by rw [Nat.one_mul]] at ha
            replace hS := hS.trans hs (by first | (simp <;> omega) | (intro hm; have := hS9 _ hm; omega) | (intro g hm; have := hS9 _ hm; omega) | (intro g hm; have := hS9 _ hm; exact .inr (by omega)))
            replace hg := hg.same hs (by first | (simp <;> omega) | (intro hm; have := hS9 _ hm; omega) | (intro g hm; have := hS9 _ hm; omega) | (intro g hm; have := hS9 _ hm; exact .inr (by omega)))
            replace tb := tb.same hs (by first | (simp <;> omega) | (intro hm; have := hS9 _ hm; omega) | (intro g hm; have := hS9 _ hm; omega) | (intro g hm; have := hS9 _ hm; exact .inr (by omega)))
            refine WR.move rfl rfl ?_
            refine WR.extract rfl rfl rfl ?_
            refine WR.extract rfl rfl rfl ?_
            refine WR.assign rfl rfl ?_
            refine WR.assign rfl rfl ?_
            refine WR.nil ?_
            refine WN.seq ?_
            refine WC.seq ?_
            refine WC.region ?_
            refine WR.move rfl rfl ?_
            refine WR.move rfl rfl ?_
            refine WR.nil ?_
            refine WN.seq ?_
            refine WC.block ?_
            have hO : Own w2 (bM + 1) 28 (.slice none 0 0) (u64s ((List.range 0).map fun j => bts (num d len) (pos + 1 * j) 1)) := Own.nil _ _ _
            refine WC.loop (fun x : Nat × Value => [(8, x.2), (9, .nilIface), (21, .slice (some ⟨bM, 0, none⟩) ((n + 7) / 8) ((n + 7) / 8)), (133, .int .i64 (n : Nat)), (134, .int .i64 (x.1 : Nat))]) (fun k x w' => x.1 + k = n ∧ Same [b, rb] w w' ∧ Glob w' aE aU aP ∧ Tab w' ∧ At w' b rb db dO len cap d (pos + 1 * n) ∧ Row w' bM 5 ((n + 7) / 8) F ∧ Own w' (bM + 1) 28 x.2 (u64s ((List.range x.1).map fun j => bts (num d len) (pos + 1 * j) 1))) n (0, .slice none 0 0) ⟨rfl, rfl, rfl, rfl, rfl, trivial⟩ ⟨by simp, hS, hg, tb, ha, hF, hO⟩ ?_
            clear hS hg tb ha hF hO
            rintro k ⟨i, u⟩ w3 ⟨hm, hS, hg, tb, ha, hF, hO⟩
            simp only [] at hm hO
            refine WC.weak [(8, u), (9, .nilIface), (21, .slice (some ⟨bM, 0, none⟩) ((n + 7) / 8) ((n + 7) / 8)), (133, .int .i64 (n : Nat)), (134, .int .i64 (i : Nat))] ⟨rfl, rfl, rfl, rfl, rfl, trivial⟩ ?_
            refine WC.seq ?_
            refine WC.region ?_
            refine WR.bin rfl rfl rfl rfl ?_
            refine WR.nil ?_
            refine WN.seq ?_
            refine WC.seq ?_
            refine WC.cond rfl (fun h163 => ?_) (fun h163 => ?_)
            · skip
              (try simp only [decide_eq_true_eq, decide_eq_false_iff_not, beq_iff_eq, beq_eq_false_iff_ne, bne_iff_ne, bne_eq_false_iff_eq, gt_iff_lt, ge_iff_le, Int.not_lt, Int.not_le, ne_eq, Bool.not_eq_true, Bool.not_eq_false, Bool.and_eq_true, Bool.and_eq_false_iff, Bool.or_eq_true, Bool.or_eq_false_iff] at h163)
              have hbv : (if (bts (num d len) (pos + i) 1 == 1) = true then 1 else 0) = bts (num d len) (pos + 1 * i) 1 := by rw [Nat.one_mul]; exact bts_bool _ _
              have hbb : (c (i / 8) / 2 ^ (i % 8) % 2 == 1) = (bts (num d len) (pos + i) 1 == 1) := (Nat.testBit_eq_decide_div_mod_eq (x := c (i / 8)) (i := i % 8)).symm.trans (hcb i (by omega))
              refine WC.skip ?_
              refine WN.seq ?_
              refine WC.seq ?_
              refine WC.block ?_
              refine WC.seq ?_
              refine WC.region ?_
              refine WR.move rfl rfl ?_
              refine WR.assign rfl rfl ?_
              refine WR.nil ?_
              refine WN.seq ?_
              refine WC.region ?_
              refine WR.move rfl rfl ?_
              refine WR.move rfl rfl ?_
              refine WR.move rfl rfl ?_
              refine WR.callF rfl rfl cf25 rfl rfl (bitIsSet tb bM 0 ((n + 7) / 8) ((n + 7) / 8) 5 ((n + 7) / 8) i (c (i / 8)) F hF (hc _ (by omega)).1 (hc _ (by omega)).2 (by omega) (by omega) (by omega) (by omega)) ?_
              rintro _ w4 ⟨rfl, hs⟩
              rw [hbb]
              replace hS := hS.trans hs (by first | (simp <;> omega) | (intro hm; have := hS9 _ hm; omega) | (intro g hm; have := hS9 _ hm; omega) | (intro g hm; have := hS9 _ hm; exact .inr (by omega)))
              replace hg := hg.same hs (by first | (simp <;> omega) | (intro hm; have := hS9 _ hm; omega) | (intro g hm; have := hS9 _ hm; omega) | (intro g hm; have := hS9 _ hm; exact .inr (by omega)))
              replace tb := tb.same hs (by first | (simp <;> omega) | (intro hm; have := hS9 _ hm; omega) | (intro g hm; have := hS9 _ hm; omega) | (intro g hm; have := hS9 _ hm; exact .inr (by omega)))
              replace ha := ha.same hs (by first | (simp <;> omega) | (intro hm; have := hS9 _ hm; omega) | (intro g hm; have := hS9 _ hm; omega) | (intro g hm; have := hS9 _ hm; exact .inr (by omega))) (by first | (simp <;> omega) | (intro hm; have := hS9 _ hm; omega) | (intro g hm; have := hS9 _ hm; omega) | (intro g hm; have := hS9 _ hm; exact .inr (by omega))) (by first | (simp <;> omega) | (intro hm; have := hS9 _ hm; omega) | (intro g hm; have := hS9 _ hm; omega) | (intro g hm; have := hS9 _ hm; exact .inr (by omega)))
              (try replace hF := hF.same hs (by first | (simp <;> omega) | (intro hm; have := hS9 _ hm; omega) | (intro g hm; have := hS9 _ hm; omega) | (intro g hm; have := hS9 _ hm; exact .inr (by omega))))
              (try replace hO := hO.same hs (by first | (simp <;> omega) | (intro hm; have := hS9 _ hm; omega) | (intro g hm; have := hS9 _ hm; omega) | (intro g hm; have := hS9 _ hm; exact .inr (by omega))))
              refine WR.callF rfl rfl cf22 rfl rfl (boolValue _) ?_
              rintro _ w5 ⟨rfl, hs⟩
              rw [hbv]
              replace hS := hS.trans hs (by first | (simp <;> omega) | (intro hm; have := hS9 _ hm; omega) | (intro g hm; have := hS9 _ hm; omega) | (intro g hm; have := hS9 _ hm; exact .inr (by omega)))
              replace hg := hg.same hs (by first | (simp <;> omega) | (intro hm; have := hS9 _ hm; omega) | (intro g hm; have := hS9 _ hm; omega) | (intro g hm; have := hS9 _ hm; exact .inr (by omega)))
              replace tb := tb.same hs (by first | (simp <;> omega) | (intro hm; have := hS9 _ hm; omega) | (intro g hm; have := hS9 _ hm; omega) | (intro g hm; have := hS9 _ hm; exact .inr (by omega)))
              replace ha := ha.same hs (by first | (simp <;> omega) | (intro hm; have := hS9 _ hm; omega) | (intro g hm; have := hS9 _ hm; omega) | (intro g hm; have := hS9 _ hm; exact .inr (by omega))) (by first | (simp <;> omega) | (intro hm; have := hS9 _ hm; omega) | (intro g hm; have := hS9 _ hm; omega) | (intro g hm; have := hS9 _ hm; exact .inr (by omega))) (by first | (simp <;> omega) | (intro hm; have := hS9 _ hm; omega) | (intro g hm; have := hS9 _ hm; omega) | (intro g hm; have := hS9 _ hm; exact .inr (by omega)))
              (try replace hF := hF.same hs (by first | (simp <;> omega) | (intro hm; have := hS9 _ hm; omega) | (intro g hm; have := hS9 _ hm; omega) | (intro g hm; have := hS9 _ hm; exact .inr (by omega))))
              (try replace hO := hO.same hs (by first | (simp <;> omega) | (intro hm; have := hS9 _ hm; omega) | (intro g hm; have := hS9 _ hm; omega) | (intro g hm; have := hS9 _ hm; exact .inr (by omega))))
              refine WR.fieldV (v := .int .u64 ((bts (num d len) (pos + 1 * i) 1) : Nat)) rfl (fun w => by kernel_rfl) rfl ?_
              obtain ⟨bQ, hbQ⟩ : ∃ x, x = w5.heap.size := ⟨_, rfl⟩
              refine WR.buildSl (E := 28) (cs := #[.int .u64 ((bts (num d len) (pos + 1 * i) 1) : Nat)]) rfl rfl (fun w => by kernel_rfl) rfl rfl ?_
              rw [← hbQ]
              intro w6 hQ hs
              replace hS := hS.trans hs (by first | (simp <;> omega) | (intro hm; have := hS9 _ hm; omega) | (intro g hm; have := hS9 _ hm; omega) | (intro g hm; have := hS9 _ hm; exact .inr (by omega)))
              replace hg := hg.same hs (by first | (simp <;> omega) | (intro hm; have := hS9 _ hm; omega) | (intro g hm; have := hS9 _ hm; omega) | (intro g hm; have := hS9 _ hm; exact .inr (by omega)))
              replace tb := tb.same hs (by first | (simp <;> omega) | (intro hm; have := hS9 _ hm; omega) | (intro g hm; have := hS9 _ hm; omega) | (intro g hm; have := hS9 _ hm; exact .inr (by omega)))
              replace ha := ha.same hs (by first | (simp <;> omega) | (intro hm; have := hS9 _ hm; omega) | (intro g hm; have := hS9 _ hm; omega) | (intro g hm; have := hS9 _ hm; exact .inr (by omega))) (by first | (simp <;> omega) | (intro hm; have := hS9 _ hm; omega) | (intro g hm; have := hS9 _ hm; omega) | (intro g hm; have := hS9 _ hm; exact .inr (by omega))) (by first | (simp <;> omega) | (intro hm; have := hS9 _ hm; omega) | (intro g hm; have := hS9 _ hm; omega) | (intro g hm; have := hS9 _ hm; exact .inr (by omega)))
              (try replace hF := hF.same hs (by first | (simp <;> omega) | (intro hm; have := hS9 _ hm; omega) | (intro g hm; have := hS9 _ hm; omega) | (intro g hm; have := hS9 _ hm; exact .inr (by omega))))
              (try replace hO := hO.same hs (by first | (simp <;> omega) | (intro hm; have := hS9 _ hm; omega) | (intro g hm; have := hS9 _ hm; omega) | (intro g hm; have := hS9 _ hm; exact .inr (by omega))))
              clear hs
              refine WR.appendL rfl hO rfl (Row.one hQ) (fun i hi => u64s_one hi) Tryz.underlying24 mk28 rfl (by decide) (by simp only [u64s_length, List.length_map, List.length_range]; simp; omega) (by have := hS.size; have := hF.lt; omega) rfl rfl ?_
              intro u2 w7 S9 hn hs hS9
              replace hO := hn
              replace hS := hS.trans hs (by first | (simp <;> omega) | (intro hm; have := hS9 _ hm; omega) | (intro g hm; have := hS9 _ hm; omega) | (intro g hm; have := hS9 _ hm; exact .inr (by omega)))
              replace hg := hg.same hs (by first | (simp <;> omega) | (intro hm; have := hS9 _ hm; omega) | (intro g hm; have := hS9 _ hm; omega) | (intro g hm; have := hS9 _ hm; exact .inr (by omega)))
              replace tb := tb.same hs (by first | (simp <;> omega) | (intro hm; have := hS9 _ hm; omega) | (intro g hm; have := hS9 _ hm; omega) | (intro g hm; have := hS9 _ hm; exact .inr (by omega)))
              replace ha := ha.same hs (by first | (simp <;> omega) | (intro hm; have := hS9 _ hm; omega) | (intro g hm; have := hS9 _ hm; omega) | (intro g hm; have := hS9 _ hm; exact .inr (by omega))) (by first | (simp <;> omega) | (intro hm; have := hS9 _ hm; omega) | (intro g hm; have := hS9 _ hm; omega) | (intro g hm; have := hS9 _ hm; exact .inr (by omega))) (by first | (simp <;> omega) | (intro hm; have := hS9 _ hm; omega) | (intro g hm; have := hS9 _ hm; omega) | (intro g hm; have := hS9 _ hm; exact .inr (by omega)))
              (try replace hF := hF.same hs (by first | (simp <;> omega) | (intro hm; have := hS9 _ hm; omega) | (intro g hm; have := hS9 _ hm; omega) | (intro g hm; have := hS9 _ hm; exact .inr (by omega))))
              have hO2 : Own w7 (bM + 1) 28 u2 (u64s ((List.range (i + 1)).map fun j => bts (num d len) (pos + 1 * j) 1)) := by
                rw [u64s_succ]
                exact hO
              clear hn hs hS9
              refine WR.assign rfl rfl ?_
              refine WR.nil ?_
              refine WN.block ?_
              refine WN.seq ?_
              refine WC.region ?_
              first
                | (refine WR.bin rfl rfl (ar_add (wrap_i64 ?_ ?_)) rfl ?_; (omega); (omega))
                | refine WR.bin rfl rfl (ar_add rfl) rfl ?_
              refine WR.move rfl rfl ?_
              refine WR.nil ?_
              exact WN.loop (k - 1) (i + 1, u2) (by omega) ⟨rfl, rfl, rfl, rfl, kint rfl (by show _ = ((i + 1 : Nat) : Int); omega), trivial⟩ ⟨by show i + 1 + (k - 1) = n; omega, hS, hg, tb, ha, hF, hO2⟩
            · skip
              (try simp only [decide_eq_true_eq, decide_eq_false_iff_not, beq_iff_eq, beq_eq_false_iff_ne, bne_iff_ne, bne_eq_false_iff_eq, gt_iff_lt, ge_iff_le, Int.not_lt, Int.not_le, ne_eq, Bool.not_eq_true, Bool.not_eq_false, Bool.and_eq_true, Bool.and_eq_false_iff, Bool.or_eq_true, Bool.or_eq_false_iff] at h163)
              obtain rfl : i = n := by omega
              refine WC.exit rfl ?_
              refine WN.block ?_
              refine WN.seq ?_
              refine WC.seq ?_
              refine WC.region ?_
              refine WR.move rfl rfl ?_
              refine WR.move rfl rfl ?_
              refine WR.assign rfl rfl ?_
              refine WR.assign rfl rfl ?_
              refine WR.nil ?_
              refine WN.seq ?_
              refine WC.retR rfl rfl ?_
              exact ⟨u, rfl, ha, hO.ls.low (by omega), hS⟩
          · skip
            exact absurd h160 (by decide)

set_option maxHeartbeats 400000 in
theorem batch5 {w : World} {aE aU aP : Addr} (hg : Glob w aE aU aP) (tb : Tab w) (b rb db dO len cap W n pos : Nat) (d : Nat → Nat) (ha : At w b rb db dO len cap d pos) (hn : n ≤ 1048576) (hW1 : 1 ≤ W) (hW2 : W ≤ 64) (hfit : pos + W * n ≤ 8 * len) (hgb : 7 ≤ b) (hrb : 7 ≤ rb) (hne : b ≠ rb) (hnd : b ≠ db) (hrd : rb ≠ db) :
    Ret Tryz.prog 13 #[.pointer (some ⟨b, 0, none⟩), .int .i64 (W : Nat), .int .i64 5, .int .i64 (n : Nat)] w fun v w' => ∃ u, v = .tuple #[u, .nilIface] ∧ At w' b rb db dO len cap d (pos + W * n) ∧ Ls w' w.heap.size u (u64s ((List.range n).map fun j => bts (num d len) (pos + W * j) W)) ∧ Same [b, rb] w w' := by
  have hS := Same.refl [b, rb] w
  obtain ⟨hl1, hl2, hl3⟩ := ha.lt
  have hgs := hg.size
  obtain ⟨H0, hH0⟩ : ∃ x, x = w.heap.size := ⟨_, rfl⟩
  refine Ret.enter (vs := [.pointer (some ⟨b, 0, none⟩), .int .i64 (W : Nat), .int .i64 5, .int .i64 (n : Nat)]) Tryz.func13 Tryz.ntmps13 rfl rfl ?_
  refine WC.seq ?_
  refine WC.region ?_
  refine WR.assign rfl rfl ?_
  refine WR.assign rfl rfl ?_
  refine WR.nil ?_
  refine WN.seq ?_
  refine WC.seq ?_
  refine WC.region ?_
  refine WR.assign rfl rfl ?_
  refine WR.nil ?_
  refine WN.seq ?_
  refine WC.seq ?_
  refine WC.seq ?_
  refine WC.region ?_
  refine WR.move rfl rfl ?_
  refine WR.nil ?_
  refine WN.seq ?_
  refine WC.block ?_
  refine WC.seq ?_
  refine WC.region ?_
  refine WR.bin rfl rfl rfl rfl ?_
  refine WR.assign rfl rfl ?_
  refine WR.nil ?_
  refine WN.seq ?_
  refine WC.cond rfl (fun h138 => ?_) (fun h138 => ?_)
  · skip
    exact absurd h138 (by decide)
  · skip
    (try simp only [decide_eq_true_eq, decide_eq_false_iff_not, beq_iff_eq, beq_eq_false_iff_ne, bne_iff_ne, bne_eq_false_iff_eq, gt_iff_lt, ge_iff_le, Int.not_lt, Int.not_le, ne_eq, Bool.not_eq_true, Bool.not_eq_false, Bool.and_eq_true, Bool.and_eq_false_iff, Bool.or_eq_true, Bool.or_eq_false_iff] at h138)
    refine WC.seq ?_
    refine WC.region ?_
    refine WR.bin rfl rfl rfl rfl ?_
    refine WR.assign rfl rfl ?_
    refine WR.nil ?_
    refine WN.seq ?_
    refine WC.cond rfl (fun h142 => ?_) (fun h142 => ?_)
    · skip
      exact absurd h142 (by decide)
    · skip
      (try simp only [decide_eq_true_eq, decide_eq_false_iff_not, beq_iff_eq, beq_eq_false_iff_ne, bne_iff_ne, bne_eq_false_iff_eq, gt_iff_lt, ge_iff_le, Int.not_lt, Int.not_le, ne_eq, Bool.not_eq_true, Bool.not_eq_false, Bool.and_eq_true, Bool.and_eq_false_iff, Bool.or_eq_true, Bool.or_eq_false_iff] at h142)
      refine WC.seq ?_
      refine WC.region ?_
      refine WR.bin rfl rfl rfl rfl ?_
      refine WR.assign rfl rfl ?_
      refine WR.nil ?_
      refine WN.seq ?_
      refine WC.cond rfl (fun h148 => ?_) (fun h148 => ?_)
      · skip
        exact absurd h148 (by decide)
      · skip
        (try simp only [decide_eq_true_eq, decide_eq_false_iff_not, beq_iff_eq, beq_eq_false_iff_ne, bne_iff_ne, bne_eq_false_iff_eq, gt_iff_lt, ge_iff_le, Int.not_lt, Int.not_le, ne_eq, Bool.not_eq_true, Bool.not_eq_false, Bool.and_eq_true, Bool.and_eq_false_iff, Bool.or_eq_true, Bool.or_eq_false_iff] at h148)
        refine WC.seq ?_
        refine WC.region ?_
        refine WR.bin rfl rfl rfl rfl ?_
        refine WR.assign rfl rfl ?_
        refine WR.nil ?_
        refine WN.seq ?_
        refine WC.cond rfl (fun h154 => ?_) (fun h154 => ?_)
        · skip
          exact absurd h154 (by decide)
        · skip
          (try simp only [decide_eq_true_eq, decide_eq_false_iff_not, beq_iff_eq, beq_eq_false_iff_ne, bne_iff_ne, bne_eq_false_iff_eq, gt_iff_lt, ge_iff_le, Int.not_lt, Int.not_le, ne_eq, Bool.not_eq_true, Bool.not_eq_false, Bool.and_eq_true, Bool.and_eq_false_iff, Bool.or_eq_true, Bool.or_eq_false_iff] at h154)
          refine WC.seq ?_
          refine WC.region ?_
          refine WR.bin rfl rfl rfl rfl ?_
          refine WR.assign rfl rfl ?_
          refine WR.nil ?_
          refine WN.seq ?_
          refine WC.cond rfl (fun h160 => ?_) (fun h160 => ?_)
          · skip
            exact absurd h160 (by decide)
          · skip
            (try simp only [decide_eq_true_eq, decide_eq_false_iff_not, beq_iff_eq, beq_eq_false_iff_ne, bne_iff_ne, bne_eq_false_iff_eq, gt_iff_lt, ge_iff_le, Int.not_lt, Int.not_le, ne_eq, Bool.not_eq_true, Bool.not_eq_false, Bool.and_eq_true, Bool.and_eq_false_iff, Bool.or_eq_true, Bool.or_eq_false_iff] at h160)
            refine WC.seq ?_
            refine WC.region ?_
            refine WR.bin rfl rfl rfl rfl ?_
            refine WR.assign rfl rfl ?_
            refine WR.nil ?_
            refine WN.seq ?_
            refine WC.cond rfl (fun h166 => ?_) (fun h166 => ?_)
            · skip
              (try simp only [decide_eq_true_eq, decide_eq_false_iff_not, beq_iff_eq, beq_eq_false_iff_ne, bne_iff_ne, bne_eq_false_iff_eq, gt_iff_lt, ge_iff_le, Int.not_lt, Int.not_le, ne_eq, Bool.not_eq_true, Bool.not_eq_false, Bool.and_eq_true, Bool.and_eq_false_iff, Bool.or_eq_true, Bool.or_eq_false_iff] at h166)
              refine WC.seq ?_
              refine WC.region ?_
              refine WR.move rfl rfl ?_
              refine WR.move rfl rfl ?_
              refine WR.nil ?_
              refine WN.seq ?_
              refine WC.block ?_
              have hO : Own w H0 28 (.slice none 0 0) (u64s ((List.range 0).map fun j => bts (num d len) (pos + W * j) W)) := Own.nil _ _ _
              refine WC.loop (fun x : Nat × Value => [(8, x.2), (9, .nilIface), (0, .pointer (some ⟨b, 0, none⟩)), (1, .int .i64 (W : Nat)), (148, .int .i64 (n : Nat)), (149, .int .i64 (x.1 : Nat))]) (fun k x w' => x.1 + k = n ∧ Same [b, rb] w w' ∧ Glob w' aE aU aP ∧ Tab w' ∧ At w' b rb db dO len cap d (pos + W * x.1) ∧ Own w' H0 28 x.2 (u64s ((List.range x.1).map fun j => bts (num d len) (pos + W * j) W))) n (0, .slice none 0 0) ⟨rfl, rfl, rfl, rfl, rfl, rfl, trivial⟩ ⟨by simp, hS, hg, tb, ha, hO⟩ ?_
              clear hS hg tb ha hO
              rintro k ⟨i, u⟩ w1 ⟨hm, hS, hg, tb, ha, hO⟩
              simp only [] at hm ha hO
              refine WC.weak [(8, u), (9, .nilIface), (0, .pointer (some ⟨b, 0, none⟩)), (1, .int .i64 (W : Nat)), (148, .int .i64 (n : Nat)), (149, .int .i64 (i : Nat))] ⟨rfl, rfl, rfl, rfl, rfl, rfl, trivial⟩ ?_
              refine WC.seq ?_
              refine WC.region ?_
              refine WR.bin rfl rfl rfl rfl ?_
              refine WR.nil ?_
              refine WN.seq ?_
              refine WC.seq ?_
              refine WC.cond rfl (fun h167 => ?_) (fun h167 => ?_)
              · skip
                (try simp only [decide_eq_true_eq, decide_eq_false_iff_not, beq_iff_eq, beq_eq_false_iff_ne, bne_iff_ne, bne_eq_false_iff_eq, gt_iff_lt, ge_iff_le, Int.not_lt, Int.not_le, ne_eq, Bool.not_eq_true, Bool.not_eq_false, Bool.and_eq_true, Bool.and_eq_false_iff, Bool.or_eq_true, Bool.or_eq_false_iff] at h167)
                have hfi : pos + W * i + W ≤ 8 * len := by
                  have := Nat.mul_le_mul_left W (show i + 1 ≤ n by omega)
                  rw [Nat.mul_add, Nat.mul_one] at this
                  omega
                refine WC.skip ?_
                refine WN.seq ?_
                refine WC.seq ?_
                refine WC.block ?_
                refine WC.seq ?_
                refine WC.region ?_
                refine WR.move rfl rfl ?_
                refine WR.move rfl rfl ?_
                refine WR.callF rfl rfl cf26 rfl rfl (getValue hg b rb db dO len cap W (pos + W * i) d ha hW1 hW2 hfi hgb hrb hne hnd hrd) ?_
                rintro _ w2 ⟨rfl, ha', hs⟩
                replace ha := ha'
                clear ha'
                replace hS := hS.trans hs (by first | (simp <;> omega) | (intro hm; have := hS9 _ hm; omega) | (intro g hm; have := hS9 _ hm; omega) | (intro g hm; have := hS9 _ hm; exact .inr (by omega)))
                replace hg := hg.same hs (by first | (simp <;> omega) | (intro hm; have := hS9 _ hm; omega) | (intro g hm; have := hS9 _ hm; omega) | (intro g hm; have := hS9 _ hm; exact .inr (by omega)))
                replace tb := tb.same hs (by first | (simp <;> omega) | (intro hm; have := hS9 _ hm; omega) | (intro g hm; have := hS9 _ hm; omega) | (intro g hm; have := hS9 _ hm; exact .inr (by omega)))
                (try replace hF := hF.same hs (by first | (simp <;> omega) | (intro hm; have := hS9 _ hm; omega) | (intro g hm; have := hS9 _ hm; omega) | (intro g hm; have := hS9 _ hm; exact .inr (by omega))))
                (try replace hO := hO.same hs (by first | (simp <;> omega) | (intro hm; have := hS9 _ hm; omega) | (intro g hm; have := hS9 _ hm; omega) | (intro g hm; have := hS9 _ hm; exact .inr (by omega))))
                refine WR.move rfl rfl ?_
                refine WR.extract rfl rfl rfl ?_
                refine WR.extract rfl rfl rfl ?_
                refine WR.assign rfl rfl ?_
                refine WR.assign rfl rfl ?_
                refine WR.nil ?_
                refine WN.seq ?_
                refine WC.seq ?_
                refine WC.seq ?_
                refine WC.region ?_
                refine WR.move rfl rfl ?_
                refine WR.notOp rfl rfl ?_
                refine WR.nil ?_
                refine WN.seq ?_
                refine WC.cond rfl (fun h169 => ?_) (fun h169 => ?_)
                · skip
                  exact absurd h169 (by simp)
                · skip
                  (try simp only [decide_eq_true_eq, decide_eq_false_iff_not, beq_iff_eq, beq_eq_false_iff_ne, bne_iff_ne, bne_eq_false_iff_eq, gt_iff_lt, ge_iff_le, Int.not_lt, Int.not_le, ne_eq, Bool.not_eq_true, Bool.not_eq_false, Bool.and_eq_true, Bool.and_eq_false_iff, Bool.or_eq_true, Bool.or_eq_false_iff] at h169)
                  refine WC.skip ?_
                  refine WN.seq ?_
                  refine WC.region ?_
                  refine WR.move rfl rfl ?_
                  refine WR.move rfl rfl ?_
                  obtain ⟨bQ, hbQ⟩ : ∃ x, x = w2.heap.size := ⟨_, rfl⟩
                  refine WR.buildSl (E := 28) (cs := #[.int .u64 ((bts (num d len) (pos + W * i) W) : Nat)]) rfl rfl (fun w => by kernel_rfl) rfl rfl ?_
                  rw [← hbQ]
                  intro w3 hQ hs
                  replace hS := hS.trans hs (by first | (simp <;> omega) | (intro hm; have := hS9 _ hm; omega) | (intro g hm; have := hS9 _ hm; omega) | (intro g hm; have := hS9 _ hm; exact .inr (by omega)))
                  replace hg := hg.same hs (by first | (simp <;> omega) | (intro hm; have := hS9 _ hm; omega) | (intro g hm; have := hS9 _ hm; omega) | (intro g hm; have := hS9 _ hm; exact .inr (by omega)))
                  replace tb := tb.same hs (by first | (simp <;> omega) | (intro hm; have := hS9 _ hm; omega) | (intro g hm; have := hS9 _ hm; omega) | (intro g hm; have := hS9 _ hm; exact .inr (by omega)))
                  replace ha := ha.same hs (by first | (simp <;> omega) | (intro hm; have := hS9 _ hm; omega) | (intro g hm; have := hS9 _ hm; omega) | (intro g hm; have := hS9 _ hm; exact .inr (by omega))) (by first | (simp <;> omega) | (intro hm; have := hS9 _ hm; omega) | (intro g hm; have := hS9 _ hm; omega) | (intro g hm; have := hS9 _ hm; exact .inr (by omega))) (by first | (simp <;> omega) | (intro hm; have := hS9 _ hm; omega) | (intro g hm; have := hS9 _ hm; omega) | (intro g hm; have := hS9 _ hm; exact .inr (by omega)))
                  (try replace hF := hF.same hs (by first | (simp <;> omega) | (intro hm; have := hS9 _ hm; omega) | (intro g hm; have := hS9 _ hm; omega) | (intro g hm; have := hS9 _ hm; exact .inr (by omega))))
                  (try replace hO := hO.same hs (by first | (simp <;> omega) | (intro hm; have := hS9 _ hm; omega) | (intro g hm; have := hS9 _ hm; omega) | (intro g hm; have := hS9 _ hm; exact .inr (by omega))))
                  clear hs
                  refine WR.appendL rfl hO rfl (Row.one hQ) (fun i hi => u64s_one hi) Tryz.underlying24 mk28 rfl (by decide) (by simp only [u64s_length, List.length_map, List.length_range]; simp; omega) (by have := hS.size; omega) rfl rfl ?_
                  intro u2 w4 S9 hn hs hS9
                  replace hO := hn
                  replace hS := hS.trans hs (by first | (simp <;> omega) | (intro hm; have := hS9 _ hm; omega) | (intro g hm; have := hS9 _ hm; omega) | (intro g hm; have := hS9 _ hm; exact .inr (by omega)))
                  replace hg := hg.same hs (by first | (simp <;> omega) | (intro hm; have := hS9 _ hm; omega) | (intro g hm; have := hS9 _ hm; omega) | (intro g hm; have := hS9 _ hm; exact .inr (by omega)))
                  replace tb := tb.same hs (by first | (simp <;> omega) | (intro hm; have := hS9 _ hm; omega) | (intro g hm; have := hS9 _ hm; omega) | (intro g hm; have := hS9 _ hm; exact .inr (by omega)))
                  replace ha := ha.same hs (by first | (simp <;> omega) | (intro hm; have := hS9 _ hm; omega) | (intro g hm; have := hS9 _ hm; omega) | (intro g hm; have := hS9 _ hm; exact .inr (by omega))) (by first | (simp <;> omega) | (intro hm; have := hS9 _ hm; omega) | (intro g hm; have := hS9 _ hm; omega) | (intro g hm; have := hS9 _ hm; exact .inr (by omega))) (by first | (simp <;> omega) | (intro hm; have := hS9 _ hm; omega) | (intro g hm; have := hS9 _ hm; omega) | (intro g hm; have := hS9 _ hm; exact .inr (by omega)))
                  (try replace hF := hF.same hs (by first | (simp <;> omega) | (intro hm; have := hS9 _ hm; omega) | (intro g hm; have := hS9 _ hm; omega) | (intro g hm; have := hS9 _ hm; exact .inr (by omega))))
                  have hO2 : Own w4 H0 28 u2 (u64s ((List.range (i + 1)).map fun j => bts (num d len) (pos + W * j) W)) := by
                    rw [u64s_succ]
                    exact hO
                  clear hn hs hS9
                  refine WR.assign rfl rfl ?_
                  refine WR.nil ?_
                  refine WN.block ?_
                  refine WN.seq ?_
                  refine WC.region ?_
                  first
                    | (refine WR.bin rfl rfl (ar_add (wrap_i64 ?_ ?_)) rfl ?_; (omega); (omega))
                    | refine WR.bin rfl rfl (ar_add rfl) rfl ?_
                  refine WR.move rfl rfl ?_
                  refine WR.nil ?_
                  rw [show pos + W * i + W = pos + W * (i + 1) by rw [Nat.mul_add, Nat.mul_one, Nat.add_assoc]] at ha
                  exact WN.loop (k - 1) (i + 1, u2) (by omega) ⟨rfl, rfl, rfl, rfl, rfl, kint rfl (by show _ = ((i + 1 : Nat) : Int); omega), trivial⟩ ⟨by show i + 1 + (k - 1) = n; omega, hS, hg, tb, ha, hO2⟩
              · skip
                (try simp only [decide_eq_true_eq, decide_eq_false_iff_not, beq_iff_eq, beq_eq_false_iff_ne, bne_iff_ne, bne_eq_false_iff_eq, gt_iff_lt, ge_iff_le, Int.not_lt, Int.not_le, ne_eq, Bool.not_eq_true, Bool.not_eq_false, Bool.and_eq_true, Bool.and_eq_false_iff, Bool.or_eq_true, Bool.or_eq_false_iff] at h167)
                obtain rfl : i = n := by omega
                refine WC.exit rfl ?_
                refine WN.block ?_
                refine WN.seq ?_
                refine WC.seq ?_
                refine WC.region ?_
                refine WR.move rfl rfl ?_
                refine WR.move rfl rfl ?_
                refine WR.assign rfl rfl ?_
                refine WR.assign rfl rfl ?_
                refine WR.nil ?_
                refine WN.seq ?_
                refine WC.retR rfl rfl ?_
                exact ⟨u, rfl, ha, hO.ls.low (by omega), hS⟩
            · skip
              exact absurd h166 (by decide)

end Go.Proofs.YtajgdpiodpoooaaGreatDoor.Vm
