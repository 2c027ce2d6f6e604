/- Do the runs fit? -/
import Derived.Test.YthmknddfkmklfaaGreatDoorFnZg
namespace Go.Proofs.YthmknddfkmklfaaGreatDoor.Vm
open Go Mix Go.RowKit Num
set_option maxRecDepth 20000
set_option linter.unusedSimpArgs false
theorem agg_getD {n i : Nat} {g : Nat → Value} (h : i < n) : (((List.range n).map g).toArray).getD i undef = g i := by simp [h]
theorem agg_size (n : Nat) (g : Nat → Value) : (((List.range n).map g).toArray).size = n := by simp
theorem RC.rd {w : World} {b : Nat} {r : RR} (h : RC w b r) : Rd w b 0 3 (rF r) := (Row.rd h 0 3 (by decide)).congr fun i _ => by rw [Nat.zero_add]
theorem RC.box (w : World) (r : RR) : RC (w.alloc (.cells (((List.range 3).map (rF r)).toArray) 46)) w.heap.size r := by
  have h := Row.alloc w (((List.range 3).map (rF r)).toArray) 46
  rw [agg_size] at h
  exact h.congr fun i hi => agg_getD hi
theorem div_zero_lt {x W : Nat} (h : x / 2 ^ W = 0) : x < 2 ^ W := Nat.lt_of_not_le fun h2 => absurd (Nat.div_pos h2 (Nat.pow_pos (by decide))) (by omega)
theorem rep_succX (E : List Nat) (x k : Nat) : u64s (E ++ List.replicate (k + 1) x) = u64s (E ++ List.replicate k x) ++ u64s [x] := by
  rw [List.replicate_succ', ← List.append_assoc, u64s_append]
theorem cf14 (us : Array Value) (w : World) : (callFunc 14 us).run Tryz.prog w = .ok (.enter 14 us) w := by kernel_rfl
set_option maxHeartbeats 200000 in
theorem zfits6 {w : World} (r : RR) :
    Ret Tryz.prog 14 #[.agg ((List.range 3).map (rF r)).toArray] w fun v w' => ∃ b, v = .bool b ∧ Same [] w w' := by
  have hS := Same.refl [] w
  refine Ret.enter (vs := [.agg ((List.range 3).map (rF r)).toArray]) Tryz.func14 Tryz.ntmps14 rfl rfl ?_
  refine WC.seq (WC.region ?_)
  refine WR.box rfl rfl rfl ?_
  intro w1 hn hs
  replace hS := hS.trans hs (by simp <;> omega)
  have hR : RC w1 w.heap.size r := by rw [hn]; exact RC.box w r
  clear hn hs
  refine WR.assign rfl rfl ?_
  refine WR.nil (WN.seq ?_)
  refine WC.seq (WC.seq (WC.region ?_))
  refine WR.field rfl fa46_2 rfl ?_
  refine WR.load rfl Tryz.underlying37 rfl hR.c2 rfl ?_
  refine WR.lenS rfl Tryz.underlying37 rfl ?_
  refine WR.bin rfl rfl rfl rfl ?_
  refine WR.nil (WN.seq ?_)
  refine WC.cond rfl (fun h78 => ?_) (fun h78 => ?_)
  · skip
    simp only [gt_iff_lt, decide_eq_true_eq] at h78
    refine WC.seq (WC.region ?_)
    refine WR.assign rfl rfl ?_
    refine WR.nil (WN.seq ?_)
    refine WC.retR rfl rfl ?_
    exact ⟨_, rfl, hS⟩
  · skip
    simp only [gt_iff_lt, decide_eq_false_iff_not, Int.not_lt] at h78
    refine WC.skip (WN.seq ?_)
    refine WC.seq (WC.region ?_)
    refine WR.assign rfl rfl ?_
    refine WR.nil (WN.seq ?_)
    refine WC.retR rfl rfl ?_
    exact ⟨_, rfl, hS⟩

set_option maxHeartbeats 400000 in
theorem zfits5 {w : World} (rs : List RR) (n cl H : Nat) (A : Option Addr) (hH : H = w.heap.size) (hrs : RS w H (.slice A n cl) rs) (hn : n = rs.length) (hn2 : n ≤ 9223372036854775807) :
    Ret Tryz.prog 4 #[.slice A n cl] w fun v w' => ∃ b, v = .bool b ∧ (b = true → n ≤ 2147483647) ∧ Same [] w w' := by
  have hS := Same.refl [] w
  have hw0 := Nat.le_of_eq hH
  refine Ret.enter (vs := [.slice A n cl]) Tryz.func4 Tryz.ntmps4 rfl rfl ?_
  refine WC.seq (WC.region ?_)
  refine WR.assign rfl rfl ?_
  refine WR.nil (WN.seq ?_)
  refine WC.seq (WC.seq (WC.region ?_))
  refine WR.move rfl rfl ?_
  refine WR.lenS rfl Tryz.underlying23 rfl ?_
  refine WR.bin rfl rfl rfl rfl ?_
  refine WR.nil (WN.seq ?_)
  refine WC.cond rfl (fun h65 => ?_) (fun h65 => ?_)
  · skip
    simp only [gt_iff_lt, decide_eq_true_eq] at h65
    refine WC.seq (WC.region ?_)
    refine WR.assign rfl rfl ?_
    refine WR.nil (WN.seq ?_)
    refine WC.retR rfl rfl ?_
    exact ⟨false, rfl, (fun h => by cases h), hS⟩
  · skip
    simp only [gt_iff_lt, decide_eq_false_iff_not, Int.not_lt] at h65
    have hn31 : n ≤ 2147483647 := by omega
    refine WC.skip (WN.seq ?_)
    refine WC.seq (WC.seq (WC.region ?_))
    refine WR.move rfl rfl ?_
    refine WR.lenS rfl Tryz.underlying23 rfl ?_
    refine WR.move rfl rfl ?_
    refine WR.nil (WN.seq (WC.block ?_))
    refine WC.loop (fun i : Nat => [(8, .slice A n cl), (9, .int .i64 (n : Nat)), (10, .int .i64 (i : Nat))]) (fun k i w' => i + k = n ∧ H ≤ w'.heap.size ∧ Same [] w w' ∧ RS w' H (.slice A n cl) rs) n 0 ⟨rfl, rfl, rfl, trivial⟩ ⟨by omega, hw0, hS, hrs⟩ ?_
    clear hS hw0 hrs
    rintro k i w1 ⟨hk, hw0, hS, hrs⟩
    rcases (show i < n ∨ i = n by omega) with hi | rfl
    · skip
      obtain ⟨g, o, rfl, hgH, hgl, hcs⟩ := hrs.lit (by omega)
      have hci := hcs i (by omega)
      refine WC.seq (WC.region ?_)
      refine WR.bin rfl rfl rfl rfl ?_
      refine WR.nil (WN.seq (WC.seq ?_))
      refine WC.cond rfl (fun h68 => ?_) (fun h68 => ?_)
      · skip
        simp only [decide_eq_true_eq] at h68
        refine WC.skip (WN.seq ?_)
        refine WC.seq (WC.block ?_)
        refine WC.seq (WC.region ?_)
        refine WR.idx rfl rfl Tryz.underlying23 sz46 (by omega) (by omega) rfl ?_
        refine WR.loadAgg rfl Tryz.underlying46 rfl sz46 (show Rd _ g (o + Int.toNat ((i : Nat) : Int) * 3) 3 (rF _) from hci) rfl ?_
        refine WR.alloc run_zv rfl rfl ?_
        intro w2 hn hs
        obtain ⟨bR, hbR⟩ : ∃ x, x = w1.heap.size := ⟨_, rfl⟩
        have hR0 : Row w2 bR 46 3 (fun i => (#[.bool false, .int .i64 0, .slice none 0 0] : Array Value).getD i undef) := by
          rw [hn, hbR]
          exact Row.alloc _ _ _
        rw [← hbR]
        have hwR := hw0
        rw [← hbR] at hwR
        replace hw0 := Nat.le_trans hw0 hs.size
        replace hS := hS.trans hs (by simp <;> omega)
        replace hrs := hrs.same hs (by simp <;> omega)
        clear hn hs
        refine WR.storeAgg (n := 3) rfl rfl sz46 rfl (agg_one fun i hi => rF_one _ hi) hR0 (by decide) ?_
        intro w3 hn hs
        have hR : RC w3 bR _ := hn.congr fun i hi => ovr_range hi
        replace hw0 := Nat.le_trans hw0 hs.size
        replace hS := hS.trans hs (by simp <;> omega)
        replace hrs := hrs.same hs (by simp <;> omega)
        clear hn hs hR0
        refine WR.nil (WN.seq ?_)
        refine WC.seq (WC.region ?_)
        refine WR.loadAgg rfl Tryz.underlying46 rfl sz46 (hR.rd) rfl ?_
        refine WR.callF rfl rfl cf14 rfl rfl (zfits6 (rs.getD i default)) ?_
        rintro _ w4 ⟨bb, rfl, hs⟩
        replace hw0 := Nat.le_trans hw0 hs.size
        replace hS := hS.trans hs (by simp <;> omega)
        replace hrs := hrs.same hs (by simp <;> omega)
        replace hR := hR.same hs (by first | (simp <;> omega) | (intro hm; have := hS9 _ hm; omega) | (intro g hm; have := hS9 _ hm; omega) | (intro g hm; have := hS9 _ hm; exact .inr (by omega)))
        refine WR.notOp rfl rfl ?_
        refine WR.nil (WN.seq ?_)
        refine WC.cond rfl (fun h69 => ?_) (fun h69 => ?_)
        · skip
          refine WC.seq (WC.region ?_)
          refine WR.assign rfl rfl ?_
          refine WR.nil (WN.seq ?_)
          refine WC.retR rfl rfl ?_
          exact ⟨false, rfl, (fun h => by cases h), hS⟩
        · skip
          refine WC.skip (WN.block ?_)
          refine WN.seq (WC.region ?_)
          (refine WR.bin rfl rfl (ar_add (wrap_i64 ?_ ?_)) rfl ?_; (omega); (omega))
          refine WR.move rfl rfl ?_
          refine WR.nil ?_
          exact WN.loop (k - 1) (i + 1) (by omega) ⟨rfl, rfl, kint rfl (by omega), trivial⟩ ⟨by omega, hw0, hS, hrs⟩
      · skip
        simp only [decide_eq_false_iff_not, Int.not_lt] at h68
        omega
    · skip
      refine WC.seq (WC.region ?_)
      refine WR.bin rfl rfl rfl rfl ?_
      refine WR.nil (WN.seq (WC.seq ?_))
      refine WC.cond rfl (fun h68 => ?_) (fun h68 => ?_)
      · skip
        simp only [decide_eq_true_eq] at h68
        omega
      · skip
        simp only [decide_eq_false_iff_not, Int.not_lt] at h68
        refine WC.exit rfl ?_
        refine WN.seq (WC.seq (WC.region ?_))
        refine WR.assign rfl rfl ?_
        refine WR.nil (WN.seq ?_)
        refine WC.retR rfl rfl ?_
        exact ⟨true, rfl, fun _ => by omega, hS⟩

set_option maxHeartbeats 200000 in
theorem runsFitBig {w : World} (rs : List RR) (W n cl H : Nat) (A : Option Addr) (hH : H = w.heap.size) (hrs : RS w H (.slice A n cl) rs) (hn : n = rs.length) (hW1 : 1 ≤ W) (hW2 : W ≤ 20) (hbig : 40 < n) :
    Ret Tryz.prog 27 #[.slice A n cl, .int .i64 (W : Nat)] w fun v w' => ∃ u b, v = .tuple #[u, .bool b] ∧ (b = true → n ≤ 40 ∧ (∀ j, j < rs.length → Rl.Fit W (rs.getD j default).run) ∧ Own w' H 33 u (u64s (Rl.exp (rs.map RR.run)))) ∧ Same [] w w' := by
  have hS := Same.refl [] w
  refine Ret.enter (vs := [.slice A n cl, .int .i64 (W : Nat)]) Tryz.func27 Tryz.ntmps27 rfl rfl ?_
  refine WC.seq (WC.region ?_)
  refine WR.assign rfl rfl ?_
  refine WR.assign rfl rfl ?_
  refine WR.nil (WN.seq ?_)
  refine WC.seq (WC.region ?_)
  refine WR.assign rfl rfl ?_
  refine WR.nil (WN.seq ?_)
  refine WC.seq (WC.seq (WC.region ?_))
  refine WR.move rfl rfl ?_
  refine WR.lenS rfl Tryz.underlying23 rfl ?_
  refine WR.bin rfl rfl rfl rfl ?_
  refine WR.move rfl rfl ?_
  refine WR.pass rfl rfl rfl (by first | rfl | assumption | (simp only [Bool.not_true, Bool.not_false, decide_eq_true_eq, decide_eq_false_iff_not, beq_iff_eq, bne_iff_ne, beq_eq_false_iff_ne, bne_eq_false_iff_eq, gt_iff_lt, ge_iff_le]; omega) | simp_all) ?_
  refine WR.pass rfl rfl rfl (by first | rfl | assumption | (simp only [Bool.not_true, Bool.not_false, decide_eq_true_eq, decide_eq_false_iff_not, beq_iff_eq, bne_iff_ne, beq_eq_false_iff_ne, bne_eq_false_iff_eq, gt_iff_lt, ge_iff_le]; omega) | simp_all) ?_
  refine WR.pickT rfl (by first | rfl | assumption | (simp only [Bool.not_true, Bool.not_false, decide_eq_true_eq, decide_eq_false_iff_not, beq_iff_eq, bne_iff_ne, beq_eq_false_iff_ne, bne_eq_false_iff_eq, gt_iff_lt, ge_iff_le]; omega) | simp_all) rfl rfl ?_
  refine WR.move rfl rfl ?_
  refine WR.pass rfl rfl rfl rfl ?_
  refine WR.pass rfl rfl rfl rfl ?_
  refine WR.pickT rfl rfl rfl rfl ?_
  refine WR.nil (WN.seq ?_)
  refine WC.cond rfl (fun h149 => ?_) (fun h149 => ?_)
  · skip
    simp only at h149
    refine WC.seq (WC.region ?_)
    refine WR.assign rfl rfl ?_
    refine WR.assign rfl rfl ?_
    refine WR.nil (WN.seq ?_)
    refine WC.retR rfl rfl ?_
    exact ⟨_, false, rfl, (fun h => by cases h), hS⟩
  · skip
    cases h149

set_option maxHeartbeats 1600000 in
theorem runsFit {w : World} (rs : List RR) (W n cl H : Nat) (A : Option Addr) (hH : H = w.heap.size) (hrs : RS w H (.slice A n cl) rs) (hn : n = rs.length) (hW1 : 1 ≤ W) (hW2 : W ≤ 20) (hn40 : n ≤ 40) :
    Ret Tryz.prog 27 #[.slice A n cl, .int .i64 (W : Nat)] w fun v w' => ∃ u b, v = .tuple #[u, .bool b] ∧ (b = true → n ≤ 40 ∧ (∀ j, j < rs.length → Rl.Fit W (rs.getD j default).run) ∧ Own w' H 33 u (u64s (Rl.exp (rs.map RR.run)))) ∧ Same [] w w' := by
  have hS := Same.refl [] w
  have hw0 := Nat.le_of_eq hH
  refine Ret.enter (vs := [.slice A n cl, .int .i64 (W : Nat)]) Tryz.func27 Tryz.ntmps27 rfl rfl ?_
  refine WC.seq (WC.region ?_)
  refine WR.assign rfl rfl ?_
  refine WR.assign rfl rfl ?_
  refine WR.nil (WN.seq ?_)
  refine WC.seq (WC.region ?_)
  refine WR.assign rfl rfl ?_
  refine WR.nil (WN.seq ?_)
  refine WC.seq (WC.seq (WC.region ?_))
  refine WR.move rfl rfl ?_
  refine WR.lenS rfl Tryz.underlying23 rfl ?_
  refine WR.bin rfl rfl rfl rfl ?_
  refine WR.move rfl rfl ?_
  refine WR.take rfl rfl (by first | rfl | assumption | (simp only [Bool.not_true, Bool.not_false, decide_eq_true_eq, decide_eq_false_iff_not, beq_iff_eq, bne_iff_ne, beq_eq_false_iff_ne, bne_eq_false_iff_eq, gt_iff_lt, ge_iff_le]; omega) | simp_all) ?_
  refine WR.move rfl rfl ?_
  refine WR.take rfl rfl (by first | rfl | assumption | (simp only [Bool.not_true, Bool.not_false, decide_eq_true_eq, decide_eq_false_iff_not, beq_iff_eq, bne_iff_ne, beq_eq_false_iff_ne, bne_eq_false_iff_eq, gt_iff_lt, ge_iff_le]; omega) | simp_all) ?_
  refine WR.bin rfl rfl rfl rfl ?_
  refine WR.pickF rfl (by first | rfl | assumption | (simp only [Bool.not_true, Bool.not_false, decide_eq_true_eq, decide_eq_false_iff_not, beq_iff_eq, bne_iff_ne, beq_eq_false_iff_ne, bne_eq_false_iff_eq, gt_iff_lt, ge_iff_le]; omega) | simp_all) rfl rfl ?_
  refine WR.move rfl rfl ?_
  refine WR.take rfl rfl (by first | rfl | assumption | (simp only [Bool.not_true, Bool.not_false, decide_eq_true_eq, decide_eq_false_iff_not, beq_iff_eq, bne_iff_ne, beq_eq_false_iff_ne, bne_eq_false_iff_eq, gt_iff_lt, ge_iff_le]; omega) | simp_all) ?_
  refine WR.move rfl rfl ?_
  refine WR.take rfl rfl (by first | rfl | assumption | (simp only [Bool.not_true, Bool.not_false, decide_eq_true_eq, decide_eq_false_iff_not, beq_iff_eq, bne_iff_ne, beq_eq_false_iff_ne, bne_eq_false_iff_eq, gt_iff_lt, ge_iff_le]; omega) | simp_all) ?_
  refine WR.bin rfl rfl rfl rfl ?_
  refine WR.pickF rfl (by first | rfl | assumption | (simp only [Bool.not_true, Bool.not_false, decide_eq_true_eq, decide_eq_false_iff_not, beq_iff_eq, bne_iff_ne, beq_eq_false_iff_ne, bne_eq_false_iff_eq, gt_iff_lt, ge_iff_le]; omega) | simp_all) rfl rfl ?_
  refine WR.nil (WN.seq ?_)
  refine WC.cond rfl (fun h149 => ?_) (fun h149 => ?_)
  · skip
    (first | (cases h149; done) | (simp at h149; omega))
  · skip
    simp only [gt_iff_lt, decide_eq_false_iff_not, Int.not_lt] at h149
    refine WC.skip (WN.seq ?_)
    refine WC.seq (WC.seq (WC.region ?_))
    refine WR.move rfl rfl ?_
    refine WR.lenS rfl Tryz.underlying23 rfl ?_
    refine WR.move rfl rfl ?_
    refine WR.nil (WN.seq (WC.block ?_))
    have hO : Own w H 33 (.slice none 0 0) (u64s (Rl.exp ((rs.take 0).map RR.run))) := Own.nil _ _ _
    refine WC.loop (fun s : Nat × Value => [(1, .int .i64 (W : Nat)), (6, s.2), (24, .slice A n cl), (25, .int .i64 (n : Nat)), (26, .int .i64 (s.1 : Nat))]) (fun k s w' => s.1 + k = n ∧ H ≤ w'.heap.size ∧ Same [] w w' ∧ RS w' H (.slice A n cl) rs ∧ (∀ j, j < s.1 → Rl.Fit W (rs.getD j default).run) ∧ Own w' H 33 s.2 (u64s (Rl.exp ((rs.take s.1).map RR.run)))) n (0, .slice none 0 0) ⟨rfl, rfl, rfl, rfl, rfl, trivial⟩ ⟨by simp, hw0, hS, hrs, fun j hj => absurd hj (Nat.not_lt_zero j), hO⟩ ?_
    clear hS hw0 hrs hO
    rintro k ⟨i, u⟩ w1 ⟨hk, hw0, hS, hrs, hfit, hO⟩
    simp only at hk hfit hO
    rcases (show i = n ∨ i < n ∧ ((rs.getD i default).c < 1 ∨ 1 ≤ (rs.getD i default).c ∧ ((rs.getD i default).p = true ∧ (20 < (rs.getD i default).c ∨ (rs.getD i default).c ≤ 20 ∧ (8 * (rs.getD i default).c < (rs.getD i default).xs.length ∨ (rs.getD i default).xs.length ≤ 8 * (rs.getD i default).c)) ∨ (rs.getD i default).p = false ∧ (300 < (rs.getD i default).c ∨ (rs.getD i default).c ≤ 300 ∧ ((rs.getD i default).xs.length ≠ 1 ∨ (rs.getD i default).xs.length = 1)))) by cases (rs.getD i default).p <;> simp <;> omega) with rfl | ⟨hi, hc | ⟨hc1, ⟨hc, hc2 | ⟨hc2, hc3 | hc3⟩⟩ | ⟨hc, hc2 | ⟨hc2, hc3 | hc3⟩⟩⟩⟩
    · skip
      refine WC.seq (WC.region ?_)
      refine WR.bin rfl rfl rfl rfl ?_
      refine WR.nil (WN.seq (WC.seq ?_))
      refine WC.cond rfl (fun h152 => ?_) (fun h152 => ?_)
      · skip
        simp only [decide_eq_true_eq] at h152
        omega
      · skip
        simp only [decide_eq_false_iff_not, Int.not_lt] at h152
        refine WC.exit rfl ?_
        refine WN.seq (WC.seq (WC.region ?_))
        refine WR.move rfl rfl ?_
        refine WR.assign rfl rfl ?_
        refine WR.assign rfl rfl ?_
        refine WR.nil (WN.seq ?_)
        refine WC.retR rfl rfl ?_
        refine ⟨u, true, rfl, fun _ => ⟨hn40, fun j hj => hfit j (by omega), ?_⟩, hS⟩
        rw [hn, List.take_length] at hO
        exact hO
    · skip
      obtain ⟨g, o, rfl, hgH, hgl, hcs⟩ := hrs.lit (by omega)
      have hci := hcs i (by omega)
      have hok := hrs.ok i (by omega)
      have htk := take_snocR (ms := rs) (i := i) (d := default) (by omega)
      clear hcs
      obtain ⟨r, hr⟩ : ∃ r, r = rs.getD i default := ⟨_, rfl⟩
      rw [← hr] at hci hok htk
      (try rw [← hr] at hc)
      (try rw [← hr] at hc1)
      (try rw [← hr] at hc2)
      (try rw [← hr] at hc3)
      obtain ⟨p, ci, Ar, cr, xs⟩ := r
      (try simp only at hc)
      (try simp only at hc1)
      (try simp only at hc2)
      (try simp only at hc3)
      have hc63 := hok.c1
      have hc64 := hok.c0
      simp only at hc63 hc64
      have hxl63 := hok.len
      simp only at hxl63
      have hxu : (u64s xs).length = xs.length := u64s_length xs
      obtain ⟨E, hE⟩ : ∃ E, E = Rl.exp ((rs.take i).map RR.run) := ⟨_, rfl⟩
      have hel : E.length ≤ 12000 := by
        rw [hE]
        have h1 := Rl.exp_len (W := W) (rs := (rs.take i).map RR.run) (fun r hr => by
          obtain ⟨x, hx, rfl⟩ := List.mem_map.1 hr
          obtain ⟨j, hj, rfl⟩ := List.getElem_of_mem hx
          simp only [List.length_take] at hj
          have := hfit j (by omega)
          rw [List.getElem_take]
          rwa [List.getD_eq_getElem?_getD, List.getElem?_eq_getElem (by omega)] at this)
        have h2 : ((rs.take i).map RR.run).length ≤ 40 := by simp; omega
        omega
      rw [← hE] at hO
      refine WC.seq (WC.region ?_)
      refine WR.bin rfl rfl rfl rfl ?_
      refine WR.nil (WN.seq (WC.seq ?_))
      refine WC.cond rfl (fun h152 => ?_) (fun h152 => ?_)
      · skip
        simp only [decide_eq_true_eq] at h152
        refine WC.skip (WN.seq ?_)
        refine WC.seq (WC.block ?_)
        refine WC.seq (WC.region ?_)
        refine WR.idx rfl rfl Tryz.underlying23 sz46 (by omega) (by omega) rfl ?_
        refine WR.loadAgg rfl Tryz.underlying46 rfl sz46 (show Rd _ g (o + Int.toNat ((i : Nat) : Int) * 3) 3 (rF _) from hci) rfl ?_
        refine WR.alloc run_zv rfl rfl ?_
        intro w2 hn hs
        obtain ⟨bR, hbR⟩ : ∃ x, x = w1.heap.size := ⟨_, rfl⟩
        have hR0 : Row w2 bR 46 3 (fun i => (#[.bool false, .int .i64 0, .slice none 0 0] : Array Value).getD i undef) := by
          rw [hn, hbR]
          exact Row.alloc _ _ _
        rw [← hbR]
        have hwR := hw0
        rw [← hbR] at hwR
        have hubR := fun (q : Nat) (h : u.ownBlock = some q) => (World.ownsRow.lt hO q h).2
        rw [← hbR] at hubR
        replace hw0 := Nat.le_trans hw0 hs.size
        replace hS := hS.trans hs (by simp <;> omega)
        replace hrs := hrs.same hs (by simp <;> omega)
        replace hok := hok.same hs (by first | (simp <;> omega) | (intro hm; have := hS9 _ hm; omega) | (intro g hm; have := hS9 _ hm; omega) | (intro g hm; have := hS9 _ hm; exact .inr (by omega)))
        replace hO := hO.keep hs (by first | (intro g hm; simp; done) | (intro g hm; have := hub g hm; simp <;> omega))
        clear hn hs
        refine WR.storeAgg (n := 3) rfl rfl sz46 rfl (agg_one fun i hi => rF_one _ hi) hR0 (by decide) ?_
        intro w3 hn hs
        have hR : RC w3 bR _ := hn.congr fun i hi => ovr_range hi
        replace hw0 := Nat.le_trans hw0 hs.size
        replace hS := hS.trans hs (by simp <;> omega)
        replace hrs := hrs.same hs (by simp <;> omega)
        replace hO := hO.keep hs (fun g hm => by have := hubR g hm; simp <;> omega)
        replace hok := hok.same hs (by simp <;> omega)
        clear hn hs hR0
        refine WR.nil (WN.seq ?_)
        refine WC.seq (WC.seq (WC.region ?_))
        refine WR.field rfl fa46_1 rfl ?_
        refine WR.load rfl Tryz.underlying3 rfl (show _ = some (Value.int .i64 ci) from hR.c1) rfl ?_
        refine WR.bin rfl rfl rfl rfl ?_
        refine WR.move rfl rfl ?_
        refine WR.pass rfl rfl rfl (by first | rfl | assumption | (simp only [Bool.not_true, Bool.not_false, decide_eq_true_eq, decide_eq_false_iff_not, beq_iff_eq, bne_iff_ne, beq_eq_false_iff_ne, bne_eq_false_iff_eq, gt_iff_lt, ge_iff_le]; omega) | simp_all) ?_
        refine WR.pass rfl rfl rfl (by first | rfl | assumption | (simp only [Bool.not_true, Bool.not_false, decide_eq_true_eq, decide_eq_false_iff_not, beq_iff_eq, bne_iff_ne, beq_eq_false_iff_ne, bne_eq_false_iff_eq, gt_iff_lt, ge_iff_le]; omega) | simp_all) ?_
        refine WR.pass rfl rfl rfl (by first | rfl | assumption | (simp only [Bool.not_true, Bool.not_false, decide_eq_true_eq, decide_eq_false_iff_not, beq_iff_eq, bne_iff_ne, beq_eq_false_iff_ne, bne_eq_false_iff_eq, gt_iff_lt, ge_iff_le]; omega) | simp_all) ?_
        refine WR.passU rfl rfl rfl ?_
        refine WR.passU rfl rfl rfl ?_
        refine WR.passU rfl rfl rfl ?_
        refine WR.passU rfl rfl rfl ?_
        refine WR.passU rfl rfl rfl ?_
        refine WR.passU rfl rfl rfl ?_
        refine WR.passU rfl rfl rfl ?_
        refine WR.passU rfl rfl rfl ?_
        refine WR.passU rfl rfl rfl ?_
        refine WR.passU rfl rfl rfl ?_
        refine WR.passU rfl rfl rfl ?_
        refine WR.passU rfl rfl rfl ?_
        refine WR.pass rfl rfl rfl (by first | rfl | assumption | (simp only [Bool.not_true, Bool.not_false, decide_eq_true_eq, decide_eq_false_iff_not, beq_iff_eq, bne_iff_ne, beq_eq_false_iff_ne, bne_eq_false_iff_eq, gt_iff_lt, ge_iff_le]; omega) | simp_all) ?_
        refine WR.pickT rfl (by first | rfl | assumption | (simp only [Bool.not_true, Bool.not_false, decide_eq_true_eq, decide_eq_false_iff_not, beq_iff_eq, bne_iff_ne, beq_eq_false_iff_ne, bne_eq_false_iff_eq, gt_iff_lt, ge_iff_le]; omega) | simp_all) rfl rfl ?_
        refine WR.move rfl rfl ?_
        refine WR.pass rfl rfl rfl rfl ?_
        refine WR.pass rfl rfl rfl rfl ?_
        refine WR.pass rfl rfl rfl rfl ?_
        refine WR.pass rfl rfl rfl rfl ?_
        refine WR.passU rfl rfl rfl ?_
        refine WR.passU rfl rfl rfl ?_
        refine WR.passU rfl rfl rfl ?_
        refine WR.passU rfl rfl rfl ?_
        refine WR.passU rfl rfl rfl ?_
        refine WR.passU rfl rfl rfl ?_
        refine WR.passU rfl rfl rfl ?_
        refine WR.passU rfl rfl rfl ?_
        refine WR.passU rfl rfl rfl ?_
        refine WR.pass rfl rfl rfl rfl ?_
        refine WR.pickT rfl rfl rfl rfl ?_
        refine WR.nil (WN.seq ?_)
        refine WC.cond rfl (fun h153 => ?_) (fun h153 => ?_)
        · skip
          simp only at h153
          refine WC.seq (WC.region ?_)
          refine WR.assign rfl rfl ?_
          refine WR.assign rfl rfl ?_
          refine WR.nil (WN.seq ?_)
          refine WC.retR rfl rfl ?_
          exact ⟨_, false, rfl, (fun h => by cases h), hS⟩
        · skip
          (first | (cases h153; done) | (simp at h153; omega))
      · skip
        simp only [decide_eq_false_iff_not, Int.not_lt] at h152
        omega
    · skip
      obtain ⟨g, o, rfl, hgH, hgl, hcs⟩ := hrs.lit (by omega)
      have hci := hcs i (by omega)
      have hok := hrs.ok i (by omega)
      have htk := take_snocR (ms := rs) (i := i) (d := default) (by omega)
      clear hcs
      obtain ⟨r, hr⟩ : ∃ r, r = rs.getD i default := ⟨_, rfl⟩
      rw [← hr] at hci hok htk
      (try rw [← hr] at hc)
      (try rw [← hr] at hc1)
      (try rw [← hr] at hc2)
      (try rw [← hr] at hc3)
      obtain ⟨p, ci, Ar, cr, xs⟩ := r
      (try simp only at hc)
      (try simp only at hc1)
      (try simp only at hc2)
      (try simp only at hc3)
      have hc63 := hok.c1
      have hc64 := hok.c0
      simp only at hc63 hc64
      have hxl63 := hok.len
      simp only at hxl63
      have hxu : (u64s xs).length = xs.length := u64s_length xs
      obtain ⟨E, hE⟩ : ∃ E, E = Rl.exp ((rs.take i).map RR.run) := ⟨_, rfl⟩
      have hel : E.length ≤ 12000 := by
        rw [hE]
        have h1 := Rl.exp_len (W := W) (rs := (rs.take i).map RR.run) (fun r hr => by
          obtain ⟨x, hx, rfl⟩ := List.mem_map.1 hr
          obtain ⟨j, hj, rfl⟩ := List.getElem_of_mem hx
          simp only [List.length_take] at hj
          have := hfit j (by omega)
          rw [List.getElem_take]
          rwa [List.getD_eq_getElem?_getD, List.getElem?_eq_getElem (by omega)] at this)
        have h2 : ((rs.take i).map RR.run).length ≤ 40 := by simp; omega
        omega
      rw [← hE] at hO
      subst hc
      obtain ⟨c, rfl⟩ : ∃ c : Nat, ci = (c : Int) := ⟨ci.toNat, by omega⟩
      refine WC.seq (WC.region ?_)
      refine WR.bin rfl rfl rfl rfl ?_
      refine WR.nil (WN.seq (WC.seq ?_))
      refine WC.cond rfl (fun h152 => ?_) (fun h152 => ?_)
      · skip
        simp only [decide_eq_true_eq] at h152
        refine WC.skip (WN.seq ?_)
        refine WC.seq (WC.block ?_)
        refine WC.seq (WC.region ?_)
        refine WR.idx rfl rfl Tryz.underlying23 sz46 (by omega) (by omega) rfl ?_
        refine WR.loadAgg rfl Tryz.underlying46 rfl sz46 (show Rd _ g (o + Int.toNat ((i : Nat) : Int) * 3) 3 (rF _) from hci) rfl ?_
        refine WR.alloc run_zv rfl rfl ?_
        intro w2 hn hs
        obtain ⟨bR, hbR⟩ : ∃ x, x = w1.heap.size := ⟨_, rfl⟩
        have hR0 : Row w2 bR 46 3 (fun i => (#[.bool false, .int .i64 0, .slice none 0 0] : Array Value).getD i undef) := by
          rw [hn, hbR]
          exact Row.alloc _ _ _
        rw [← hbR]
        have hwR := hw0
        rw [← hbR] at hwR
        have hubR := fun (q : Nat) (h : u.ownBlock = some q) => (World.ownsRow.lt hO q h).2
        rw [← hbR] at hubR
        replace hw0 := Nat.le_trans hw0 hs.size
        replace hS := hS.trans hs (by simp <;> omega)
        replace hrs := hrs.same hs (by simp <;> omega)
        replace hok := hok.same hs (by first | (simp <;> omega) | (intro hm; have := hS9 _ hm; omega) | (intro g hm; have := hS9 _ hm; omega) | (intro g hm; have := hS9 _ hm; exact .inr (by omega)))
        replace hO := hO.keep hs (by first | (intro g hm; simp; done) | (intro g hm; have := hub g hm; simp <;> omega))
        clear hn hs
        refine WR.storeAgg (n := 3) rfl rfl sz46 rfl (agg_one fun i hi => rF_one _ hi) hR0 (by decide) ?_
        intro w3 hn hs
        have hR : RC w3 bR _ := hn.congr fun i hi => ovr_range hi
        replace hw0 := Nat.le_trans hw0 hs.size
        replace hS := hS.trans hs (by simp <;> omega)
        replace hrs := hrs.same hs (by simp <;> omega)
        replace hO := hO.keep hs (fun g hm => by have := hubR g hm; simp <;> omega)
        replace hok := hok.same hs (by simp <;> omega)
        clear hn hs hR0
        refine WR.nil (WN.seq ?_)
        refine WC.seq (WC.seq (WC.region ?_))
        refine WR.field rfl fa46_1 rfl ?_
        refine WR.load rfl Tryz.underlying3 rfl (show _ = some (Value.int .i64 ((c : Nat) : Int)) from hR.c1) rfl ?_
        refine WR.bin rfl rfl rfl rfl ?_
        refine WR.move rfl rfl ?_
        refine WR.take rfl rfl (by first | rfl | assumption | (simp only [Bool.not_true, Bool.not_false, decide_eq_true_eq, decide_eq_false_iff_not, beq_iff_eq, bne_iff_ne, beq_eq_false_iff_ne, bne_eq_false_iff_eq, gt_iff_lt, ge_iff_le]; omega) | simp_all) ?_
        refine WR.field rfl fa46_0 rfl ?_
        refine WR.take rfl rfl (by first | rfl | assumption | (simp only [Bool.not_true, Bool.not_false, decide_eq_true_eq, decide_eq_false_iff_not, beq_iff_eq, bne_iff_ne, beq_eq_false_iff_ne, bne_eq_false_iff_eq, gt_iff_lt, ge_iff_le]; omega) | simp_all) ?_
        refine WR.load rfl Tryz.underlying4 rfl (show _ = some (Value.bool true) from hR.c0) rfl ?_
        refine WR.take rfl rfl (by first | rfl | assumption | (simp only [Bool.not_true, Bool.not_false, decide_eq_true_eq, decide_eq_false_iff_not, beq_iff_eq, bne_iff_ne, beq_eq_false_iff_ne, bne_eq_false_iff_eq, gt_iff_lt, ge_iff_le]; omega) | simp_all) ?_
        refine WR.move rfl rfl ?_
        refine WR.take rfl rfl rfl ?_
        refine WR.field rfl fa46_1 rfl ?_
        refine WR.take rfl rfl rfl ?_
        refine WR.load rfl Tryz.underlying3 rfl (show _ = some (Value.int .i64 ((c : Nat) : Int)) from hR.c1) rfl ?_
        refine WR.take rfl rfl rfl ?_
        refine WR.bin rfl rfl rfl rfl ?_
        refine WR.take rfl rfl rfl ?_
        refine WR.move rfl rfl ?_
        refine WR.pass rfl rfl rfl (by first | rfl | assumption | (simp only [Bool.not_true, Bool.not_false, decide_eq_true_eq, decide_eq_false_iff_not, beq_iff_eq, bne_iff_ne, beq_eq_false_iff_ne, bne_eq_false_iff_eq, gt_iff_lt, ge_iff_le]; omega) | simp_all) ?_
        refine WR.pass rfl rfl rfl (by first | rfl | assumption | (simp only [Bool.not_true, Bool.not_false, decide_eq_true_eq, decide_eq_false_iff_not, beq_iff_eq, bne_iff_ne, beq_eq_false_iff_ne, bne_eq_false_iff_eq, gt_iff_lt, ge_iff_le]; omega) | simp_all) ?_
        refine WR.pass rfl rfl rfl (by first | rfl | assumption | (simp only [Bool.not_true, Bool.not_false, decide_eq_true_eq, decide_eq_false_iff_not, beq_iff_eq, bne_iff_ne, beq_eq_false_iff_ne, bne_eq_false_iff_eq, gt_iff_lt, ge_iff_le]; omega) | simp_all) ?_
        refine WR.pass rfl rfl rfl (by first | rfl | assumption | (simp only [Bool.not_true, Bool.not_false, decide_eq_true_eq, decide_eq_false_iff_not, beq_iff_eq, bne_iff_ne, beq_eq_false_iff_ne, bne_eq_false_iff_eq, gt_iff_lt, ge_iff_le]; omega) | simp_all) ?_
        refine WR.pass rfl rfl rfl (by first | rfl | assumption | (simp only [Bool.not_true, Bool.not_false, decide_eq_true_eq, decide_eq_false_iff_not, beq_iff_eq, bne_iff_ne, beq_eq_false_iff_ne, bne_eq_false_iff_eq, gt_iff_lt, ge_iff_le]; omega) | simp_all) ?_
        refine WR.pass rfl rfl rfl (by first | rfl | assumption | (simp only [Bool.not_true, Bool.not_false, decide_eq_true_eq, decide_eq_false_iff_not, beq_iff_eq, bne_iff_ne, beq_eq_false_iff_ne, bne_eq_false_iff_eq, gt_iff_lt, ge_iff_le]; omega) | simp_all) ?_
        refine WR.pass rfl rfl rfl (by first | rfl | assumption | (simp only [Bool.not_true, Bool.not_false, decide_eq_true_eq, decide_eq_false_iff_not, beq_iff_eq, bne_iff_ne, beq_eq_false_iff_ne, bne_eq_false_iff_eq, gt_iff_lt, ge_iff_le]; omega) | simp_all) ?_
        refine WR.take rfl rfl rfl ?_
        refine WR.pickT rfl (by first | rfl | assumption | (simp only [Bool.not_true, Bool.not_false, decide_eq_true_eq, decide_eq_false_iff_not, beq_iff_eq, bne_iff_ne, beq_eq_false_iff_ne, bne_eq_false_iff_eq, gt_iff_lt, ge_iff_le]; omega) | simp_all) rfl rfl ?_
        refine WR.take rfl rfl (by first | rfl | assumption | (simp only [Bool.not_true, Bool.not_false, decide_eq_true_eq, decide_eq_false_iff_not, beq_iff_eq, bne_iff_ne, beq_eq_false_iff_ne, bne_eq_false_iff_eq, gt_iff_lt, ge_iff_le]; omega) | simp_all) ?_
        refine WR.pickT rfl rfl rfl rfl ?_
        refine WR.pickF rfl (by first | rfl | assumption | (simp only [Bool.not_true, Bool.not_false, decide_eq_true_eq, decide_eq_false_iff_not, beq_iff_eq, bne_iff_ne, beq_eq_false_iff_ne, bne_eq_false_iff_eq, gt_iff_lt, ge_iff_le]; omega) | simp_all) rfl rfl ?_
        refine WR.move rfl rfl ?_
        refine WR.pass rfl rfl rfl rfl ?_
        refine WR.pass rfl rfl rfl rfl ?_
        refine WR.pass rfl rfl rfl rfl ?_
        refine WR.pass rfl rfl rfl rfl ?_
        refine WR.passU rfl rfl rfl ?_
        refine WR.passU rfl rfl rfl ?_
        refine WR.passU rfl rfl rfl ?_
        refine WR.passU rfl rfl rfl ?_
        refine WR.passU rfl rfl rfl ?_
        refine WR.passU rfl rfl rfl ?_
        refine WR.passU rfl rfl rfl ?_
        refine WR.passU rfl rfl rfl ?_
        refine WR.passU rfl rfl rfl ?_
        refine WR.pass rfl rfl rfl rfl ?_
        refine WR.pickT rfl rfl rfl rfl ?_
        refine WR.nil (WN.seq ?_)
        refine WC.cond rfl (fun h153 => ?_) (fun h153 => ?_)
        · skip
          simp only at h153
          refine WC.seq (WC.region ?_)
          refine WR.assign rfl rfl ?_
          refine WR.assign rfl rfl ?_
          refine WR.nil (WN.seq ?_)
          refine WC.retR rfl rfl ?_
          exact ⟨_, false, rfl, (fun h => by cases h), hS⟩
        · skip
          (first | (cases h153; done) | (simp at h153; omega))
      · skip
        simp only [decide_eq_false_iff_not, Int.not_lt] at h152
        omega
    · skip
      obtain ⟨g, o, rfl, hgH, hgl, hcs⟩ := hrs.lit (by omega)
      have hci := hcs i (by omega)
      have hok := hrs.ok i (by omega)
      have htk := take_snocR (ms := rs) (i := i) (d := default) (by omega)
      clear hcs
      obtain ⟨r, hr⟩ : ∃ r, r = rs.getD i default := ⟨_, rfl⟩
      rw [← hr] at hci hok htk
      (try rw [← hr] at hc)
      (try rw [← hr] at hc1)
      (try rw [← hr] at hc2)
      (try rw [← hr] at hc3)
      obtain ⟨p, ci, Ar, cr, xs⟩ := r
      (try simp only at hc)
      (try simp only at hc1)
      (try simp only at hc2)
      (try simp only at hc3)
      have hc63 := hok.c1
      have hc64 := hok.c0
      simp only at hc63 hc64
      have hxl63 := hok.len
      simp only at hxl63
      have hxu : (u64s xs).length = xs.length := u64s_length xs
      obtain ⟨E, hE⟩ : ∃ E, E = Rl.exp ((rs.take i).map RR.run) := ⟨_, rfl⟩
      have hel : E.length ≤ 12000 := by
        rw [hE]
        have h1 := Rl.exp_len (W := W) (rs := (rs.take i).map RR.run) (fun r hr => by
          obtain ⟨x, hx, rfl⟩ := List.mem_map.1 hr
          obtain ⟨j, hj, rfl⟩ := List.getElem_of_mem hx
          simp only [List.length_take] at hj
          have := hfit j (by omega)
          rw [List.getElem_take]
          rwa [List.getD_eq_getElem?_getD, List.getElem?_eq_getElem (by omega)] at this)
        have h2 : ((rs.take i).map RR.run).length ≤ 40 := by simp; omega
        omega
      rw [← hE] at hO
      subst hc
      obtain ⟨c, rfl⟩ : ∃ c : Nat, ci = (c : Int) := ⟨ci.toNat, by omega⟩
      refine WC.seq (WC.region ?_)
      refine WR.bin rfl rfl rfl rfl ?_
      refine WR.nil (WN.seq (WC.seq ?_))
      refine WC.cond rfl (fun h152 => ?_) (fun h152 => ?_)
      · skip
        simp only [decide_eq_true_eq] at h152
        refine WC.skip (WN.seq ?_)
        refine WC.seq (WC.block ?_)
        refine WC.seq (WC.region ?_)
        refine WR.idx rfl rfl Tryz.underlying23 sz46 (by omega) (by omega) rfl ?_
        refine WR.loadAgg rfl Tryz.underlying46 rfl sz46 (show Rd _ g (o + Int.toNat ((i : Nat) : Int) * 3) 3 (rF _) from hci) rfl ?_
        refine WR.alloc run_zv rfl rfl ?_
        intro w2 hn hs
        obtain ⟨bR, hbR⟩ : ∃ x, x = w1.heap.size := ⟨_, rfl⟩
        have hR0 : Row w2 bR 46 3 (fun i => (#[.bool false, .int .i64 0, .slice none 0 0] : Array Value).getD i undef) := by
          rw [hn, hbR]
          exact Row.alloc _ _ _
        rw [← hbR]
        have hwR := hw0
        rw [← hbR] at hwR
        have hubR := fun (q : Nat) (h : u.ownBlock = some q) => (World.ownsRow.lt hO q h).2
        rw [← hbR] at hubR
        replace hw0 := Nat.le_trans hw0 hs.size
        replace hS := hS.trans hs (by simp <;> omega)
        replace hrs := hrs.same hs (by simp <;> omega)
        replace hok := hok.same hs (by first | (simp <;> omega) | (intro hm; have := hS9 _ hm; omega) | (intro g hm; have := hS9 _ hm; omega) | (intro g hm; have := hS9 _ hm; exact .inr (by omega)))
        replace hO := hO.keep hs (by first | (intro g hm; simp; done) | (intro g hm; have := hub g hm; simp <;> omega))
        clear hn hs
        refine WR.storeAgg (n := 3) rfl rfl sz46 rfl (agg_one fun i hi => rF_one _ hi) hR0 (by decide) ?_
        intro w3 hn hs
        have hR : RC w3 bR _ := hn.congr fun i hi => ovr_range hi
        replace hw0 := Nat.le_trans hw0 hs.size
        replace hS := hS.trans hs (by simp <;> omega)
        replace hrs := hrs.same hs (by simp <;> omega)
        replace hO := hO.keep hs (fun g hm => by have := hubR g hm; simp <;> omega)
        replace hok := hok.same hs (by simp <;> omega)
        clear hn hs hR0
        refine WR.nil (WN.seq ?_)
        refine WC.seq (WC.seq (WC.region ?_))
        refine WR.field rfl fa46_1 rfl ?_
        refine WR.load rfl Tryz.underlying3 rfl (show _ = some (Value.int .i64 ((c : Nat) : Int)) from hR.c1) rfl ?_
        refine WR.bin rfl rfl rfl rfl ?_
        refine WR.move rfl rfl ?_
        refine WR.take rfl rfl (by first | rfl | assumption | (simp only [Bool.not_true, Bool.not_false, decide_eq_true_eq, decide_eq_false_iff_not, beq_iff_eq, bne_iff_ne, beq_eq_false_iff_ne, bne_eq_false_iff_eq, gt_iff_lt, ge_iff_le]; omega) | simp_all) ?_
        refine WR.field rfl fa46_0 rfl ?_
        refine WR.take rfl rfl (by first | rfl | assumption | (simp only [Bool.not_true, Bool.not_false, decide_eq_true_eq, decide_eq_false_iff_not, beq_iff_eq, bne_iff_ne, beq_eq_false_iff_ne, bne_eq_false_iff_eq, gt_iff_lt, ge_iff_le]; omega) | simp_all) ?_
        refine WR.load rfl Tryz.underlying4 rfl (show _ = some (Value.bool true) from hR.c0) rfl ?_
        refine WR.take rfl rfl (by first | rfl | assumption | (simp only [Bool.not_true, Bool.not_false, decide_eq_true_eq, decide_eq_false_iff_not, beq_iff_eq, bne_iff_ne, beq_eq_false_iff_ne, bne_eq_false_iff_eq, gt_iff_lt, ge_iff_le]; omega) | simp_all) ?_
        refine WR.move rfl rfl ?_
        refine WR.take rfl rfl rfl ?_
        refine WR.field rfl fa46_1 rfl ?_
        refine WR.take rfl rfl rfl ?_
        refine WR.load rfl Tryz.underlying3 rfl (show _ = some (Value.int .i64 ((c : Nat) : Int)) from hR.c1) rfl ?_
        refine WR.take rfl rfl rfl ?_
        refine WR.bin rfl rfl rfl rfl ?_
        refine WR.take rfl rfl rfl ?_
        refine WR.move rfl rfl ?_
        refine WR.take rfl rfl (by first | rfl | assumption | (simp only [Bool.not_true, Bool.not_false, decide_eq_true_eq, decide_eq_false_iff_not, beq_iff_eq, bne_iff_ne, beq_eq_false_iff_ne, bne_eq_false_iff_eq, gt_iff_lt, ge_iff_le]; omega) | simp_all) ?_
        refine WR.field rfl fa46_2 rfl ?_
        refine WR.take rfl rfl (by first | rfl | assumption | (simp only [Bool.not_true, Bool.not_false, decide_eq_true_eq, decide_eq_false_iff_not, beq_iff_eq, bne_iff_ne, beq_eq_false_iff_ne, bne_eq_false_iff_eq, gt_iff_lt, ge_iff_le]; omega) | simp_all) ?_
        refine WR.load rfl Tryz.underlying37 rfl (show _ = some (Value.slice Ar xs.length cr) from hR.c2) rfl ?_
        refine WR.take rfl rfl (by first | rfl | assumption | (simp only [Bool.not_true, Bool.not_false, decide_eq_true_eq, decide_eq_false_iff_not, beq_iff_eq, bne_iff_ne, beq_eq_false_iff_ne, bne_eq_false_iff_eq, gt_iff_lt, ge_iff_le]; omega) | simp_all) ?_
        refine WR.lenS rfl Tryz.underlying37 rfl ?_
        refine WR.take rfl rfl (by first | rfl | assumption | (simp only [Bool.not_true, Bool.not_false, decide_eq_true_eq, decide_eq_false_iff_not, beq_iff_eq, bne_iff_ne, beq_eq_false_iff_ne, bne_eq_false_iff_eq, gt_iff_lt, ge_iff_le]; omega) | simp_all) ?_
        refine WR.field rfl fa46_1 rfl ?_
        refine WR.take rfl rfl (by first | rfl | assumption | (simp only [Bool.not_true, Bool.not_false, decide_eq_true_eq, decide_eq_false_iff_not, beq_iff_eq, bne_iff_ne, beq_eq_false_iff_ne, bne_eq_false_iff_eq, gt_iff_lt, ge_iff_le]; omega) | simp_all) ?_
        refine WR.load rfl Tryz.underlying3 rfl (show _ = some (Value.int .i64 ((c : Nat) : Int)) from hR.c1) rfl ?_
        refine WR.take rfl rfl (by first | rfl | assumption | (simp only [Bool.not_true, Bool.not_false, decide_eq_true_eq, decide_eq_false_iff_not, beq_iff_eq, bne_iff_ne, beq_eq_false_iff_ne, bne_eq_false_iff_eq, gt_iff_lt, ge_iff_le]; omega) | simp_all) ?_
        (refine WR.bin rfl rfl (ar_mul (z := ((8 * c : Nat) : Int)) ?_) rfl ?_; (rw [wrap_i64 (by omega) (by omega)]; omega))
        refine WR.take rfl rfl (by first | rfl | assumption | (simp only [Bool.not_true, Bool.not_false, decide_eq_true_eq, decide_eq_false_iff_not, beq_iff_eq, bne_iff_ne, beq_eq_false_iff_ne, bne_eq_false_iff_eq, gt_iff_lt, ge_iff_le]; omega) | simp_all) ?_
        refine WR.bin rfl rfl rfl rfl ?_
        refine WR.take rfl rfl rfl ?_
        refine WR.pickF rfl (by first | rfl | assumption | (simp only [Bool.not_true, Bool.not_false, decide_eq_true_eq, decide_eq_false_iff_not, beq_iff_eq, bne_iff_ne, beq_eq_false_iff_ne, bne_eq_false_iff_eq, gt_iff_lt, ge_iff_le]; omega) | simp_all) rfl rfl ?_
        refine WR.take rfl rfl (by first | rfl | assumption | (simp only [Bool.not_true, Bool.not_false, decide_eq_true_eq, decide_eq_false_iff_not, beq_iff_eq, bne_iff_ne, beq_eq_false_iff_ne, bne_eq_false_iff_eq, gt_iff_lt, ge_iff_le]; omega) | simp_all) ?_
        refine WR.pickT rfl rfl rfl rfl ?_
        refine WR.pickF rfl (by first | rfl | assumption | (simp only [Bool.not_true, Bool.not_false, decide_eq_true_eq, decide_eq_false_iff_not, beq_iff_eq, bne_iff_ne, beq_eq_false_iff_ne, bne_eq_false_iff_eq, gt_iff_lt, ge_iff_le]; omega) | simp_all) rfl rfl ?_
        refine WR.move rfl rfl ?_
        refine WR.pass rfl rfl rfl (by first | rfl | assumption | (simp only [Bool.not_true, Bool.not_false, decide_eq_true_eq, decide_eq_false_iff_not, beq_iff_eq, bne_iff_ne, beq_eq_false_iff_ne, bne_eq_false_iff_eq, gt_iff_lt, ge_iff_le]; omega) | simp_all) ?_
        refine WR.pass rfl rfl rfl (by first | rfl | assumption | (simp only [Bool.not_true, Bool.not_false, decide_eq_true_eq, decide_eq_false_iff_not, beq_iff_eq, bne_iff_ne, beq_eq_false_iff_ne, bne_eq_false_iff_eq, gt_iff_lt, ge_iff_le]; omega) | simp_all) ?_
        refine WR.pass rfl rfl rfl (by first | rfl | assumption | (simp only [Bool.not_true, Bool.not_false, decide_eq_true_eq, decide_eq_false_iff_not, beq_iff_eq, bne_iff_ne, beq_eq_false_iff_ne, bne_eq_false_iff_eq, gt_iff_lt, ge_iff_le]; omega) | simp_all) ?_
        refine WR.pass rfl rfl rfl (by first | rfl | assumption | (simp only [Bool.not_true, Bool.not_false, decide_eq_true_eq, decide_eq_false_iff_not, beq_iff_eq, bne_iff_ne, beq_eq_false_iff_ne, bne_eq_false_iff_eq, gt_iff_lt, ge_iff_le]; omega) | simp_all) ?_
        refine WR.passU rfl rfl rfl ?_
        refine WR.passU rfl rfl rfl ?_
        refine WR.passU rfl rfl rfl ?_
        refine WR.passU rfl rfl rfl ?_
        refine WR.passU rfl rfl rfl ?_
        refine WR.passU rfl rfl rfl ?_
        refine WR.passU rfl rfl rfl ?_
        refine WR.passU rfl rfl rfl ?_
        refine WR.passU rfl rfl rfl ?_
        refine WR.pass rfl rfl rfl (by first | rfl | assumption | (simp only [Bool.not_true, Bool.not_false, decide_eq_true_eq, decide_eq_false_iff_not, beq_iff_eq, bne_iff_ne, beq_eq_false_iff_ne, bne_eq_false_iff_eq, gt_iff_lt, ge_iff_le]; omega) | simp_all) ?_
        refine WR.pickT rfl (by first | rfl | assumption | (simp only [Bool.not_true, Bool.not_false, decide_eq_true_eq, decide_eq_false_iff_not, beq_iff_eq, bne_iff_ne, beq_eq_false_iff_ne, bne_eq_false_iff_eq, gt_iff_lt, ge_iff_le]; omega) | simp_all) rfl rfl ?_
        refine WR.nil (WN.seq ?_)
        refine WC.cond rfl (fun h153 => ?_) (fun h153 => ?_)
        · skip
          simp only at h153
          refine WC.seq (WC.region ?_)
          refine WR.assign rfl rfl ?_
          refine WR.assign rfl rfl ?_
          refine WR.nil (WN.seq ?_)
          refine WC.retR rfl rfl ?_
          exact ⟨_, false, rfl, (fun h => by cases h), hS⟩
        · skip
          (first | (cases h153; done) | (simp at h153; omega))
      · skip
        simp only [decide_eq_false_iff_not, Int.not_lt] at h152
        omega
    · skip
      obtain ⟨g, o, rfl, hgH, hgl, hcs⟩ := hrs.lit (by omega)
      have hci := hcs i (by omega)
      have hok := hrs.ok i (by omega)
      have htk := take_snocR (ms := rs) (i := i) (d := default) (by omega)
      clear hcs
      obtain ⟨r, hr⟩ : ∃ r, r = rs.getD i default := ⟨_, rfl⟩
      rw [← hr] at hci hok htk
      (try rw [← hr] at hc)
      (try rw [← hr] at hc1)
      (try rw [← hr] at hc2)
      (try rw [← hr] at hc3)
      obtain ⟨p, ci, Ar, cr, xs⟩ := r
      (try simp only at hc)
      (try simp only at hc1)
      (try simp only at hc2)
      (try simp only at hc3)
      have hc63 := hok.c1
      have hc64 := hok.c0
      simp only at hc63 hc64
      have hxl63 := hok.len
      simp only at hxl63
      have hxu : (u64s xs).length = xs.length := u64s_length xs
      obtain ⟨E, hE⟩ : ∃ E, E = Rl.exp ((rs.take i).map RR.run) := ⟨_, rfl⟩
      have hel : E.length ≤ 12000 := by
        rw [hE]
        have h1 := Rl.exp_len (W := W) (rs := (rs.take i).map RR.run) (fun r hr => by
          obtain ⟨x, hx, rfl⟩ := List.mem_map.1 hr
          obtain ⟨j, hj, rfl⟩ := List.getElem_of_mem hx
          simp only [List.length_take] at hj
          have := hfit j (by omega)
          rw [List.getElem_take]
          rwa [List.getD_eq_getElem?_getD, List.getElem?_eq_getElem (by omega)] at this)
        have h2 : ((rs.take i).map RR.run).length ≤ 40 := by simp; omega
        omega
      rw [← hE] at hO
      subst hc
      obtain ⟨c, rfl⟩ : ∃ c : Nat, ci = (c : Int) := ⟨ci.toNat, by omega⟩
      refine WC.seq (WC.region ?_)
      refine WR.bin rfl rfl rfl rfl ?_
      refine WR.nil (WN.seq (WC.seq ?_))
      refine WC.cond rfl (fun h152 => ?_) (fun h152 => ?_)
      · skip
        simp only [decide_eq_true_eq] at h152
        refine WC.skip (WN.seq ?_)
        refine WC.seq (WC.block ?_)
        refine WC.seq (WC.region ?_)
        refine WR.idx rfl rfl Tryz.underlying23 sz46 (by omega) (by omega) rfl ?_
        refine WR.loadAgg rfl Tryz.underlying46 rfl sz46 (show Rd _ g (o + Int.toNat ((i : Nat) : Int) * 3) 3 (rF _) from hci) rfl ?_
        refine WR.alloc run_zv rfl rfl ?_
        intro w2 hn hs
        obtain ⟨bR, hbR⟩ : ∃ x, x = w1.heap.size := ⟨_, rfl⟩
        have hR0 : Row w2 bR 46 3 (fun i => (#[.bool false, .int .i64 0, .slice none 0 0] : Array Value).getD i undef) := by
          rw [hn, hbR]
          exact Row.alloc _ _ _
        rw [← hbR]
        have hwR := hw0
        rw [← hbR] at hwR
        have hubR := fun (q : Nat) (h : u.ownBlock = some q) => (World.ownsRow.lt hO q h).2
        rw [← hbR] at hubR
        replace hw0 := Nat.le_trans hw0 hs.size
        replace hS := hS.trans hs (by simp <;> omega)
        replace hrs := hrs.same hs (by simp <;> omega)
        replace hok := hok.same hs (by first | (simp <;> omega) | (intro hm; have := hS9 _ hm; omega) | (intro g hm; have := hS9 _ hm; omega) | (intro g hm; have := hS9 _ hm; exact .inr (by omega)))
        replace hO := hO.keep hs (by first | (intro g hm; simp; done) | (intro g hm; have := hub g hm; simp <;> omega))
        clear hn hs
        refine WR.storeAgg (n := 3) rfl rfl sz46 rfl (agg_one fun i hi => rF_one _ hi) hR0 (by decide) ?_
        intro w3 hn hs
        have hR : RC w3 bR _ := hn.congr fun i hi => ovr_range hi
        replace hw0 := Nat.le_trans hw0 hs.size
        replace hS := hS.trans hs (by simp <;> omega)
        replace hrs := hrs.same hs (by simp <;> omega)
        replace hO := hO.keep hs (fun g hm => by have := hubR g hm; simp <;> omega)
        replace hok := hok.same hs (by simp <;> omega)
        clear hn hs hR0
        refine WR.nil (WN.seq ?_)
        refine WC.seq (WC.seq (WC.region ?_))
        refine WR.field rfl fa46_1 rfl ?_
        refine WR.load rfl Tryz.underlying3 rfl (show _ = some (Value.int .i64 ((c : Nat) : Int)) from hR.c1) rfl ?_
        refine WR.bin rfl rfl rfl rfl ?_
        refine WR.move rfl rfl ?_
        refine WR.take rfl rfl (by first | rfl | assumption | (simp only [Bool.not_true, Bool.not_false, decide_eq_true_eq, decide_eq_false_iff_not, beq_iff_eq, bne_iff_ne, beq_eq_false_iff_ne, bne_eq_false_iff_eq, gt_iff_lt, ge_iff_le]; omega) | simp_all) ?_
        refine WR.field rfl fa46_0 rfl ?_
        refine WR.take rfl rfl (by first | rfl | assumption | (simp only [Bool.not_true, Bool.not_false, decide_eq_true_eq, decide_eq_false_iff_not, beq_iff_eq, bne_iff_ne, beq_eq_false_iff_ne, bne_eq_false_iff_eq, gt_iff_lt, ge_iff_le]; omega) | simp_all) ?_
        refine WR.load rfl Tryz.underlying4 rfl (show _ = some (Value.bool true) from hR.c0) rfl ?_
        refine WR.take rfl rfl (by first | rfl | assumption | (simp only [Bool.not_true, Bool.not_false, decide_eq_true_eq, decide_eq_false_iff_not, beq_iff_eq, bne_iff_ne, beq_eq_false_iff_ne, bne_eq_false_iff_eq, gt_iff_lt, ge_iff_le]; omega) | simp_all) ?_
        refine WR.move rfl rfl ?_
        refine WR.take rfl rfl rfl ?_
        refine WR.field rfl fa46_1 rfl ?_
        refine WR.take rfl rfl rfl ?_
        refine WR.load rfl Tryz.underlying3 rfl (show _ = some (Value.int .i64 ((c : Nat) : Int)) from hR.c1) rfl ?_
        refine WR.take rfl rfl rfl ?_
        refine WR.bin rfl rfl rfl rfl ?_
        refine WR.take rfl rfl rfl ?_
        refine WR.move rfl rfl ?_
        refine WR.take rfl rfl (by first | rfl | assumption | (simp only [Bool.not_true, Bool.not_false, decide_eq_true_eq, decide_eq_false_iff_not, beq_iff_eq, bne_iff_ne, beq_eq_false_iff_ne, bne_eq_false_iff_eq, gt_iff_lt, ge_iff_le]; omega) | simp_all) ?_
        refine WR.field rfl fa46_2 rfl ?_
        refine WR.take rfl rfl (by first | rfl | assumption | (simp only [Bool.not_true, Bool.not_false, decide_eq_true_eq, decide_eq_false_iff_not, beq_iff_eq, bne_iff_ne, beq_eq_false_iff_ne, bne_eq_false_iff_eq, gt_iff_lt, ge_iff_le]; omega) | simp_all) ?_
        refine WR.load rfl Tryz.underlying37 rfl (show _ = some (Value.slice Ar xs.length cr) from hR.c2) rfl ?_
        refine WR.take rfl rfl (by first | rfl | assumption | (simp only [Bool.not_true, Bool.not_false, decide_eq_true_eq, decide_eq_false_iff_not, beq_iff_eq, bne_iff_ne, beq_eq_false_iff_ne, bne_eq_false_iff_eq, gt_iff_lt, ge_iff_le]; omega) | simp_all) ?_
        refine WR.lenS rfl Tryz.underlying37 rfl ?_
        refine WR.take rfl rfl (by first | rfl | assumption | (simp only [Bool.not_true, Bool.not_false, decide_eq_true_eq, decide_eq_false_iff_not, beq_iff_eq, bne_iff_ne, beq_eq_false_iff_ne, bne_eq_false_iff_eq, gt_iff_lt, ge_iff_le]; omega) | simp_all) ?_
        refine WR.field rfl fa46_1 rfl ?_
        refine WR.take rfl rfl (by first | rfl | assumption | (simp only [Bool.not_true, Bool.not_false, decide_eq_true_eq, decide_eq_false_iff_not, beq_iff_eq, bne_iff_ne, beq_eq_false_iff_ne, bne_eq_false_iff_eq, gt_iff_lt, ge_iff_le]; omega) | simp_all) ?_
        refine WR.load rfl Tryz.underlying3 rfl (show _ = some (Value.int .i64 ((c : Nat) : Int)) from hR.c1) rfl ?_
        refine WR.take rfl rfl (by first | rfl | assumption | (simp only [Bool.not_true, Bool.not_false, decide_eq_true_eq, decide_eq_false_iff_not, beq_iff_eq, bne_iff_ne, beq_eq_false_iff_ne, bne_eq_false_iff_eq, gt_iff_lt, ge_iff_le]; omega) | simp_all) ?_
        (refine WR.bin rfl rfl (ar_mul (z := ((8 * c : Nat) : Int)) ?_) rfl ?_; (rw [wrap_i64 (by omega) (by omega)]; omega))
        refine WR.take rfl rfl (by first | rfl | assumption | (simp only [Bool.not_true, Bool.not_false, decide_eq_true_eq, decide_eq_false_iff_not, beq_iff_eq, bne_iff_ne, beq_eq_false_iff_ne, bne_eq_false_iff_eq, gt_iff_lt, ge_iff_le]; omega) | simp_all) ?_
        refine WR.bin rfl rfl rfl rfl ?_
        refine WR.take rfl rfl rfl ?_
        refine WR.pickF rfl (by first | rfl | assumption | (simp only [Bool.not_true, Bool.not_false, decide_eq_true_eq, decide_eq_false_iff_not, beq_iff_eq, bne_iff_ne, beq_eq_false_iff_ne, bne_eq_false_iff_eq, gt_iff_lt, ge_iff_le]; omega) | simp_all) rfl rfl ?_
        refine WR.take rfl rfl (by first | rfl | assumption | (simp only [Bool.not_true, Bool.not_false, decide_eq_true_eq, decide_eq_false_iff_not, beq_iff_eq, bne_iff_ne, beq_eq_false_iff_ne, bne_eq_false_iff_eq, gt_iff_lt, ge_iff_le]; omega) | simp_all) ?_
        refine WR.pickT rfl rfl rfl rfl ?_
        refine WR.pickF rfl (by first | rfl | assumption | (simp only [Bool.not_true, Bool.not_false, decide_eq_true_eq, decide_eq_false_iff_not, beq_iff_eq, bne_iff_ne, beq_eq_false_iff_ne, bne_eq_false_iff_eq, gt_iff_lt, ge_iff_le]; omega) | simp_all) rfl rfl ?_
        refine WR.move rfl rfl ?_
        refine WR.take rfl rfl (by first | rfl | assumption | (simp only [Bool.not_true, Bool.not_false, decide_eq_true_eq, decide_eq_false_iff_not, beq_iff_eq, bne_iff_ne, beq_eq_false_iff_ne, bne_eq_false_iff_eq, gt_iff_lt, ge_iff_le]; omega) | simp_all) ?_
        refine WR.field rfl fa46_0 rfl ?_
        refine WR.take rfl rfl (by first | rfl | assumption | (simp only [Bool.not_true, Bool.not_false, decide_eq_true_eq, decide_eq_false_iff_not, beq_iff_eq, bne_iff_ne, beq_eq_false_iff_ne, bne_eq_false_iff_eq, gt_iff_lt, ge_iff_le]; omega) | simp_all) ?_
        refine WR.load rfl Tryz.underlying4 rfl (show _ = some (Value.bool true) from hR.c0) rfl ?_
        refine WR.take rfl rfl (by first | rfl | assumption | (simp only [Bool.not_true, Bool.not_false, decide_eq_true_eq, decide_eq_false_iff_not, beq_iff_eq, bne_iff_ne, beq_eq_false_iff_ne, bne_eq_false_iff_eq, gt_iff_lt, ge_iff_le]; omega) | simp_all) ?_
        refine WR.notOp rfl rfl ?_
        refine WR.take rfl rfl (by first | rfl | assumption | (simp only [Bool.not_true, Bool.not_false, decide_eq_true_eq, decide_eq_false_iff_not, beq_iff_eq, bne_iff_ne, beq_eq_false_iff_ne, bne_eq_false_iff_eq, gt_iff_lt, ge_iff_le]; omega) | simp_all) ?_
        refine WR.move rfl rfl ?_
        refine WR.pass rfl rfl rfl rfl ?_
        refine WR.pass rfl rfl rfl rfl ?_
        refine WR.pass rfl rfl rfl rfl ?_
        refine WR.pass rfl rfl rfl rfl ?_
        refine WR.passU rfl rfl rfl ?_
        refine WR.passU rfl rfl rfl ?_
        refine WR.passU rfl rfl rfl ?_
        refine WR.passU rfl rfl rfl ?_
        refine WR.pass rfl rfl rfl rfl ?_
        refine WR.take rfl rfl (by first | rfl | assumption | (simp only [Bool.not_true, Bool.not_false, decide_eq_true_eq, decide_eq_false_iff_not, beq_iff_eq, bne_iff_ne, beq_eq_false_iff_ne, bne_eq_false_iff_eq, gt_iff_lt, ge_iff_le]; omega) | simp_all) ?_
        refine WR.pickF rfl rfl rfl rfl ?_
        refine WR.pickF rfl (by first | rfl | assumption | (simp only [Bool.not_true, Bool.not_false, decide_eq_true_eq, decide_eq_false_iff_not, beq_iff_eq, bne_iff_ne, beq_eq_false_iff_ne, bne_eq_false_iff_eq, gt_iff_lt, ge_iff_le]; omega) | simp_all) rfl rfl ?_
        refine WR.nil (WN.seq ?_)
        refine WC.cond rfl (fun h153 => ?_) (fun h153 => ?_)
        · skip
          (first | (cases h153; done) | (simp at h153; omega))
        · skip
          simp only at h153
          refine WC.skip (WN.seq ?_)
          refine WC.seq (WC.seq (WC.region ?_))
          refine WR.field rfl fa46_2 rfl ?_
          refine WR.load rfl Tryz.underlying37 rfl (show _ = some (Value.slice Ar xs.length cr) from hR.c2) rfl ?_
          refine WR.lenS rfl Tryz.underlying37 rfl ?_
          refine WR.move rfl rfl ?_
          refine WR.nil (WN.seq (WC.block ?_))
          refine WC.loop (fun q : Nat => [(8, .pointer (some ⟨bR, 0, none⟩)), (68, .slice Ar xs.length cr), (69, .int .i64 (xs.length : Nat)), (70, .int .i64 (q : Nat)), (1, .int .i64 (W : Nat)), (6, u), (24, .slice (some ⟨g, o, none⟩) n cl), (25, .int .i64 (n : Nat)), (26, .int .i64 (i : Nat))]) (fun k2 q w' => q + k2 = xs.length ∧ w' = w3 ∧ ∀ q', q' < q → xs.getD q' 0 < 2 ^ W) xs.length 0 ⟨rfl, rfl, rfl, rfl, rfl, rfl, rfl, rfl, rfl, trivial⟩ ⟨by omega, rfl, fun q' h => absurd h (Nat.not_lt_zero q')⟩ ?_
          rintro k2 q w9 ⟨hk2, hw9, hall⟩
          replace hw9 := hw9.symm
          subst hw9
          refine WC.seq (WC.region ?_)
          refine WR.bin rfl rfl rfl rfl ?_
          refine WR.nil (WN.seq (WC.seq ?_))
          refine WC.cond rfl (fun h156 => ?_) (fun h156 => ?_)
          · skip
            simp only [decide_eq_true_eq] at h156
            obtain ⟨gv, ov, ev, hev, hgv, hlv, hrv⟩ := hok.ls.lit (by simp only [hxu]; omega)
            simp only [Value.slice.injEq] at hev
            obtain ⟨rfl, -, rfl⟩ := hev
            simp only [hxu] at hrv
            refine WC.skip (WN.seq ?_)
            refine WC.seq (WC.block ?_)
            refine WC.seq (WC.region ?_)
            refine WR.idxK (q) rfl rfl Tryz.underlying37 sz33 (by omega) (by omega) rfl ?_
            refine WR.load rfl Tryz.underlying33 rfl (show _ = some (Value.int .u64 (xs.getD q 0 : Nat)) from (hrv q (by omega)).trans (congrArg some (u64s_getD (by omega)))) rfl ?_
            refine WR.assign rfl rfl ?_
            refine WR.nil (WN.seq ?_)
            refine WC.seq (WC.region ?_)
            refine WR.move rfl rfl ?_
            refine WR.bin rfl rfl rfl rfl ?_
            refine WR.move rfl rfl ?_
            refine WR.take rfl rfl (by first | rfl | assumption | (simp only [Bool.not_true, Bool.not_false, decide_eq_true_eq, decide_eq_false_iff_not, beq_iff_eq, bne_iff_ne, beq_eq_false_iff_ne, bne_eq_false_iff_eq, gt_iff_lt, ge_iff_le]; omega) | simp_all) ?_
            refine WR.move rfl rfl ?_
            refine WR.take rfl rfl (by first | rfl | assumption | (simp only [Bool.not_true, Bool.not_false, decide_eq_true_eq, decide_eq_false_iff_not, beq_iff_eq, bne_iff_ne, beq_eq_false_iff_ne, bne_eq_false_iff_eq, gt_iff_lt, ge_iff_le]; omega) | simp_all) ?_
            refine WR.move rfl rfl ?_
            refine WR.take rfl rfl (by first | rfl | assumption | (simp only [Bool.not_true, Bool.not_false, decide_eq_true_eq, decide_eq_false_iff_not, beq_iff_eq, bne_iff_ne, beq_eq_false_iff_ne, bne_eq_false_iff_eq, gt_iff_lt, ge_iff_le]; omega) | simp_all) ?_
            refine WR.shr rfl rfl (by omega) (z := ((xs.getD q 0 / 2 ^ W : Nat) : Int)) (sp_shr (by show W ≤ 64; omega)) rfl ?_
            refine WR.take rfl rfl (by first | rfl | assumption | (simp only [Bool.not_true, Bool.not_false, decide_eq_true_eq, decide_eq_false_iff_not, beq_iff_eq, bne_iff_ne, beq_eq_false_iff_ne, bne_eq_false_iff_eq, gt_iff_lt, ge_iff_le]; omega) | simp_all) ?_
            refine WR.bin rfl rfl rfl rfl ?_
            refine WR.pickT rfl (by first | rfl | assumption | (simp only [Bool.not_true, Bool.not_false, decide_eq_true_eq, decide_eq_false_iff_not, beq_iff_eq, bne_iff_ne, beq_eq_false_iff_ne, bne_eq_false_iff_eq, gt_iff_lt, ge_iff_le]; omega) | simp_all) rfl rfl ?_
            refine WR.nil (WN.seq ?_)
            refine WC.cond rfl (fun h157 => ?_) (fun h157 => ?_)
            · skip
              simp only [gt_iff_lt, decide_eq_true_eq] at h157
              refine WC.seq (WC.region ?_)
              refine WR.assign rfl rfl ?_
              refine WR.assign rfl rfl ?_
              refine WR.nil (WN.seq ?_)
              refine WC.retR rfl rfl ?_
              exact ⟨_, false, rfl, (fun h => by cases h), hS⟩
            · skip
              simp only [gt_iff_lt, decide_eq_false_iff_not, Int.not_lt] at h157
              have hxq : xs.getD q 0 < 2 ^ W := div_zero_lt (Nat.le_zero.1 (by exact_mod_cast h157))
              refine WC.skip (WN.block ?_)
              refine WN.seq (WC.region ?_)
              (refine WR.bin rfl rfl (ar_add (wrap_i64 ?_ ?_)) rfl ?_; (omega); (omega))
              refine WR.move rfl rfl ?_
              refine WR.nil ?_
              exact WN.loop (k2 - 1) (q + 1) (by omega) ⟨rfl, rfl, rfl, kint rfl (by omega), rfl, rfl, rfl, rfl, rfl, trivial⟩ ⟨by omega, rfl, fun q' h => by rcases Nat.lt_or_ge q' q with h2 | h2; exact hall q' h2; obtain rfl : q' = q := (by omega); exact hxq⟩
          · skip
            simp only [decide_eq_false_iff_not, Int.not_lt] at h156
            have hall2 : ∀ v, v ∈ xs → v < 2 ^ W := fun v hv => by
              obtain ⟨q, hq, rfl⟩ := List.getElem_of_mem hv
              have := hall q (by omega)
              rwa [List.getD_eq_getElem?_getD, List.getElem?_eq_getElem hq] at this
            have hfr : Rl.Fit W (RR.run ⟨true, ((c : Nat) : Int), Ar, cr, xs⟩) := ⟨by simp [RR.run]; omega, fun _ => ⟨by simp [RR.run]; omega, by simp [RR.run]; omega⟩, fun h => (by cases h), hall2⟩
            have hfit2 : ∀ j, j < i + 1 → Rl.Fit W (rs.getD j default).run := fun j hj => by
              rcases Nat.lt_or_ge j i with h | h
              · exact hfit j h
              · obtain rfl : j = i := by omega
                rw [← hr]
                exact hfr
            refine WC.exit rfl ?_
            refine WN.seq (WC.seq ?_)
            refine WC.seq (WC.region ?_)
            refine WR.field rfl fa46_0 rfl ?_
            refine WR.load rfl Tryz.underlying4 rfl (show _ = some (Value.bool true) from hR.c0) rfl ?_
            refine WR.nil (WN.seq ?_)
            refine WC.cond rfl (fun h161 => ?_) (fun h161 => ?_)
            · skip
              simp only at h161
              refine WC.seq (WC.region ?_)
              refine WR.move rfl rfl ?_
              refine WR.field rfl fa46_2 rfl ?_
              refine WR.load rfl Tryz.underlying37 rfl (show _ = some (Value.slice Ar xs.length cr) from hR.c2) rfl ?_
              have hS9 : ∀ g, g ∈ u.ownBlock.toList → H ≤ g ∧ g ≠ bR := fun g hm => ⟨(World.ownsRow.lt hO g (by simpa using hm)).1, (by have := hubR g (by simpa using hm); omega)⟩
              have hRl2 := hR.lt
              refine WR.appendFx rfl hO rfl hok.ls (fun i hi => u64s_one hi) Tryz.underlying37 mk33 rfl (by decide) (by rw [u64s_length, hxu]; omega) (by omega) rfl rfl ?_
              intro u2 w4 hn hs hfr
              replace hO := hn
              replace hw0 := Nat.le_trans hw0 hs.size
              replace hS := hS.trans hs (by first | (simp <;> omega) | (intro hm; have := hS9 _ hm; omega) | (intro g hm; have := hS9 _ hm; omega) | (intro g hm; have := hS9 _ hm; exact .inr (by omega)))
              replace hrs := hrs.same hs (by first | (simp <;> omega) | (intro hm; have := hS9 _ hm; omega) | (intro g hm; have := hS9 _ hm; omega) | (intro g hm; have := hS9 _ hm; exact .inr (by omega)))
              replace hR := hR.same hs (by first | (simp <;> omega) | (intro hm; have := hS9 _ hm; omega) | (intro g hm; have := hS9 _ hm; omega) | (intro g hm; have := hS9 _ hm; exact .inr (by omega)))
              replace hok := hok.same hs (by first | (simp <;> omega) | (intro hm; have := hS9 _ hm; omega) | (intro g hm; have := hS9 _ hm; omega) | (intro g hm; have := hS9 _ hm; exact .inr (by omega)))
              have hub3 : ∀ q, u2.ownBlock = some q → q ≠ bR := fun q h => by rcases hfr q h with h | h; exact (by have := hubR q h; omega); omega
              clear hS9
              clear hn hs
              refine WR.assign rfl rfl ?_
              refine WR.nil (WN.seq ?_)
              refine WC.seq (WC.seq (WC.region ?_))
              refine WR.field rfl fa46_2 rfl ?_
              refine WR.load rfl Tryz.underlying37 rfl (show _ = some (Value.slice Ar xs.length cr) from hR.c2) rfl ?_
              refine WR.lenS rfl Tryz.underlying37 rfl ?_
              refine WR.assign rfl rfl ?_
              refine WR.nil (WN.seq (WC.block ?_))
              have hO0 : Own w4 H 33 u2 (u64s (E ++ xs ++ List.replicate 0 0)) := by rw [List.replicate_zero, List.append_nil, u64s_append]; exact hO
              have hub := hub3
              refine WC.loop (fun s : Nat × Value => [(8, .pointer (some ⟨bR, 0, none⟩)), (11, .int .i64 (xs.length + s.1 : Nat)), (1, .int .i64 (W : Nat)), (6, s.2), (24, .slice (some ⟨g, o, none⟩) n cl), (25, .int .i64 (n : Nat)), (26, .int .i64 (i : Nat))]) (fun k2 s w' => xs.length + s.1 + k2 = 8 * c ∧ H ≤ w'.heap.size ∧ Same [] w w' ∧ RS w' H (.slice (some ⟨g, o, none⟩) n cl) rs ∧ RC w' bR ⟨true, ((c : Nat) : Int), Ar, cr, xs⟩ ∧ (∀ q, s.2.ownBlock = some q → q ≠ bR) ∧ Own w' H 33 s.2 (u64s (E ++ xs ++ List.replicate s.1 0))) (8 * c - xs.length) (0, u2) ⟨rfl, rfl, rfl, rfl, rfl, rfl, rfl, trivial⟩ ⟨by simp; omega, hw0, hS, hrs, hR, hub, hO0⟩ ?_
              clear hS hw0 hrs hO hO0 hR hok hub hub3
              rintro k2 ⟨j, u3⟩ w5 ⟨hk2, hw0, hS, hrs, hR, hub, hO⟩
              simp only at hk2 hO hub
              refine WC.seq (WC.seq (WC.region ?_))
              refine WR.move rfl rfl ?_
              refine WR.field rfl fa46_1 rfl ?_
              refine WR.load rfl Tryz.underlying3 rfl (show _ = some (Value.int .i64 ((c : Nat) : Int)) from hR.c1) rfl ?_
              (refine WR.bin rfl rfl (ar_mul (z := ((8 * c : Nat) : Int)) ?_) rfl ?_; (rw [wrap_i64 (by omega) (by omega)]; omega))
              refine WR.bin rfl rfl rfl rfl ?_
              refine WR.nil (WN.seq ?_)
              refine WC.cond rfl (fun h163 => ?_) (fun h163 => ?_)
              · skip
                simp only [decide_eq_true_eq] at h163
                refine WC.skip (WN.seq ?_)
                refine WC.seq (WC.block (WC.region ?_))
                refine WR.move rfl rfl ?_
                obtain ⟨nz, hnz⟩ : ∃ x, x = w5.heap.size := ⟨_, rfl⟩
                refine WR.buildSl (E := 33) (cs := #[.int .u64 0]) rfl rfl (fun w => by kernel_rfl) rfl rfl ?_
                rw [← hnz]
                intro w6 hM hs
                replace hw0 := Nat.le_trans hw0 hs.size
                replace hS := hS.trans hs (by simp <;> omega)
                replace hrs := hrs.same hs (by simp <;> omega)
                replace hR := hR.same hs (by first | (simp <;> omega) | (intro hm; have := hS9 _ hm; omega) | (intro g hm; have := hS9 _ hm; omega) | (intro g hm; have := hS9 _ hm; exact .inr (by omega)))
                replace hO := hO.keep hs (by first | (intro g hm; simp; done) | (intro g hm; have := hub g hm; simp <;> omega))
                clear hs
                have hS9 : ∀ g, g ∈ u3.ownBlock.toList → H ≤ g ∧ g ≠ bR := fun g hm => ⟨(World.ownsRow.lt hO g (by simpa using hm)).1, hub g (by simpa using hm)⟩
                have hRl2 := hR.lt
                refine WR.appendF rfl hO rfl (show Ls _ 0 _ (u64s [0]) from hM.lsOne) (fun i hi => u64s_one hi) Tryz.underlying37 mk33 rfl (by decide) (by simp [u64s_length]; omega) (by omega) rfl rfl ?_
                intro u5 w7 hn hs hfr
                replace hO := hn
                replace hw0 := Nat.le_trans hw0 hs.size
                replace hS := hS.trans hs (by first | (simp <;> omega) | (intro hm; have := hS9 _ hm; omega) | (intro g hm; have := hS9 _ hm; omega) | (intro g hm; have := hS9 _ hm; exact .inr (by omega)))
                replace hrs := hrs.same hs (by first | (simp <;> omega) | (intro hm; have := hS9 _ hm; omega) | (intro g hm; have := hS9 _ hm; omega) | (intro g hm; have := hS9 _ hm; exact .inr (by omega)))
                replace hR := hR.same hs (by first | (simp <;> omega) | (intro hm; have := hS9 _ hm; omega) | (intro g hm; have := hS9 _ hm; omega) | (intro g hm; have := hS9 _ hm; exact .inr (by omega)))
                have hub3 : ∀ q, u5.ownBlock = some q → q ≠ bR := fun q h => by rcases hfr q h with h | h; exact hub q h; omega
                clear hS9
                clear hn hs
                refine WR.assign rfl rfl ?_
                refine WR.nil (WN.block ?_)
                refine WN.seq (WC.region ?_)
                refine WR.move rfl rfl ?_
                (refine WR.bin rfl rfl (ar_add (z := ((xs.length + j + 1 : Nat) : Int)) ?_) rfl ?_; (rw [wrap_i64 (by omega) (by omega)]; omega))
                refine WR.assign rfl rfl ?_
                refine WR.nil ?_
                exact WN.loop (k2 - 1) (j + 1, u5) (by omega) ⟨rfl, kint rfl (by omega), rfl, rfl, rfl, rfl, rfl, trivial⟩ ⟨show xs.length + (j + 1) + (k2 - 1) = 8 * c by omega, hw0, hS, hrs, hR, hub3, by rw [rep_succX]; exact hO⟩
              · skip
                simp only [decide_eq_false_iff_not, Int.not_lt] at h163
                refine WC.exit rfl ?_
                refine WN.seq ?_
                refine WC.exit rfl ?_
                refine WN.seq (WC.region ?_)
                (refine WR.bin rfl rfl (ar_add (wrap_i64 ?_ ?_)) rfl ?_; (omega); (omega))
                refine WR.move rfl rfl ?_
                refine WR.nil ?_
                exact WN.loop (k - 1) (i + 1, u3) (by omega) ⟨rfl, rfl, rfl, rfl, kint rfl (by omega), trivial⟩ ⟨show i + 1 + (k - 1) = n by omega, hw0, hS, hrs, hfit2, by rw [htk, List.map_append, show ∀ a b, Rl.exp (a ++ b) = Rl.exp a ++ Rl.exp b from fun a b => by simp [Rl.exp], ← hE, show Rl.exp (List.map RR.run [⟨true, ((c : Nat) : Int), Ar, cr, xs⟩]) = xs ++ List.replicate (8 * c - xs.length) 0 by simp [Rl.exp, Rl.expR, RR.run, Rl.padR], ← List.append_assoc]; rw [show 8 * c - xs.length = j by omega]; exact hO⟩
            · skip
              cases h161
      · skip
        simp only [decide_eq_false_iff_not, Int.not_lt] at h152
        omega
    · skip
      obtain ⟨g, o, rfl, hgH, hgl, hcs⟩ := hrs.lit (by omega)
      have hci := hcs i (by omega)
      have hok := hrs.ok i (by omega)
      have htk := take_snocR (ms := rs) (i := i) (d := default) (by omega)
      clear hcs
      obtain ⟨r, hr⟩ : ∃ r, r = rs.getD i default := ⟨_, rfl⟩
      rw [← hr] at hci hok htk
      (try rw [← hr] at hc)
      (try rw [← hr] at hc1)
      (try rw [← hr] at hc2)
      (try rw [← hr] at hc3)
      obtain ⟨p, ci, Ar, cr, xs⟩ := r
      (try simp only at hc)
      (try simp only at hc1)
      (try simp only at hc2)
      (try simp only at hc3)
      have hc63 := hok.c1
      have hc64 := hok.c0
      simp only at hc63 hc64
      have hxl63 := hok.len
      simp only at hxl63
      have hxu : (u64s xs).length = xs.length := u64s_length xs
      obtain ⟨E, hE⟩ : ∃ E, E = Rl.exp ((rs.take i).map RR.run) := ⟨_, rfl⟩
      have hel : E.length ≤ 12000 := by
        rw [hE]
        have h1 := Rl.exp_len (W := W) (rs := (rs.take i).map RR.run) (fun r hr => by
          obtain ⟨x, hx, rfl⟩ := List.mem_map.1 hr
          obtain ⟨j, hj, rfl⟩ := List.getElem_of_mem hx
          simp only [List.length_take] at hj
          have := hfit j (by omega)
          rw [List.getElem_take]
          rwa [List.getD_eq_getElem?_getD, List.getElem?_eq_getElem (by omega)] at this)
        have h2 : ((rs.take i).map RR.run).length ≤ 40 := by simp; omega
        omega
      rw [← hE] at hO
      subst hc
      obtain ⟨c, rfl⟩ : ∃ c : Nat, ci = (c : Int) := ⟨ci.toNat, by omega⟩
      refine WC.seq (WC.region ?_)
      refine WR.bin rfl rfl rfl rfl ?_
      refine WR.nil (WN.seq (WC.seq ?_))
      refine WC.cond rfl (fun h152 => ?_) (fun h152 => ?_)
      · skip
        simp only [decide_eq_true_eq] at h152
        refine WC.skip (WN.seq ?_)
        refine WC.seq (WC.block ?_)
        refine WC.seq (WC.region ?_)
        refine WR.idx rfl rfl Tryz.underlying23 sz46 (by omega) (by omega) rfl ?_
        refine WR.loadAgg rfl Tryz.underlying46 rfl sz46 (show Rd _ g (o + Int.toNat ((i : Nat) : Int) * 3) 3 (rF _) from hci) rfl ?_
        refine WR.alloc run_zv rfl rfl ?_
        intro w2 hn hs
        obtain ⟨bR, hbR⟩ : ∃ x, x = w1.heap.size := ⟨_, rfl⟩
        have hR0 : Row w2 bR 46 3 (fun i => (#[.bool false, .int .i64 0, .slice none 0 0] : Array Value).getD i undef) := by
          rw [hn, hbR]
          exact Row.alloc _ _ _
        rw [← hbR]
        have hwR := hw0
        rw [← hbR] at hwR
        have hubR := fun (q : Nat) (h : u.ownBlock = some q) => (World.ownsRow.lt hO q h).2
        rw [← hbR] at hubR
        replace hw0 := Nat.le_trans hw0 hs.size
        replace hS := hS.trans hs (by simp <;> omega)
        replace hrs := hrs.same hs (by simp <;> omega)
        replace hok := hok.same hs (by first | (simp <;> omega) | (intro hm; have := hS9 _ hm; omega) | (intro g hm; have := hS9 _ hm; omega) | (intro g hm; have := hS9 _ hm; exact .inr (by omega)))
        replace hO := hO.keep hs (by first | (intro g hm; simp; done) | (intro g hm; have := hub g hm; simp <;> omega))
        clear hn hs
        refine WR.storeAgg (n := 3) rfl rfl sz46 rfl (agg_one fun i hi => rF_one _ hi) hR0 (by decide) ?_
        intro w3 hn hs
        have hR : RC w3 bR _ := hn.congr fun i hi => ovr_range hi
        replace hw0 := Nat.le_trans hw0 hs.size
        replace hS := hS.trans hs (by simp <;> omega)
        replace hrs := hrs.same hs (by simp <;> omega)
        replace hO := hO.keep hs (fun g hm => by have := hubR g hm; simp <;> omega)
        replace hok := hok.same hs (by simp <;> omega)
        clear hn hs hR0
        refine WR.nil (WN.seq ?_)
        refine WC.seq (WC.seq (WC.region ?_))
        refine WR.field rfl fa46_1 rfl ?_
        refine WR.load rfl Tryz.underlying3 rfl (show _ = some (Value.int .i64 ((c : Nat) : Int)) from hR.c1) rfl ?_
        refine WR.bin rfl rfl rfl rfl ?_
        refine WR.move rfl rfl ?_
        refine WR.take rfl rfl (by first | rfl | assumption | (simp only [Bool.not_true, Bool.not_false, decide_eq_true_eq, decide_eq_false_iff_not, beq_iff_eq, bne_iff_ne, beq_eq_false_iff_ne, bne_eq_false_iff_eq, gt_iff_lt, ge_iff_le]; omega) | simp_all) ?_
        refine WR.field rfl fa46_0 rfl ?_
        refine WR.take rfl rfl (by first | rfl | assumption | (simp only [Bool.not_true, Bool.not_false, decide_eq_true_eq, decide_eq_false_iff_not, beq_iff_eq, bne_iff_ne, beq_eq_false_iff_ne, bne_eq_false_iff_eq, gt_iff_lt, ge_iff_le]; omega) | simp_all) ?_
        refine WR.load rfl Tryz.underlying4 rfl (show _ = some (Value.bool false) from hR.c0) rfl ?_
        refine WR.take rfl rfl (by first | rfl | assumption | (simp only [Bool.not_true, Bool.not_false, decide_eq_true_eq, decide_eq_false_iff_not, beq_iff_eq, bne_iff_ne, beq_eq_false_iff_ne, bne_eq_false_iff_eq, gt_iff_lt, ge_iff_le]; omega) | simp_all) ?_
        refine WR.move rfl rfl ?_
        refine WR.pass rfl rfl rfl rfl ?_
        refine WR.pass rfl rfl rfl rfl ?_
        refine WR.pass rfl rfl rfl rfl ?_
        refine WR.pass rfl rfl rfl rfl ?_
        refine WR.passU rfl rfl rfl ?_
        refine WR.passU rfl rfl rfl ?_
        refine WR.passU rfl rfl rfl ?_
        refine WR.passU rfl rfl rfl ?_
        refine WR.passU rfl rfl rfl ?_
        refine WR.passU rfl rfl rfl ?_
        refine WR.passU rfl rfl rfl ?_
        refine WR.pass rfl rfl rfl rfl ?_
        refine WR.take rfl rfl (by first | rfl | assumption | (simp only [Bool.not_true, Bool.not_false, decide_eq_true_eq, decide_eq_false_iff_not, beq_iff_eq, bne_iff_ne, beq_eq_false_iff_ne, bne_eq_false_iff_eq, gt_iff_lt, ge_iff_le]; omega) | simp_all) ?_
        refine WR.pickF rfl rfl rfl rfl ?_
        refine WR.pickF rfl (by first | rfl | assumption | (simp only [Bool.not_true, Bool.not_false, decide_eq_true_eq, decide_eq_false_iff_not, beq_iff_eq, bne_iff_ne, beq_eq_false_iff_ne, bne_eq_false_iff_eq, gt_iff_lt, ge_iff_le]; omega) | simp_all) rfl rfl ?_
        refine WR.move rfl rfl ?_
        refine WR.take rfl rfl rfl ?_
        refine WR.field rfl fa46_0 rfl ?_
        refine WR.take rfl rfl rfl ?_
        refine WR.load rfl Tryz.underlying4 rfl (show _ = some (Value.bool false) from hR.c0) rfl ?_
        refine WR.take rfl rfl rfl ?_
        refine WR.notOp rfl rfl ?_
        refine WR.take rfl rfl rfl ?_
        refine WR.move rfl rfl ?_
        refine WR.take rfl rfl rfl ?_
        refine WR.field rfl fa46_1 rfl ?_
        refine WR.take rfl rfl rfl ?_
        refine WR.load rfl Tryz.underlying3 rfl (show _ = some (Value.int .i64 ((c : Nat) : Int)) from hR.c1) rfl ?_
        refine WR.take rfl rfl rfl ?_
        refine WR.bin rfl rfl rfl rfl ?_
        refine WR.take rfl rfl rfl ?_
        refine WR.move rfl rfl ?_
        refine WR.pass rfl rfl rfl (by first | rfl | assumption | (simp only [Bool.not_true, Bool.not_false, decide_eq_true_eq, decide_eq_false_iff_not, beq_iff_eq, bne_iff_ne, beq_eq_false_iff_ne, bne_eq_false_iff_eq, gt_iff_lt, ge_iff_le]; omega) | simp_all) ?_
        refine WR.pass rfl rfl rfl (by first | rfl | assumption | (simp only [Bool.not_true, Bool.not_false, decide_eq_true_eq, decide_eq_false_iff_not, beq_iff_eq, bne_iff_ne, beq_eq_false_iff_ne, bne_eq_false_iff_eq, gt_iff_lt, ge_iff_le]; omega) | simp_all) ?_
        refine WR.pass rfl rfl rfl (by first | rfl | assumption | (simp only [Bool.not_true, Bool.not_false, decide_eq_true_eq, decide_eq_false_iff_not, beq_iff_eq, bne_iff_ne, beq_eq_false_iff_ne, bne_eq_false_iff_eq, gt_iff_lt, ge_iff_le]; omega) | simp_all) ?_
        refine WR.pass rfl rfl rfl (by first | rfl | assumption | (simp only [Bool.not_true, Bool.not_false, decide_eq_true_eq, decide_eq_false_iff_not, beq_iff_eq, bne_iff_ne, beq_eq_false_iff_ne, bne_eq_false_iff_eq, gt_iff_lt, ge_iff_le]; omega) | simp_all) ?_
        refine WR.take rfl rfl rfl ?_
        refine WR.pickT rfl (by first | rfl | assumption | (simp only [Bool.not_true, Bool.not_false, decide_eq_true_eq, decide_eq_false_iff_not, beq_iff_eq, bne_iff_ne, beq_eq_false_iff_ne, bne_eq_false_iff_eq, gt_iff_lt, ge_iff_le]; omega) | simp_all) rfl rfl ?_
        refine WR.take rfl rfl rfl ?_
        refine WR.pickT rfl rfl rfl rfl ?_
        refine WR.pickF rfl rfl rfl rfl ?_
        refine WR.nil (WN.seq ?_)
        refine WC.cond rfl (fun h153 => ?_) (fun h153 => ?_)
        · skip
          simp only at h153
          refine WC.seq (WC.region ?_)
          refine WR.assign rfl rfl ?_
          refine WR.assign rfl rfl ?_
          refine WR.nil (WN.seq ?_)
          refine WC.retR rfl rfl ?_
          exact ⟨_, false, rfl, (fun h => by cases h), hS⟩
        · skip
          (first | (cases h153; done) | (simp at h153; omega))
      · skip
        simp only [decide_eq_false_iff_not, Int.not_lt] at h152
        omega
    · skip
      obtain ⟨g, o, rfl, hgH, hgl, hcs⟩ := hrs.lit (by omega)
      have hci := hcs i (by omega)
      have hok := hrs.ok i (by omega)
      have htk := take_snocR (ms := rs) (i := i) (d := default) (by omega)
      clear hcs
      obtain ⟨r, hr⟩ : ∃ r, r = rs.getD i default := ⟨_, rfl⟩
      rw [← hr] at hci hok htk
      (try rw [← hr] at hc)
      (try rw [← hr] at hc1)
      (try rw [← hr] at hc2)
      (try rw [← hr] at hc3)
      obtain ⟨p, ci, Ar, cr, xs⟩ := r
      (try simp only at hc)
      (try simp only at hc1)
      (try simp only at hc2)
      (try simp only at hc3)
      have hc63 := hok.c1
      have hc64 := hok.c0
      simp only at hc63 hc64
      have hxl63 := hok.len
      simp only at hxl63
      have hxu : (u64s xs).length = xs.length := u64s_length xs
      obtain ⟨E, hE⟩ : ∃ E, E = Rl.exp ((rs.take i).map RR.run) := ⟨_, rfl⟩
      have hel : E.length ≤ 12000 := by
        rw [hE]
        have h1 := Rl.exp_len (W := W) (rs := (rs.take i).map RR.run) (fun r hr => by
          obtain ⟨x, hx, rfl⟩ := List.mem_map.1 hr
          obtain ⟨j, hj, rfl⟩ := List.getElem_of_mem hx
          simp only [List.length_take] at hj
          have := hfit j (by omega)
          rw [List.getElem_take]
          rwa [List.getD_eq_getElem?_getD, List.getElem?_eq_getElem (by omega)] at this)
        have h2 : ((rs.take i).map RR.run).length ≤ 40 := by simp; omega
        omega
      rw [← hE] at hO
      subst hc
      obtain ⟨c, rfl⟩ : ∃ c : Nat, ci = (c : Int) := ⟨ci.toNat, by omega⟩
      refine WC.seq (WC.region ?_)
      refine WR.bin rfl rfl rfl rfl ?_
      refine WR.nil (WN.seq (WC.seq ?_))
      refine WC.cond rfl (fun h152 => ?_) (fun h152 => ?_)
      · skip
        simp only [decide_eq_true_eq] at h152
        refine WC.skip (WN.seq ?_)
        refine WC.seq (WC.block ?_)
        refine WC.seq (WC.region ?_)
        refine WR.idx rfl rfl Tryz.underlying23 sz46 (by omega) (by omega) rfl ?_
        refine WR.loadAgg rfl Tryz.underlying46 rfl sz46 (show Rd _ g (o + Int.toNat ((i : Nat) : Int) * 3) 3 (rF _) from hci) rfl ?_
        refine WR.alloc run_zv rfl rfl ?_
        intro w2 hn hs
        obtain ⟨bR, hbR⟩ : ∃ x, x = w1.heap.size := ⟨_, rfl⟩
        have hR0 : Row w2 bR 46 3 (fun i => (#[.bool false, .int .i64 0, .slice none 0 0] : Array Value).getD i undef) := by
          rw [hn, hbR]
          exact Row.alloc _ _ _
        rw [← hbR]
        have hwR := hw0
        rw [← hbR] at hwR
        have hubR := fun (q : Nat) (h : u.ownBlock = some q) => (World.ownsRow.lt hO q h).2
        rw [← hbR] at hubR
        replace hw0 := Nat.le_trans hw0 hs.size
        replace hS := hS.trans hs (by simp <;> omega)
        replace hrs := hrs.same hs (by simp <;> omega)
        replace hok := hok.same hs (by first | (simp <;> omega) | (intro hm; have := hS9 _ hm; omega) | (intro g hm; have := hS9 _ hm; omega) | (intro g hm; have := hS9 _ hm; exact .inr (by omega)))
        replace hO := hO.keep hs (by first | (intro g hm; simp; done) | (intro g hm; have := hub g hm; simp <;> omega))
        clear hn hs
        refine WR.storeAgg (n := 3) rfl rfl sz46 rfl (agg_one fun i hi => rF_one _ hi) hR0 (by decide) ?_
        intro w3 hn hs
        have hR : RC w3 bR _ := hn.congr fun i hi => ovr_range hi
        replace hw0 := Nat.le_trans hw0 hs.size
        replace hS := hS.trans hs (by simp <;> omega)
        replace hrs := hrs.same hs (by simp <;> omega)
        replace hO := hO.keep hs (fun g hm => by have := hubR g hm; simp <;> omega)
        replace hok := hok.same hs (by simp <;> omega)
        clear hn hs hR0
        refine WR.nil (WN.seq ?_)
        refine WC.seq (WC.seq (WC.region ?_))
        refine WR.field rfl fa46_1 rfl ?_
        refine WR.load rfl Tryz.underlying3 rfl (show _ = some (Value.int .i64 ((c : Nat) : Int)) from hR.c1) rfl ?_
        refine WR.bin rfl rfl rfl rfl ?_
        refine WR.move rfl rfl ?_
        refine WR.take rfl rfl (by first | rfl | assumption | (simp only [Bool.not_true, Bool.not_false, decide_eq_true_eq, decide_eq_false_iff_not, beq_iff_eq, bne_iff_ne, beq_eq_false_iff_ne, bne_eq_false_iff_eq, gt_iff_lt, ge_iff_le]; omega) | simp_all) ?_
        refine WR.field rfl fa46_0 rfl ?_
        refine WR.take rfl rfl (by first | rfl | assumption | (simp only [Bool.not_true, Bool.not_false, decide_eq_true_eq, decide_eq_false_iff_not, beq_iff_eq, bne_iff_ne, beq_eq_false_iff_ne, bne_eq_false_iff_eq, gt_iff_lt, ge_iff_le]; omega) | simp_all) ?_
        refine WR.load rfl Tryz.underlying4 rfl (show _ = some (Value.bool false) from hR.c0) rfl ?_
        refine WR.take rfl rfl (by first | rfl | assumption | (simp only [Bool.not_true, Bool.not_false, decide_eq_true_eq, decide_eq_false_iff_not, beq_iff_eq, bne_iff_ne, beq_eq_false_iff_ne, bne_eq_false_iff_eq, gt_iff_lt, ge_iff_le]; omega) | simp_all) ?_
        refine WR.move rfl rfl ?_
        refine WR.pass rfl rfl rfl rfl ?_
        refine WR.pass rfl rfl rfl rfl ?_
        refine WR.pass rfl rfl rfl rfl ?_
        refine WR.pass rfl rfl rfl rfl ?_
        refine WR.passU rfl rfl rfl ?_
        refine WR.passU rfl rfl rfl ?_
        refine WR.passU rfl rfl rfl ?_
        refine WR.passU rfl rfl rfl ?_
        refine WR.passU rfl rfl rfl ?_
        refine WR.passU rfl rfl rfl ?_
        refine WR.passU rfl rfl rfl ?_
        refine WR.pass rfl rfl rfl rfl ?_
        refine WR.take rfl rfl (by first | rfl | assumption | (simp only [Bool.not_true, Bool.not_false, decide_eq_true_eq, decide_eq_false_iff_not, beq_iff_eq, bne_iff_ne, beq_eq_false_iff_ne, bne_eq_false_iff_eq, gt_iff_lt, ge_iff_le]; omega) | simp_all) ?_
        refine WR.pickF rfl rfl rfl rfl ?_
        refine WR.pickF rfl (by first | rfl | assumption | (simp only [Bool.not_true, Bool.not_false, decide_eq_true_eq, decide_eq_false_iff_not, beq_iff_eq, bne_iff_ne, beq_eq_false_iff_ne, bne_eq_false_iff_eq, gt_iff_lt, ge_iff_le]; omega) | simp_all) rfl rfl ?_
        refine WR.move rfl rfl ?_
        refine WR.take rfl rfl rfl ?_
        refine WR.field rfl fa46_0 rfl ?_
        refine WR.take rfl rfl rfl ?_
        refine WR.load rfl Tryz.underlying4 rfl (show _ = some (Value.bool false) from hR.c0) rfl ?_
        refine WR.take rfl rfl rfl ?_
        refine WR.notOp rfl rfl ?_
        refine WR.take rfl rfl rfl ?_
        refine WR.move rfl rfl ?_
        refine WR.take rfl rfl rfl ?_
        refine WR.field rfl fa46_1 rfl ?_
        refine WR.take rfl rfl rfl ?_
        refine WR.load rfl Tryz.underlying3 rfl (show _ = some (Value.int .i64 ((c : Nat) : Int)) from hR.c1) rfl ?_
        refine WR.take rfl rfl rfl ?_
        refine WR.bin rfl rfl rfl rfl ?_
        refine WR.take rfl rfl rfl ?_
        refine WR.move rfl rfl ?_
        refine WR.take rfl rfl (by first | rfl | assumption | (simp only [Bool.not_true, Bool.not_false, decide_eq_true_eq, decide_eq_false_iff_not, beq_iff_eq, bne_iff_ne, beq_eq_false_iff_ne, bne_eq_false_iff_eq, gt_iff_lt, ge_iff_le]; omega) | simp_all) ?_
        refine WR.field rfl fa46_2 rfl ?_
        refine WR.take rfl rfl (by first | rfl | assumption | (simp only [Bool.not_true, Bool.not_false, decide_eq_true_eq, decide_eq_false_iff_not, beq_iff_eq, bne_iff_ne, beq_eq_false_iff_ne, bne_eq_false_iff_eq, gt_iff_lt, ge_iff_le]; omega) | simp_all) ?_
        refine WR.load rfl Tryz.underlying37 rfl (show _ = some (Value.slice Ar xs.length cr) from hR.c2) rfl ?_
        refine WR.take rfl rfl (by first | rfl | assumption | (simp only [Bool.not_true, Bool.not_false, decide_eq_true_eq, decide_eq_false_iff_not, beq_iff_eq, bne_iff_ne, beq_eq_false_iff_ne, bne_eq_false_iff_eq, gt_iff_lt, ge_iff_le]; omega) | simp_all) ?_
        refine WR.lenS rfl Tryz.underlying37 rfl ?_
        refine WR.take rfl rfl (by first | rfl | assumption | (simp only [Bool.not_true, Bool.not_false, decide_eq_true_eq, decide_eq_false_iff_not, beq_iff_eq, bne_iff_ne, beq_eq_false_iff_ne, bne_eq_false_iff_eq, gt_iff_lt, ge_iff_le]; omega) | simp_all) ?_
        refine WR.bin rfl rfl rfl rfl ?_
        refine WR.take rfl rfl rfl ?_
        refine WR.pickF rfl (by first | rfl | assumption | (simp only [Bool.not_true, Bool.not_false, decide_eq_true_eq, decide_eq_false_iff_not, beq_iff_eq, bne_iff_ne, beq_eq_false_iff_ne, bne_eq_false_iff_eq, gt_iff_lt, ge_iff_le]; omega) | simp_all) rfl rfl ?_
        refine WR.take rfl rfl rfl ?_
        refine WR.pickT rfl rfl rfl rfl ?_
        refine WR.pickF rfl rfl rfl rfl ?_
        refine WR.nil (WN.seq ?_)
        refine WC.cond rfl (fun h153 => ?_) (fun h153 => ?_)
        · skip
          simp only [bne_iff_ne, ne_eq] at h153
          refine WC.seq (WC.region ?_)
          refine WR.assign rfl rfl ?_
          refine WR.assign rfl rfl ?_
          refine WR.nil (WN.seq ?_)
          refine WC.retR rfl rfl ?_
          exact ⟨_, false, rfl, (fun h => by cases h), hS⟩
        · skip
          (first | (cases h153; done) | (simp at h153; omega))
      · skip
        simp only [decide_eq_false_iff_not, Int.not_lt] at h152
        omega
    · skip
      obtain ⟨g, o, rfl, hgH, hgl, hcs⟩ := hrs.lit (by omega)
      have hci := hcs i (by omega)
      have hok := hrs.ok i (by omega)
      have htk := take_snocR (ms := rs) (i := i) (d := default) (by omega)
      clear hcs
      obtain ⟨r, hr⟩ : ∃ r, r = rs.getD i default := ⟨_, rfl⟩
      rw [← hr] at hci hok htk
      (try rw [← hr] at hc)
      (try rw [← hr] at hc1)
      (try rw [← hr] at hc2)
      (try rw [← hr] at hc3)
      obtain ⟨p, ci, Ar, cr, xs⟩ := r
      (try simp only at hc)
      (try simp only at hc1)
      (try simp only at hc2)
      (try simp only at hc3)
      have hc63 := hok.c1
      have hc64 := hok.c0
      simp only at hc63 hc64
      have hxl63 := hok.len
      simp only at hxl63
      have hxu : (u64s xs).length = xs.length := u64s_length xs
      obtain ⟨E, hE⟩ : ∃ E, E = Rl.exp ((rs.take i).map RR.run) := ⟨_, rfl⟩
      have hel : E.length ≤ 12000 := by
        rw [hE]
        have h1 := Rl.exp_len (W := W) (rs := (rs.take i).map RR.run) (fun r hr => by
          obtain ⟨x, hx, rfl⟩ := List.mem_map.1 hr
          obtain ⟨j, hj, rfl⟩ := List.getElem_of_mem hx
          simp only [List.length_take] at hj
          have := hfit j (by omega)
          rw [List.getElem_take]
          rwa [List.getD_eq_getElem?_getD, List.getElem?_eq_getElem (by omega)] at this)
        have h2 : ((rs.take i).map RR.run).length ≤ 40 := by simp; omega
        omega
      rw [← hE] at hO
      subst hc
      obtain ⟨c, rfl⟩ : ∃ c : Nat, ci = (c : Int) := ⟨ci.toNat, by omega⟩
      refine WC.seq (WC.region ?_)
      refine WR.bin rfl rfl rfl rfl ?_
      refine WR.nil (WN.seq (WC.seq ?_))
      refine WC.cond rfl (fun h152 => ?_) (fun h152 => ?_)
      · skip
        simp only [decide_eq_true_eq] at h152
        refine WC.skip (WN.seq ?_)
        refine WC.seq (WC.block ?_)
        refine WC.seq (WC.region ?_)
        refine WR.idx rfl rfl Tryz.underlying23 sz46 (by omega) (by omega) rfl ?_
        refine WR.loadAgg rfl Tryz.underlying46 rfl sz46 (show Rd _ g (o + Int.toNat ((i : Nat) : Int) * 3) 3 (rF _) from hci) rfl ?_
        refine WR.alloc run_zv rfl rfl ?_
        intro w2 hn hs
        obtain ⟨bR, hbR⟩ : ∃ x, x = w1.heap.size := ⟨_, rfl⟩
        have hR0 : Row w2 bR 46 3 (fun i => (#[.bool false, .int .i64 0, .slice none 0 0] : Array Value).getD i undef) := by
          rw [hn, hbR]
          exact Row.alloc _ _ _
        rw [← hbR]
        have hwR := hw0
        rw [← hbR] at hwR
        have hubR := fun (q : Nat) (h : u.ownBlock = some q) => (World.ownsRow.lt hO q h).2
        rw [← hbR] at hubR
        replace hw0 := Nat.le_trans hw0 hs.size
        replace hS := hS.trans hs (by simp <;> omega)
        replace hrs := hrs.same hs (by simp <;> omega)
        replace hok := hok.same hs (by first | (simp <;> omega) | (intro hm; have := hS9 _ hm; omega) | (intro g hm; have := hS9 _ hm; omega) | (intro g hm; have := hS9 _ hm; exact .inr (by omega)))
        replace hO := hO.keep hs (by first | (intro g hm; simp; done) | (intro g hm; have := hub g hm; simp <;> omega))
        clear hn hs
        refine WR.storeAgg (n := 3) rfl rfl sz46 rfl (agg_one fun i hi => rF_one _ hi) hR0 (by decide) ?_
        intro w3 hn hs
        have hR : RC w3 bR _ := hn.congr fun i hi => ovr_range hi
        replace hw0 := Nat.le_trans hw0 hs.size
        replace hS := hS.trans hs (by simp <;> omega)
        replace hrs := hrs.same hs (by simp <;> omega)
        replace hO := hO.keep hs (fun g hm => by have := hubR g hm; simp <;> omega)
        replace hok := hok.same hs (by simp <;> omega)
        clear hn hs hR0
        refine WR.nil (WN.seq ?_)
        refine WC.seq (WC.seq (WC.region ?_))
        refine WR.field rfl fa46_1 rfl ?_
        refine WR.load rfl Tryz.underlying3 rfl (show _ = some (Value.int .i64 ((c : Nat) : Int)) from hR.c1) rfl ?_
        refine WR.bin rfl rfl rfl rfl ?_
        refine WR.move rfl rfl ?_
        refine WR.take rfl rfl (by first | rfl | assumption | (simp only [Bool.not_true, Bool.not_false, decide_eq_true_eq, decide_eq_false_iff_not, beq_iff_eq, bne_iff_ne, beq_eq_false_iff_ne, bne_eq_false_iff_eq, gt_iff_lt, ge_iff_le]; omega) | simp_all) ?_
        refine WR.field rfl fa46_0 rfl ?_
        refine WR.take rfl rfl (by first | rfl | assumption | (simp only [Bool.not_true, Bool.not_false, decide_eq_true_eq, decide_eq_false_iff_not, beq_iff_eq, bne_iff_ne, beq_eq_false_iff_ne, bne_eq_false_iff_eq, gt_iff_lt, ge_iff_le]; omega) | simp_all) ?_
        refine WR.load rfl Tryz.underlying4 rfl (show _ = some (Value.bool false) from hR.c0) rfl ?_
        refine WR.take rfl rfl (by first | rfl | assumption | (simp only [Bool.not_true, Bool.not_false, decide_eq_true_eq, decide_eq_false_iff_not, beq_iff_eq, bne_iff_ne, beq_eq_false_iff_ne, bne_eq_false_iff_eq, gt_iff_lt, ge_iff_le]; omega) | simp_all) ?_
        refine WR.move rfl rfl ?_
        refine WR.pass rfl rfl rfl rfl ?_
        refine WR.pass rfl rfl rfl rfl ?_
        refine WR.pass rfl rfl rfl rfl ?_
        refine WR.pass rfl rfl rfl rfl ?_
        refine WR.passU rfl rfl rfl ?_
        refine WR.passU rfl rfl rfl ?_
        refine WR.passU rfl rfl rfl ?_
        refine WR.passU rfl rfl rfl ?_
        refine WR.passU rfl rfl rfl ?_
        refine WR.passU rfl rfl rfl ?_
        refine WR.passU rfl rfl rfl ?_
        refine WR.pass rfl rfl rfl rfl ?_
        refine WR.take rfl rfl (by first | rfl | assumption | (simp only [Bool.not_true, Bool.not_false, decide_eq_true_eq, decide_eq_false_iff_not, beq_iff_eq, bne_iff_ne, beq_eq_false_iff_ne, bne_eq_false_iff_eq, gt_iff_lt, ge_iff_le]; omega) | simp_all) ?_
        refine WR.pickF rfl rfl rfl rfl ?_
        refine WR.pickF rfl (by first | rfl | assumption | (simp only [Bool.not_true, Bool.not_false, decide_eq_true_eq, decide_eq_false_iff_not, beq_iff_eq, bne_iff_ne, beq_eq_false_iff_ne, bne_eq_false_iff_eq, gt_iff_lt, ge_iff_le]; omega) | simp_all) rfl rfl ?_
        refine WR.move rfl rfl ?_
        refine WR.take rfl rfl rfl ?_
        refine WR.field rfl fa46_0 rfl ?_
        refine WR.take rfl rfl rfl ?_
        refine WR.load rfl Tryz.underlying4 rfl (show _ = some (Value.bool false) from hR.c0) rfl ?_
        refine WR.take rfl rfl rfl ?_
        refine WR.notOp rfl rfl ?_
        refine WR.take rfl rfl rfl ?_
        refine WR.move rfl rfl ?_
        refine WR.take rfl rfl rfl ?_
        refine WR.field rfl fa46_1 rfl ?_
        refine WR.take rfl rfl rfl ?_
        refine WR.load rfl Tryz.underlying3 rfl (show _ = some (Value.int .i64 ((c : Nat) : Int)) from hR.c1) rfl ?_
        refine WR.take rfl rfl rfl ?_
        refine WR.bin rfl rfl rfl rfl ?_
        refine WR.take rfl rfl rfl ?_
        refine WR.move rfl rfl ?_
        refine WR.take rfl rfl (by first | rfl | assumption | (simp only [Bool.not_true, Bool.not_false, decide_eq_true_eq, decide_eq_false_iff_not, beq_iff_eq, bne_iff_ne, beq_eq_false_iff_ne, bne_eq_false_iff_eq, gt_iff_lt, ge_iff_le]; omega) | simp_all) ?_
        refine WR.field rfl fa46_2 rfl ?_
        refine WR.take rfl rfl (by first | rfl | assumption | (simp only [Bool.not_true, Bool.not_false, decide_eq_true_eq, decide_eq_false_iff_not, beq_iff_eq, bne_iff_ne, beq_eq_false_iff_ne, bne_eq_false_iff_eq, gt_iff_lt, ge_iff_le]; omega) | simp_all) ?_
        refine WR.load rfl Tryz.underlying37 rfl (show _ = some (Value.slice Ar xs.length cr) from hR.c2) rfl ?_
        refine WR.take rfl rfl (by first | rfl | assumption | (simp only [Bool.not_true, Bool.not_false, decide_eq_true_eq, decide_eq_false_iff_not, beq_iff_eq, bne_iff_ne, beq_eq_false_iff_ne, bne_eq_false_iff_eq, gt_iff_lt, ge_iff_le]; omega) | simp_all) ?_
        refine WR.lenS rfl Tryz.underlying37 rfl ?_
        refine WR.take rfl rfl (by first | rfl | assumption | (simp only [Bool.not_true, Bool.not_false, decide_eq_true_eq, decide_eq_false_iff_not, beq_iff_eq, bne_iff_ne, beq_eq_false_iff_ne, bne_eq_false_iff_eq, gt_iff_lt, ge_iff_le]; omega) | simp_all) ?_
        refine WR.bin rfl rfl rfl rfl ?_
        refine WR.take rfl rfl rfl ?_
        refine WR.pickF rfl (by first | rfl | assumption | (simp only [Bool.not_true, Bool.not_false, decide_eq_true_eq, decide_eq_false_iff_not, beq_iff_eq, bne_iff_ne, beq_eq_false_iff_ne, bne_eq_false_iff_eq, gt_iff_lt, ge_iff_le]; omega) | simp_all) rfl rfl ?_
        refine WR.take rfl rfl rfl ?_
        refine WR.pickT rfl rfl rfl rfl ?_
        refine WR.pickF rfl rfl rfl rfl ?_
        refine WR.nil (WN.seq ?_)
        refine WC.cond rfl (fun h153 => ?_) (fun h153 => ?_)
        · skip
          (first | (cases h153; done) | (simp at h153; omega))
        · skip
          simp only [bne_eq_false_iff_eq] at h153
          refine WC.skip (WN.seq ?_)
          refine WC.seq (WC.seq (WC.region ?_))
          refine WR.field rfl fa46_2 rfl ?_
          refine WR.load rfl Tryz.underlying37 rfl (show _ = some (Value.slice Ar xs.length cr) from hR.c2) rfl ?_
          refine WR.lenS rfl Tryz.underlying37 rfl ?_
          refine WR.move rfl rfl ?_
          refine WR.nil (WN.seq (WC.block ?_))
          refine WC.loop (fun q : Nat => [(8, .pointer (some ⟨bR, 0, none⟩)), (68, .slice Ar xs.length cr), (69, .int .i64 (xs.length : Nat)), (70, .int .i64 (q : Nat)), (1, .int .i64 (W : Nat)), (6, u), (24, .slice (some ⟨g, o, none⟩) n cl), (25, .int .i64 (n : Nat)), (26, .int .i64 (i : Nat))]) (fun k2 q w' => q + k2 = xs.length ∧ w' = w3 ∧ ∀ q', q' < q → xs.getD q' 0 < 2 ^ W) xs.length 0 ⟨rfl, rfl, rfl, rfl, rfl, rfl, rfl, rfl, rfl, trivial⟩ ⟨by omega, rfl, fun q' h => absurd h (Nat.not_lt_zero q')⟩ ?_
          rintro k2 q w9 ⟨hk2, hw9, hall⟩
          replace hw9 := hw9.symm
          subst hw9
          refine WC.seq (WC.region ?_)
          refine WR.bin rfl rfl rfl rfl ?_
          refine WR.nil (WN.seq (WC.seq ?_))
          refine WC.cond rfl (fun h156 => ?_) (fun h156 => ?_)
          · skip
            simp only [decide_eq_true_eq] at h156
            obtain ⟨gv, ov, ev, hev, hgv, hlv, hrv⟩ := hok.ls.lit (by simp only [hxu]; omega)
            simp only [Value.slice.injEq] at hev
            obtain ⟨rfl, -, rfl⟩ := hev
            simp only [hxu] at hrv
            refine WC.skip (WN.seq ?_)
            refine WC.seq (WC.block ?_)
            refine WC.seq (WC.region ?_)
            refine WR.idxK (q) rfl rfl Tryz.underlying37 sz33 (by omega) (by omega) rfl ?_
            refine WR.load rfl Tryz.underlying33 rfl (show _ = some (Value.int .u64 (xs.getD q 0 : Nat)) from (hrv q (by omega)).trans (congrArg some (u64s_getD (by omega)))) rfl ?_
            refine WR.assign rfl rfl ?_
            refine WR.nil (WN.seq ?_)
            refine WC.seq (WC.region ?_)
            refine WR.move rfl rfl ?_
            refine WR.bin rfl rfl rfl rfl ?_
            refine WR.move rfl rfl ?_
            refine WR.take rfl rfl (by first | rfl | assumption | (simp only [Bool.not_true, Bool.not_false, decide_eq_true_eq, decide_eq_false_iff_not, beq_iff_eq, bne_iff_ne, beq_eq_false_iff_ne, bne_eq_false_iff_eq, gt_iff_lt, ge_iff_le]; omega) | simp_all) ?_
            refine WR.move rfl rfl ?_
            refine WR.take rfl rfl (by first | rfl | assumption | (simp only [Bool.not_true, Bool.not_false, decide_eq_true_eq, decide_eq_false_iff_not, beq_iff_eq, bne_iff_ne, beq_eq_false_iff_ne, bne_eq_false_iff_eq, gt_iff_lt, ge_iff_le]; omega) | simp_all) ?_
            refine WR.move rfl rfl ?_
            refine WR.take rfl rfl (by first | rfl | assumption | (simp only [Bool.not_true, Bool.not_false, decide_eq_true_eq, decide_eq_false_iff_not, beq_iff_eq, bne_iff_ne, beq_eq_false_iff_ne, bne_eq_false_iff_eq, gt_iff_lt, ge_iff_le]; omega) | simp_all) ?_
            refine WR.shr rfl rfl (by omega) (z := ((xs.getD q 0 / 2 ^ W : Nat) : Int)) (sp_shr (by show W ≤ 64; omega)) rfl ?_
            refine WR.take rfl rfl (by first | rfl | assumption | (simp only [Bool.not_true, Bool.not_false, decide_eq_true_eq, decide_eq_false_iff_not, beq_iff_eq, bne_iff_ne, beq_eq_false_iff_ne, bne_eq_false_iff_eq, gt_iff_lt, ge_iff_le]; omega) | simp_all) ?_
            refine WR.bin rfl rfl rfl rfl ?_
            refine WR.pickT rfl (by first | rfl | assumption | (simp only [Bool.not_true, Bool.not_false, decide_eq_true_eq, decide_eq_false_iff_not, beq_iff_eq, bne_iff_ne, beq_eq_false_iff_ne, bne_eq_false_iff_eq, gt_iff_lt, ge_iff_le]; omega) | simp_all) rfl rfl ?_
            refine WR.nil (WN.seq ?_)
            refine WC.cond rfl (fun h157 => ?_) (fun h157 => ?_)
            · skip
              simp only [gt_iff_lt, decide_eq_true_eq] at h157
              refine WC.seq (WC.region ?_)
              refine WR.assign rfl rfl ?_
              refine WR.assign rfl rfl ?_
              refine WR.nil (WN.seq ?_)
              refine WC.retR rfl rfl ?_
              exact ⟨_, false, rfl, (fun h => by cases h), hS⟩
            · skip
              simp only [gt_iff_lt, decide_eq_false_iff_not, Int.not_lt] at h157
              have hxq : xs.getD q 0 < 2 ^ W := div_zero_lt (Nat.le_zero.1 (by exact_mod_cast h157))
              refine WC.skip (WN.block ?_)
              refine WN.seq (WC.region ?_)
              (refine WR.bin rfl rfl (ar_add (wrap_i64 ?_ ?_)) rfl ?_; (omega); (omega))
              refine WR.move rfl rfl ?_
              refine WR.nil ?_
              exact WN.loop (k2 - 1) (q + 1) (by omega) ⟨rfl, rfl, rfl, kint rfl (by omega), rfl, rfl, rfl, rfl, rfl, trivial⟩ ⟨by omega, rfl, fun q' h => by rcases Nat.lt_or_ge q' q with h2 | h2; exact hall q' h2; obtain rfl : q' = q := (by omega); exact hxq⟩
          · skip
            simp only [decide_eq_false_iff_not, Int.not_lt] at h156
            have hall2 : ∀ v, v ∈ xs → v < 2 ^ W := fun v hv => by
              obtain ⟨q, hq, rfl⟩ := List.getElem_of_mem hv
              have := hall q (by omega)
              rwa [List.getD_eq_getElem?_getD, List.getElem?_eq_getElem hq] at this
            have hfr : Rl.Fit W (RR.run ⟨false, ((c : Nat) : Int), Ar, cr, xs⟩) := ⟨by simp [RR.run]; omega, fun h => (by cases h), fun _ => ⟨by simp [RR.run]; omega, by simp [RR.run]; omega⟩, hall2⟩
            have hfit2 : ∀ j, j < i + 1 → Rl.Fit W (rs.getD j default).run := fun j hj => by
              rcases Nat.lt_or_ge j i with h | h
              · exact hfit j h
              · obtain rfl : j = i := by omega
                rw [← hr]
                exact hfr
            refine WC.exit rfl ?_
            refine WN.seq (WC.seq ?_)
            refine WC.seq (WC.region ?_)
            refine WR.field rfl fa46_0 rfl ?_
            refine WR.load rfl Tryz.underlying4 rfl (show _ = some (Value.bool false) from hR.c0) rfl ?_
            refine WR.nil (WN.seq ?_)
            refine WC.cond rfl (fun h161 => ?_) (fun h161 => ?_)
            · skip
              cases h161
            · skip
              simp only at h161
              refine WC.skip (WN.seq ?_)
              refine WC.seq (WC.region ?_)
              refine WR.assign rfl rfl ?_
              refine WR.nil (WN.seq (WC.block ?_))
              have hO0 : Own w3 H 33 u (u64s (E ++ List.replicate 0 (xs.getD 0 0))) := by rw [List.replicate_zero, List.append_nil]; exact hO
              have hub : ∀ q, u.ownBlock = some q → q ≠ bR := fun q h => by have := hubR q h; omega
              refine WC.loop (fun s : Nat × Value => [(8, .pointer (some ⟨bR, 0, none⟩)), (12, .int .i64 (s.1 : Nat)), (1, .int .i64 (W : Nat)), (6, s.2), (24, .slice (some ⟨g, o, none⟩) n cl), (25, .int .i64 (n : Nat)), (26, .int .i64 (i : Nat))]) (fun k2 s w' => s.1 + k2 = c ∧ H ≤ w'.heap.size ∧ Same [] w w' ∧ RS w' H (.slice (some ⟨g, o, none⟩) n cl) rs ∧ RC w' bR ⟨false, ((c : Nat) : Int), Ar, cr, xs⟩ ∧ RR.OK w' H ⟨false, ((c : Nat) : Int), Ar, cr, xs⟩ ∧ (∀ q, s.2.ownBlock = some q → q ≠ bR) ∧ Own w' H 33 s.2 (u64s (E ++ List.replicate s.1 (xs.getD 0 0)))) c (0, u) ⟨rfl, rfl, rfl, rfl, rfl, rfl, rfl, trivial⟩ ⟨by simp, hw0, hS, hrs, hR, hok, hub, hO0⟩ ?_
              clear hS hw0 hrs hO hO0 hR hok hub
              rintro k2 ⟨j, u2⟩ w4 ⟨hk2, hw0, hS, hrs, hR, hok, hub, hO⟩
              simp only at hk2 hO hub
              obtain ⟨gv, ov, ev, hev, hgv, hlv, hrv⟩ := hok.ls.lit (by simp only [hxu]; omega)
              simp only [Value.slice.injEq] at hev
              obtain ⟨hAr, -, rfl⟩ := hev
              simp only [hxu] at hrv
              refine WC.seq (WC.seq (WC.region ?_))
              refine WR.move rfl rfl ?_
              refine WR.field rfl fa46_1 rfl ?_
              refine WR.load rfl Tryz.underlying3 rfl (show _ = some (Value.int .i64 ((c : Nat) : Int)) from hR.c1) rfl ?_
              refine WR.bin rfl rfl rfl rfl ?_
              refine WR.nil (WN.seq ?_)
              refine WC.cond rfl (fun h168 => ?_) (fun h168 => ?_)
              · skip
                simp only [decide_eq_true_eq] at h168
                refine WC.skip (WN.seq ?_)
                refine WC.seq (WC.block (WC.region ?_))
                refine WR.move rfl rfl ?_
                refine WR.field rfl fa46_2 rfl ?_
                refine WR.load rfl Tryz.underlying37 rfl (show _ = some (Value.slice (some ⟨gv, ov, none⟩) xs.length _) from hR.c2.trans (by rw [hAr])) rfl ?_
                refine WR.idx rfl rfl Tryz.underlying37 sz33 (by decide) (by omega) rfl ?_
                refine WR.load rfl Tryz.underlying33 rfl (show _ = some (Value.int .u64 (xs.getD 0 0 : Nat)) from (hrv 0 (by omega)).trans (congrArg some (u64s_getD (by omega)))) rfl ?_
                obtain ⟨nz, hnz⟩ : ∃ x, x = w4.heap.size := ⟨_, rfl⟩
                refine WR.buildSl (E := 33) (cs := #[.int .u64 (xs.getD 0 0 : Nat)]) rfl rfl (fun w => by kernel_rfl) rfl rfl ?_
                rw [← hnz]
                intro w5 hM hs
                replace hw0 := Nat.le_trans hw0 hs.size
                replace hS := hS.trans hs (by simp <;> omega)
                replace hrs := hrs.same hs (by simp <;> omega)
                replace hR := hR.same hs (by first | (simp <;> omega) | (intro hm; have := hS9 _ hm; omega) | (intro g hm; have := hS9 _ hm; omega) | (intro g hm; have := hS9 _ hm; exact .inr (by omega)))
                replace hok := hok.same hs (by first | (simp <;> omega) | (intro hm; have := hS9 _ hm; omega) | (intro g hm; have := hS9 _ hm; omega) | (intro g hm; have := hS9 _ hm; exact .inr (by omega)))
                replace hO := hO.keep hs (by first | (intro g hm; simp; done) | (intro g hm; have := hub g hm; simp <;> omega))
                clear hs
                have hS9 : ∀ g, g ∈ u2.ownBlock.toList → H ≤ g ∧ g ≠ bR := fun g hm => ⟨(World.ownsRow.lt hO g (by simpa using hm)).1, hub g (by simpa using hm)⟩
                have hRl2 := hR.lt
                refine WR.appendF rfl hO rfl (show Ls _ 0 _ (u64s [xs.getD 0 0]) from hM.lsOne) (fun i hi => u64s_one hi) Tryz.underlying37 mk33 rfl (by decide) (by simp [u64s_length]; omega) (by omega) rfl rfl ?_
                intro u3 w6 hn hs hfr
                replace hO := hn
                replace hw0 := Nat.le_trans hw0 hs.size
                replace hS := hS.trans hs (by first | (simp <;> omega) | (intro hm; have := hS9 _ hm; omega) | (intro g hm; have := hS9 _ hm; omega) | (intro g hm; have := hS9 _ hm; exact .inr (by omega)))
                replace hrs := hrs.same hs (by first | (simp <;> omega) | (intro hm; have := hS9 _ hm; omega) | (intro g hm; have := hS9 _ hm; omega) | (intro g hm; have := hS9 _ hm; exact .inr (by omega)))
                replace hR := hR.same hs (by first | (simp <;> omega) | (intro hm; have := hS9 _ hm; omega) | (intro g hm; have := hS9 _ hm; omega) | (intro g hm; have := hS9 _ hm; exact .inr (by omega)))
                replace hok := hok.same hs (by first | (simp <;> omega) | (intro hm; have := hS9 _ hm; omega) | (intro g hm; have := hS9 _ hm; omega) | (intro g hm; have := hS9 _ hm; exact .inr (by omega)))
                have hub3 : ∀ q, u3.ownBlock = some q → q ≠ bR := fun q h => by rcases hfr q h with h | h; exact hub q h; omega
                clear hS9
                clear hn hs
                refine WR.assign rfl rfl ?_
                refine WR.nil (WN.block ?_)
                refine WN.seq (WC.region ?_)
                refine WR.move rfl rfl ?_
                (refine WR.bin rfl rfl (ar_add (z := ((j + 1 : Nat) : Int)) ?_) rfl ?_; (rw [wrap_i64 (by omega) (by omega)]; omega))
                refine WR.assign rfl rfl ?_
                refine WR.nil ?_
                exact WN.loop (k2 - 1) (j + 1, u3) (by omega) ⟨rfl, kint rfl (by omega), rfl, rfl, rfl, rfl, rfl, trivial⟩ ⟨show j + 1 + (k2 - 1) = c by omega, hw0, hS, hrs, hR, hok, hub3, by rw [rep_succX]; exact hO⟩
              · skip
                simp only [decide_eq_false_iff_not, Int.not_lt] at h168
                refine WC.exit rfl ?_
                refine WN.block (WN.seq (WC.region ?_))
                (refine WR.bin rfl rfl (ar_add (wrap_i64 ?_ ?_)) rfl ?_; (omega); (omega))
                refine WR.move rfl rfl ?_
                refine WR.nil ?_
                exact WN.loop (k - 1) (i + 1, u2) (by omega) ⟨rfl, rfl, rfl, rfl, kint rfl (by omega), trivial⟩ ⟨show i + 1 + (k - 1) = n by omega, hw0, hS, hrs, hfit2, by rw [htk, List.map_append, show ∀ a b, Rl.exp (a ++ b) = Rl.exp a ++ Rl.exp b from fun a b => by simp [Rl.exp], ← hE, show Rl.exp (List.map RR.run [⟨false, ((c : Nat) : Int), Ar, cr, xs⟩]) = List.replicate c (xs.getD 0 0) by simp [Rl.exp, Rl.expR, RR.run]]; rw [show c = j by omega]; exact hO⟩
      · skip
        simp only [decide_eq_false_iff_not, Int.not_lt] at h152
        omega

end Go.Proofs.YthmknddfkmklfaaGreatDoor.Vm
