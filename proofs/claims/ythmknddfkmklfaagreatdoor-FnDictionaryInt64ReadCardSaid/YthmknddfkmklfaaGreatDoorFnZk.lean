/- Values by their numbers; data by their runs. -/
import Derived.Test.YthmknddfkmklfaaGreatDoorFnZj
namespace Go.Proofs.YthmknddfkmklfaaGreatDoor.Vm
open Go Mix Go.RowKit Num
set_option maxRecDepth 20000
set_option linter.unusedSimpArgs false
theorem RR.OK.more {w : World} {lim l2 : Nat} {r : RR} (h : r.OK w lim) (hl : lim ≤ l2) : r.OK w l2 := ⟨h.ls.more hl, h.c0, h.c1, h.len, h.lt⟩
theorem RS.more {w : World} {lim l2 : Nat} {v : Value} {rs : List RR} (h : RS w lim v rs) (hl : lim ≤ l2) : RS w l2 v rs := by
  refine ⟨?_, fun j hj => (h.ok j hj).more hl⟩
  rcases h.cells with h0 | ⟨g, o, c, h1, h2, h3⟩
  · exact .inl h0
  · exact .inr ⟨g, o, c, h1, by omega, h3⟩
theorem cf27 (us : Array Value) (w : World) : (callFunc 27 us).run Tryz.prog w = .ok (.enter 27 us) w := by kernel_rfl
theorem cf28 (us : Array Value) (w : World) : (callFunc 28 us).run Tryz.prog w = .ok (.enter 28 us) w := by kernel_rfl
set_option maxHeartbeats 800000 in
theorem indexed {w : World} (ds : List VS) (ks : List Nat) (A Ak : Option Addr) (N c m ck H : Nat) (hH : H = w.heap.size) (hd : LuV w H (.slice A N c) (ds.map vC)) (hN : N = ds.length) (hN2 : N ≤ 2147483647) (hk : Lu w H (.slice Ak m ck) (u64s ks)) (hm : m = ks.length) (hm2 : m ≤ 1048576) :
    Ret Tryz.prog 9 #[.slice A N c, .slice Ak m ck] w fun v w' => ∃ u b, v = .tuple #[u, .bool b] ∧ (b = true → (∀ j, j < ks.length → ks.getD j 0 < N) ∧ OwV w' H u (ks.map fun k => vC (ds.getD k default))) ∧ Same [] w w' := by
  have hS := Same.refl [] w
  have hw0 := Nat.le_of_eq hH
  have hkl := u64s_length ks
  refine Ret.enter (vs := [.slice A N c, .slice Ak m ck]) Tryz.func9 Tryz.ntmps9 rfl rfl ?_
  refine WC.seq (WC.region ?_)
  refine WR.assign rfl rfl ?_
  refine WR.assign rfl rfl ?_
  refine WR.nil (WN.seq ?_)
  refine WC.seq (WC.region ?_)
  refine WR.assign rfl rfl ?_
  refine WR.nil (WN.seq ?_)
  refine WC.seq (WC.seq (WC.region ?_))
  refine WR.move rfl rfl ?_
  refine WR.lenS rfl Tryz.underlying37 rfl ?_
  refine WR.move rfl rfl ?_
  refine WR.nil (WN.seq (WC.block ?_))
  have hO : OwV w H (.slice none 0 0) ((ks.take 0).map fun k => vC (ds.getD k default)) := OwV.nil _ _
  refine WC.loop (fun s : Nat × Value => [(0, .slice A N c), (6, s.2), (9, .slice Ak m ck), (10, .int .i64 (m : Nat)), (11, .int .i64 (s.1 : Nat))]) (fun k s w' => s.1 + k = m ∧ H ≤ w'.heap.size ∧ Same [] w w' ∧ LuV w' H (.slice A N c) (ds.map vC) ∧ Lu w' H (.slice Ak m ck) (u64s ks) ∧ (∀ j, j < s.1 → ks.getD j 0 < N) ∧ OwV w' H s.2 ((ks.take s.1).map fun k => vC (ds.getD k default))) m (0, .slice none 0 0) ⟨rfl, rfl, rfl, rfl, rfl, trivial⟩ ⟨by simp, hw0, hS, hd, hk, fun j hj => absurd hj (Nat.not_lt_zero j), hO⟩ ?_
  clear hS hw0 hd hk hO
  rintro k ⟨i, u⟩ w1 ⟨hk2, hw0, hS, hd, hk, hall, hO⟩
  simp only at hk2 hall hO
  rcases (show i < m ∧ N ≤ ks.getD i 0 ∨ i < m ∧ ks.getD i 0 < N ∨ i = m by omega) with ⟨hi, hc⟩ | ⟨hi, hc⟩ | rfl
  · skip
    obtain ⟨gI, oI, eI, heI, hgI, hlI2, hrI⟩ := hk.lit (by omega)
    simp only [Value.slice.injEq] at heI
    obtain ⟨rfl, -, rfl⟩ := heI
    refine WC.seq (WC.region ?_)
    refine WR.bin rfl rfl rfl rfl ?_
    refine WR.nil (WN.seq (WC.seq ?_))
    refine WC.cond rfl (fun h44 => ?_) (fun h44 => ?_)
    · skip
      simp only [decide_eq_true_eq] at h44
      refine WC.skip (WN.seq ?_)
      refine WC.seq (WC.block ?_)
      refine WC.seq (WC.region ?_)
      refine WR.idx rfl rfl Tryz.underlying37 sz33 (by omega) (by omega) rfl ?_
      refine WR.load rfl Tryz.underlying33 rfl (show _ = some (Value.int .u64 (ks.getD i 0 : Nat)) by rw [Nat.mul_one]; exact (hrI i (by omega)).trans (congrArg some (u64s_getD (by omega)))) rfl ?_
      refine WR.assign rfl rfl ?_
      refine WR.nil (WN.seq ?_)
      refine WC.seq (WC.seq (WC.region ?_))
      refine WR.move rfl rfl ?_
      refine WR.move rfl rfl ?_
      refine WR.lenS rfl Tryz.underlying22 rfl ?_
      (refine WR.conv rfl Tryz.underlying3 Tryz.underlying33 (wrap_u64 ?_ ?_) rfl ?_; (omega); (omega))
      refine WR.bin rfl rfl rfl rfl ?_
      refine WR.nil (WN.seq ?_)
      refine WC.cond rfl (fun h45 => ?_) (fun h45 => ?_)
      · skip
        simp only [ge_iff_le, decide_eq_true_eq] at h45
        refine WC.seq (WC.region ?_)
        refine WR.assign rfl rfl ?_
        refine WR.assign rfl rfl ?_
        refine WR.nil (WN.seq ?_)
        refine WC.retR rfl rfl ?_
        exact ⟨_, false, rfl, (fun h => by cases h), hS⟩
      · skip
        simp only [ge_iff_le, decide_eq_false_iff_not, Int.not_le] at h45
        omega
    · skip
      simp only [decide_eq_false_iff_not, Int.not_lt] at h44
      omega
  · skip
    obtain ⟨gI, oI, eI, heI, hgI, hlI2, hrI⟩ := hk.lit (by omega)
    simp only [Value.slice.injEq] at heI
    obtain ⟨rfl, -, rfl⟩ := heI
    obtain ⟨g, o, rfl, -, hgH, hgl, hcs⟩ := hd.lit (by simp; omega)
    have hci := hcs (ks.getD i 0) (by rw [List.length_map]; omega)
    rw [getD_map (by omega)] at hci
    clear hcs
    obtain ⟨x, hx⟩ : ∃ x, x = ds.getD (ks.getD i 0) default := ⟨_, rfl⟩
    rw [← hx] at hci
    have htk : ((ks.take i).map fun k => vC (ds.getD k default)).length = i := by simp; omega
    refine WC.seq (WC.region ?_)
    refine WR.bin rfl rfl rfl rfl ?_
    refine WR.nil (WN.seq (WC.seq ?_))
    refine WC.cond rfl (fun h44 => ?_) (fun h44 => ?_)
    · skip
      simp only [decide_eq_true_eq] at h44
      refine WC.skip (WN.seq ?_)
      refine WC.seq (WC.block ?_)
      refine WC.seq (WC.region ?_)
      refine WR.idx rfl rfl Tryz.underlying37 sz33 (by omega) (by omega) rfl ?_
      refine WR.load rfl Tryz.underlying33 rfl (show _ = some (Value.int .u64 (ks.getD i 0 : Nat)) by rw [Nat.mul_one]; exact (hrI i (by omega)).trans (congrArg some (u64s_getD (by omega)))) rfl ?_
      refine WR.assign rfl rfl ?_
      refine WR.nil (WN.seq ?_)
      refine WC.seq (WC.seq (WC.region ?_))
      refine WR.move rfl rfl ?_
      refine WR.move rfl rfl ?_
      refine WR.lenS rfl Tryz.underlying22 rfl ?_
      (refine WR.conv rfl Tryz.underlying3 Tryz.underlying33 (wrap_u64 ?_ ?_) rfl ?_; (omega); (omega))
      refine WR.bin rfl rfl rfl rfl ?_
      refine WR.nil (WN.seq ?_)
      refine WC.cond rfl (fun h45 => ?_) (fun h45 => ?_)
      · skip
        simp only [ge_iff_le, decide_eq_true_eq] at h45
        omega
      · skip
        simp only [ge_iff_le, decide_eq_false_iff_not, Int.not_le] at h45
        refine WC.skip (WN.seq (WC.region ?_))
        refine WR.move rfl rfl ?_
        refine WR.move rfl rfl ?_
        refine WR.move rfl rfl ?_
        refine WR.idx rfl rfl Tryz.underlying22 sz35 (by omega) (by omega) rfl ?_
        refine WR.loadAgg rfl Tryz.underlying35 rfl sz35 (show Rd _ g (o + Int.toNat ((ks.getD i 0 : Nat) : Int) * 4) 4 (vC x) from hci) rfl ?_
        obtain ⟨nz, hnz⟩ : ∃ x, x = w1.heap.size := ⟨_, rfl⟩
        refine WR.buildSl (E := 35) (cs := #[vC x 0, vC x 1, vC x 2, vC x 3]) rfl rfl (fun w => by kernel_rfl) rfl rfl ?_
        rw [← hnz]
        intro w2 hM hs
        replace hw0 := Nat.le_trans hw0 hs.size
        replace hS := hS.trans hs (by simp <;> omega)
        replace hd := hd.same hs (by simp <;> omega)
        replace hk := hk.same hs (by simp <;> omega)
        replace hO := hO.same hs (by first | (simp <;> omega) | (intro hm; have := hS9 _ hm; omega) | (intro g hm; have := hS9 _ hm; omega) | (intro g hm; have := hS9 _ hm; exact .inr (by omega)))
        clear hs
        have hML := hM.lt
        refine WR.appendV (f := vC x) rfl hO rfl ((hM.rd 0 4 (Nat.le_refl 4)).congr (fun j hj => by rw [Nat.zero_add]; exact vC4_at x j hj)) (fun j hj => vC_one _ hj) Tryz.underlying22 mkV rfl (by decide) (by simp <;> omega) (by omega) rfl rfl ?_
        intro u2 w3 S9 hn hs hS9
        replace hO := hn
        replace hw0 := Nat.le_trans hw0 hs.size
        replace hS := hS.trans hs (by first | (simp <;> omega) | (intro hm; have := hS9 _ hm; omega) | (intro g hm; have := hS9 _ hm; omega) | (intro g hm; have := hS9 _ hm; exact .inr (by omega)))
        replace hd := hd.same hs (by first | (simp <;> omega) | (intro hm; have := hS9 _ hm; omega) | (intro g hm; have := hS9 _ hm; omega) | (intro g hm; have := hS9 _ hm; exact .inr (by omega)))
        replace hk := hk.same hs (by first | (simp <;> omega) | (intro hm; have := hS9 _ hm; omega) | (intro g hm; have := hS9 _ hm; omega) | (intro g hm; have := hS9 _ hm; exact .inr (by omega)))
        clear hn hs hS9
        refine WR.assign rfl rfl ?_
        refine WR.nil (WN.block ?_)
        refine WN.seq (WC.region ?_)
        (refine WR.bin rfl rfl (ar_add (wrap_i64 ?_ ?_)) rfl ?_; (omega); (omega))
        refine WR.move rfl rfl ?_
        refine WR.nil ?_
        exact WN.loop (k - 1) (i + 1, u2) (by omega) ⟨rfl, rfl, rfl, rfl, kint rfl (by omega), trivial⟩ ⟨show i + 1 + (k - 1) = m by omega, hw0, hS, hd, hk, fun j hj => by rcases Nat.lt_or_ge j i with h2 | h2; exact hall j h2; obtain rfl : j = i := (by omega); exact hc, by rw [take_snoc (by omega), List.map_append, List.map_singleton, ← hx]; exact hO⟩
    · skip
      simp only [decide_eq_false_iff_not, Int.not_lt] at h44
      omega
  · skip
    refine WC.seq (WC.region ?_)
    refine WR.bin rfl rfl rfl rfl ?_
    refine WR.nil (WN.seq (WC.seq ?_))
    refine WC.cond rfl (fun h44 => ?_) (fun h44 => ?_)
    · skip
      simp only [decide_eq_true_eq] at h44
      omega
    · skip
      simp only [decide_eq_false_iff_not, Int.not_lt] at h44
      refine WC.exit rfl ?_
      refine WN.seq (WC.seq (WC.region ?_))
      refine WR.move rfl rfl ?_
      refine WR.assign rfl rfl ?_
      refine WR.assign rfl rfl ?_
      refine WR.nil (WN.seq ?_)
      refine WC.retR rfl rfl ?_
      rw [hm, List.take_length] at hO
      exact ⟨u, true, rfl, fun _ => ⟨fun j hj => hall j (by omega), hO⟩, hS⟩

set_option maxHeartbeats 200000 in
theorem byIndexA {w : World} (rs : List RR) (wd : Int) (n cl H : Nat) (A : Option Addr) (hH : H = w.heap.size) (hrs : RS w H (.slice A n cl) rs) (hn : n = rs.length) (hw : wd < 1) :
    Ret Tryz.prog 8 #[.slice A n cl, .int .i64 wd] w fun v w' => ∃ u1 u2 b, v = .tuple #[u1, u2, .bool b] ∧ (b = true → ∃ V : Nat, wd = V ∧ 1 ≤ V ∧ V ≤ 20 ∧ n ≤ 40 ∧ (∀ j, j < rs.length → Rl.Fit V (rs.getD j default).run) ∧ Own w' H 5 u1 (u8s (V :: Rl.enc V (rs.map RR.run))) ∧ Own w' H 33 u2 (u64s (Rl.exp (rs.map RR.run)))) ∧ (b = false → u2 = .slice none 0 0) ∧ Same [] w w' := by
  have hS := Same.refl [] w
  refine Ret.enter (vs := [.slice A n cl, .int .i64 wd]) Tryz.func8 Tryz.ntmps8 rfl rfl ?_
  refine WC.seq (WC.region ?_)
  refine WR.assign rfl rfl ?_
  refine WR.assign rfl rfl ?_
  refine WR.assign rfl rfl ?_
  refine WR.nil (WN.seq ?_)
  refine WC.seq (WC.seq (WC.region ?_))
  refine WR.move rfl rfl ?_
  refine WR.bin rfl rfl rfl rfl ?_
  refine WR.move rfl rfl ?_
  refine WR.pass rfl rfl rfl (by first | rfl | assumption | (simp only [Bool.not_true, Bool.not_false, decide_eq_true_eq, decide_eq_false_iff_not, beq_iff_eq, bne_iff_ne, beq_eq_false_iff_ne, bne_eq_false_iff_eq, gt_iff_lt, ge_iff_le]; omega) | simp_all) ?_
  refine WR.pass rfl rfl rfl (by first | rfl | assumption | (simp only [Bool.not_true, Bool.not_false, decide_eq_true_eq, decide_eq_false_iff_not, beq_iff_eq, bne_iff_ne, beq_eq_false_iff_ne, bne_eq_false_iff_eq, gt_iff_lt, ge_iff_le]; omega) | simp_all) ?_
  refine WR.pickT rfl (by first | rfl | assumption | (simp only [Bool.not_true, Bool.not_false, decide_eq_true_eq, decide_eq_false_iff_not, beq_iff_eq, bne_iff_ne, beq_eq_false_iff_ne, bne_eq_false_iff_eq, gt_iff_lt, ge_iff_le]; omega) | simp_all) rfl rfl ?_
  refine WR.nil (WN.seq ?_)
  refine WC.cond rfl (fun h55 => ?_) (fun h55 => ?_)
  · skip
    simp only at h55
    refine WC.seq (WC.region ?_)
    refine WR.assign rfl rfl ?_
    refine WR.assign rfl rfl ?_
    refine WR.assign rfl rfl ?_
    refine WR.nil (WN.seq ?_)
    refine WC.retR rfl rfl ?_
    exact ⟨_, _, false, rfl, (fun h => by cases h), fun _ => rfl, hS⟩
  · skip
    cases h55

set_option maxHeartbeats 200000 in
theorem byIndexB {w : World} (rs : List RR) (wd : Int) (n cl H : Nat) (A : Option Addr) (hH : H = w.heap.size) (hrs : RS w H (.slice A n cl) rs) (hn : n = rs.length) (hw : 20 < wd) :
    Ret Tryz.prog 8 #[.slice A n cl, .int .i64 wd] w fun v w' => ∃ u1 u2 b, v = .tuple #[u1, u2, .bool b] ∧ (b = true → ∃ V : Nat, wd = V ∧ 1 ≤ V ∧ V ≤ 20 ∧ n ≤ 40 ∧ (∀ j, j < rs.length → Rl.Fit V (rs.getD j default).run) ∧ Own w' H 5 u1 (u8s (V :: Rl.enc V (rs.map RR.run))) ∧ Own w' H 33 u2 (u64s (Rl.exp (rs.map RR.run)))) ∧ (b = false → u2 = .slice none 0 0) ∧ Same [] w w' := by
  have hS := Same.refl [] w
  refine Ret.enter (vs := [.slice A n cl, .int .i64 wd]) Tryz.func8 Tryz.ntmps8 rfl rfl ?_
  refine WC.seq (WC.region ?_)
  refine WR.assign rfl rfl ?_
  refine WR.assign rfl rfl ?_
  refine WR.assign rfl rfl ?_
  refine WR.nil (WN.seq ?_)
  refine WC.seq (WC.seq (WC.region ?_))
  refine WR.move rfl rfl ?_
  refine WR.bin rfl rfl rfl rfl ?_
  refine WR.move rfl rfl ?_
  refine WR.take rfl rfl (by first | rfl | assumption | (simp only [Bool.not_true, Bool.not_false, decide_eq_true_eq, decide_eq_false_iff_not, beq_iff_eq, bne_iff_ne, beq_eq_false_iff_ne, bne_eq_false_iff_eq, gt_iff_lt, ge_iff_le]; omega) | simp_all) ?_
  refine WR.move rfl rfl ?_
  refine WR.take rfl rfl (by first | rfl | assumption | (simp only [Bool.not_true, Bool.not_false, decide_eq_true_eq, decide_eq_false_iff_not, beq_iff_eq, bne_iff_ne, beq_eq_false_iff_ne, bne_eq_false_iff_eq, gt_iff_lt, ge_iff_le]; omega) | simp_all) ?_
  refine WR.bin rfl rfl rfl rfl ?_
  refine WR.pickF rfl (by first | rfl | assumption | (simp only [Bool.not_true, Bool.not_false, decide_eq_true_eq, decide_eq_false_iff_not, beq_iff_eq, bne_iff_ne, beq_eq_false_iff_ne, bne_eq_false_iff_eq, gt_iff_lt, ge_iff_le]; omega) | simp_all) rfl rfl ?_
  refine WR.nil (WN.seq ?_)
  refine WC.cond rfl (fun h55 => ?_) (fun h55 => ?_)
  · skip
    simp only [gt_iff_lt, decide_eq_true_eq] at h55
    refine WC.seq (WC.region ?_)
    refine WR.assign rfl rfl ?_
    refine WR.assign rfl rfl ?_
    refine WR.assign rfl rfl ?_
    refine WR.nil (WN.seq ?_)
    refine WC.retR rfl rfl ?_
    exact ⟨_, _, false, rfl, (fun h => by cases h), fun _ => rfl, hS⟩
  · skip
    simp only [gt_iff_lt, decide_eq_false_iff_not, Int.not_lt] at h55
    omega

theorem runsFitAll {w : World} (rs : List RR) (W n cl H : Nat) (A : Option Addr) (hH : H = w.heap.size) (hrs : RS w H (.slice A n cl) rs) (hn : n = rs.length) (hW1 : 1 ≤ W) (hW2 : W ≤ 20) :
    Ret Tryz.prog 27 #[.slice A n cl, .int .i64 (W : Nat)] w fun v w' => ∃ u b, v = .tuple #[u, .bool b] ∧ (b = true → n ≤ 40 ∧ (∀ j, j < rs.length → Rl.Fit W (rs.getD j default).run) ∧ Own w' H 33 u (u64s (Rl.exp (rs.map RR.run)))) ∧ Same [] w w' := by
  rcases Nat.lt_or_ge 40 n with h | h
  · exact runsFitBig rs W n cl H A hH hrs hn hW1 hW2 h
  · exact runsFit rs W n cl H A hH hrs hn hW1 hW2 h

set_option maxHeartbeats 800000 in
theorem byIndexC {w : World} (rs : List RR) (n cl H : Nat) (A : Option Addr) (hH : H = w.heap.size) (hrs : RS w H (.slice A n cl) rs) (hn : n = rs.length) (W : Nat) (hW1 : 1 ≤ W) (hW2 : W ≤ 20) :
    Ret Tryz.prog 8 #[.slice A n cl, .int .i64 ((W : Nat) : Int)] w fun v w' => ∃ u1 u2 b, v = .tuple #[u1, u2, .bool b] ∧ (b = true → ∃ V : Nat, ((W : Nat) : Int) = V ∧ 1 ≤ V ∧ V ≤ 20 ∧ n ≤ 40 ∧ (∀ j, j < rs.length → Rl.Fit V (rs.getD j default).run) ∧ Own w' H 5 u1 (u8s (V :: Rl.enc V (rs.map RR.run))) ∧ Own w' H 33 u2 (u64s (Rl.exp (rs.map RR.run)))) ∧ (b = false → u2 = .slice none 0 0) ∧ Same [] w w' := by
  have hS := Same.refl [] w
  have hw0 := Nat.le_of_eq hH
  refine Ret.enter (vs := [.slice A n cl, .int .i64 ((W : Nat) : Int)]) Tryz.func8 Tryz.ntmps8 rfl rfl ?_
  refine WC.seq (WC.region ?_)
  refine WR.assign rfl rfl ?_
  refine WR.assign rfl rfl ?_
  refine WR.assign rfl rfl ?_
  refine WR.nil (WN.seq ?_)
  refine WC.seq (WC.seq (WC.region ?_))
  refine WR.move rfl rfl ?_
  refine WR.bin rfl rfl rfl rfl ?_
  refine WR.move rfl rfl ?_
  refine WR.take rfl rfl (by first | rfl | assumption | (simp only [Bool.not_true, Bool.not_false, decide_eq_true_eq, decide_eq_false_iff_not, beq_iff_eq, bne_iff_ne, beq_eq_false_iff_ne, bne_eq_false_iff_eq, gt_iff_lt, ge_iff_le]; omega) | simp_all) ?_
  refine WR.move rfl rfl ?_
  refine WR.take rfl rfl (by first | rfl | assumption | (simp only [Bool.not_true, Bool.not_false, decide_eq_true_eq, decide_eq_false_iff_not, beq_iff_eq, bne_iff_ne, beq_eq_false_iff_ne, bne_eq_false_iff_eq, gt_iff_lt, ge_iff_le]; omega) | simp_all) ?_
  refine WR.bin rfl rfl rfl rfl ?_
  refine WR.pickF rfl (by first | rfl | assumption | (simp only [Bool.not_true, Bool.not_false, decide_eq_true_eq, decide_eq_false_iff_not, beq_iff_eq, bne_iff_ne, beq_eq_false_iff_ne, bne_eq_false_iff_eq, gt_iff_lt, ge_iff_le]; omega) | simp_all) rfl rfl ?_
  refine WR.nil (WN.seq ?_)
  refine WC.cond rfl (fun h55 => ?_) (fun h55 => ?_)
  · skip
    (first | (cases h55; done) | (simp at h55; omega))
  · skip
    simp only [gt_iff_lt, decide_eq_false_iff_not, Int.not_lt] at h55
    refine WC.skip (WN.seq ?_)
    refine WC.seq (WC.region ?_)
    refine WR.move rfl rfl ?_
    refine WR.move rfl rfl ?_
    refine WR.callF rfl rfl cf27 rfl rfl (runsFitAll rs W n cl H A hH hrs hn hW1 hW2) ?_
    rintro _ w1 ⟨u2, b2, rfl, hB, hs⟩
    replace hw0 := Nat.le_trans hw0 hs.size
    replace hS := hS.trans hs (by simp <;> omega)
    replace hrs := hrs.same hs (by simp <;> omega)
    refine WR.move rfl rfl ?_
    refine WR.extract rfl rfl rfl ?_
    refine WR.extract rfl rfl rfl ?_
    refine WR.assign rfl rfl ?_
    refine WR.assign rfl rfl ?_
    refine WR.nil (WN.seq ?_)
    refine WC.seq (WC.seq (WC.region ?_))
    refine WR.move rfl rfl ?_
    refine WR.notOp rfl rfl ?_
    refine WR.nil (WN.seq ?_)
    refine WC.cond rfl (fun h59 => ?_) (fun h59 => ?_)
    · skip
      refine WC.seq (WC.region ?_)
      refine WR.assign rfl rfl ?_
      refine WR.assign rfl rfl ?_
      refine WR.assign rfl rfl ?_
      refine WR.nil (WN.seq ?_)
      refine WC.retR rfl rfl ?_
      exact ⟨_, _, false, rfl, (fun h => by cases h), fun _ => rfl, hS⟩
    · skip
      obtain ⟨hn40, hfit, hV⟩ := hB (by simpa using h59)
      clear hB
      have hub0 := fun (q : Nat) (h : u2.ownBlock = some q) => (World.ownsRow.lt hV q h).2
      have hwb := hw0
      have hub : ∀ q, u2.ownBlock = some q → q < w1.heap.size := hub0
      refine WC.skip (WN.seq ?_)
      refine WC.seq (WC.region ?_)
      refine WR.move rfl rfl ?_
      (refine WR.conv rfl Tryz.underlying3 Tryz.underlying5 (wrap_u8 ?_ ?_) rfl ?_; (omega); (omega))
      obtain ⟨nb, hnb⟩ : ∃ x, x = w1.heap.size := ⟨_, rfl⟩
      refine WR.buildSl (E := 5) (cs := #[.int .u8 (W : Nat)]) rfl rfl (fun w => by kernel_rfl) rfl rfl ?_
      rw [← hnb]
      intro w2 hM hs
      replace hw0 := Nat.le_trans hw0 hs.size
      replace hS := hS.trans hs (by simp <;> omega)
      replace hrs := hrs.same hs (by simp <;> omega)
      replace hV := hV.keep hs (by first | (intro g hm; simp; done) | (intro g hm; have := hub g hm; simp <;> omega) | (intro g hm h9; have := hS9 _ h9; have := hub g hm; omega))
      clear hs
      refine WR.move rfl rfl ?_
      refine WR.move rfl rfl ?_
      obtain ⟨H2, hH2⟩ : ∃ x, x = w2.heap.size := ⟨_, rfl⟩
      have hrs2 : RS w2 H2 (.slice A n cl) rs := hrs.more (by omega)
      refine WR.callF rfl rfl cf28 rfl rfl (putRuns rs W n cl H2 A hH2 hrs2 hn hn40 hW1 hW2 hfit) ?_
      rintro pv w3 ⟨hPv, hs⟩
      replace hw0 := Nat.le_trans hw0 hs.size
      replace hS := hS.trans hs (by simp <;> omega)
      replace hrs := hrs.same hs (by simp <;> omega)
      replace hM := hM.same hs (by first | (simp <;> omega) | (intro hm; have := hS9 _ hm; omega) | (intro g hm; have := hS9 _ hm; omega) | (intro g hm; have := hS9 _ hm; exact .inr (by omega)))
      replace hV := hV.keep hs (by first | (intro g hm; simp; done) | (intro g hm; have := hub g hm; simp <;> omega) | (intro g hm h9; have := hS9 _ h9; have := hub g hm; omega))
      have hO : Own w3 nb 5 (.slice (some ⟨nb, 0, none⟩) 1 1) (u8s [W]) := Row.own (n := 1) hM rfl (fun i hi => by obtain rfl : i = 0 := (by omega); rfl) (Nat.le_refl _) (by decide)
      have hML := hM.lt
      have hS9 : ∀ g, g ∈ (Value.slice (some ⟨nb, 0, none⟩) 1 1).ownBlock.toList → g = nb := fun g hm => by simp [Value.ownBlock] at hm; omega
      have hel := Rl.enc_len hW2 (rs := rs.map RR.run) (W := W) (fun r hr => by
        obtain ⟨x, hx, rfl⟩ := List.mem_map.1 hr
        obtain ⟨j, hj, rfl⟩ := List.getElem_of_mem hx
        have := hfit j hj
        rwa [List.getD_eq_getElem?_getD, List.getElem?_eq_getElem hj] at this)
      rw [List.length_map] at hel
      refine WR.appendF rfl hO rfl hPv.ls (fun i hi => u8s_one hi) Tryz.underlying28 mk5 rfl (by decide) (by simp [u8s_length]; omega) (by omega) rfl rfl ?_
      intro u1 w4 hn hs hfr
      replace hO := hn
      replace hw0 := Nat.le_trans hw0 hs.size
      replace hS := hS.trans hs (by first | (simp <;> omega) | (intro hm; have := hS9 _ hm; omega) | (intro g hm; have := hS9 _ hm; omega) | (intro g hm; have := hS9 _ hm; exact .inr (by omega)))
      replace hrs := hrs.same hs (by first | (simp <;> omega) | (intro hm; have := hS9 _ hm; omega) | (intro g hm; have := hS9 _ hm; omega) | (intro g hm; have := hS9 _ hm; exact .inr (by omega)))
      replace hV := hV.keep hs (by first | (intro g hm; simp; done) | (intro g hm; have := hub g hm; simp <;> omega) | (intro g hm h9; have := hS9 _ h9; have := hub g hm; omega))
      rw [← u8s_append] at hO
      clear hn hs
      refine WR.move rfl rfl ?_
      refine WR.assign rfl rfl ?_
      refine WR.assign rfl rfl ?_
      refine WR.assign rfl rfl ?_
      refine WR.nil (WN.seq ?_)
      refine WC.retR rfl rfl ?_
      exact ⟨u1, u2, true, rfl, fun _ => ⟨W, rfl, hW1, hW2, hn40, hfit, Own.low hO (by omega), hV⟩, fun h => (by cases h), hS⟩

theorem byIndex {w : World} (rs : List RR) (wd : Int) (n cl H : Nat) (A : Option Addr) (hH : H = w.heap.size) (hrs : RS w H (.slice A n cl) rs) (hn : n = rs.length) :
    Ret Tryz.prog 8 #[.slice A n cl, .int .i64 wd] w (fun v w' => ∃ u1 u2 b, v = .tuple #[u1, u2, .bool b] ∧ (b = true → ∃ V : Nat, wd = V ∧ 1 ≤ V ∧ V ≤ 20 ∧ n ≤ 40 ∧ (∀ j, j < rs.length → Rl.Fit V (rs.getD j default).run) ∧ Own w' H 5 u1 (u8s (V :: Rl.enc V (rs.map RR.run))) ∧ Own w' H 33 u2 (u64s (Rl.exp (rs.map RR.run)))) ∧ (b = false → u2 = .slice none 0 0) ∧ Same [] w w') := by
  rcases Int.lt_or_le wd 1 with h | h
  · exact byIndexA rs wd n cl H A hH hrs hn h
  rcases Int.lt_or_le 20 wd with h2 | h2
  · exact byIndexB rs wd n cl H A hH hrs hn h2
  obtain ⟨W, rfl⟩ := Int.eq_ofNat_of_zero_le (show 0 ≤ wd by omega)
  exact byIndexC rs n cl H A hH hrs hn W (by omega) (by omega)

end Go.Proofs.YthmknddfkmklfaaGreatDoor.Vm
