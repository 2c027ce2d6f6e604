/- The converter of a dictionary. -/
import Derived.Test.YthmknddfkmklfaaGreatDoorFnZ
namespace Go.Proofs.YthmknddfkmklfaaGreatDoor.Vm
open Go Mix Go.RowKit Num
set_option maxRecDepth 20000
set_option linter.unusedSimpArgs false
theorem ovr_getD {f : Nat → Value} {o : Nat} {ys : List Value} {j : Nat} (h : j < ys.length) : ovr f o ys (o + j) = ys.getD j undef := by
  rw [ovr_at h]
  simp [h]
/-- copying what is there doubles it -/
theorem Put.double {F f : Nat → Value} {o L i k : Nat} {x : Value} (h : Put F f o L i (fun _ => x)) (hk : k ≤ i) (hi : i + k ≤ L) : Put (ovr F (o + i) ((List.range k).map fun j => F (o + j))) f o L (i + k) (fun _ => x) := by
  refine ⟨fun j hj => ?_, fun p hp => ?_⟩
  · unfold ovr
    by_cases hc : o + i ≤ o + j ∧ o + j < o + i + ((List.range k).map fun j => F (o + j)).length
    · rw [if_pos hc]
      simp only [List.length_map, List.length_range] at hc
      have hjk : o + j - (o + i) < k := by omega
      simp only [List.getD_eq_getElem?_getD, List.getElem?_map, List.getElem?_range hjk, Option.map_some, Option.getD_some]
      exact h.1 _ (by omega)
    · rw [if_neg hc]
      simp only [List.length_map, List.length_range] at hc
      exact h.1 j (by omega)
  · unfold ovr
    rw [if_neg (by simp only [List.length_map, List.length_range]; omega)]
    exact h.2 p hp
theorem Own.rd {w : World} {base E : Nat} {A : Option Addr} {n c : Nat} {xs : List Value} (h : Own w base E (.slice A n c) xs) (h0 : 0 < xs.length) : ∃ g, A = some ⟨g, 0, none⟩ ∧ n = xs.length ∧ g < w.heap.size ∧ Rd w g 0 xs.length (fun i => xs.getD i undef) ∧ (Value.slice A n c).ownBlock = some g := by
  rcases h.read with ⟨_, rfl⟩ | ⟨g, cap, h1, h2, h3, h4⟩
  · simp at h0
  · cases h1
    exact ⟨g, rfl, rfl, h3, h4, rfl⟩
theorem cf143 (us : Array Value) (w : World) : (callFunc 143 us).run Tryz.prog w = .ok (.enter 143 us) w := by kernel_rfl
theorem cf144 (us : Array Value) (w : World) : (callFunc 144 us).run Tryz.prog w = .ok (.enter 144 us) w := by kernel_rfl
theorem cf157 (us : Array Value) (w : World) : (callFunc 157 us).run Tryz.prog w = .ok (.enter 157 us) w := by kernel_rfl
theorem fa101_0 (b o : Nat) (w : World) : (Instr.fieldAt 101 (.pointer (some ⟨b, o, none⟩)) 0).run Tryz.prog w = .ok (.pointer (some ⟨b, o + 0, none⟩)) w := by kernel_rfl
theorem fa101_1 (b o : Nat) (w : World) : (Instr.fieldAt 101 (.pointer (some ⟨b, o, none⟩)) 1).run Tryz.prog w = .ok (.pointer (some ⟨b, o + 1, none⟩)) w := by kernel_rfl
theorem fa101_2 (b o : Nat) (w : World) : (Instr.fieldAt 101 (.pointer (some ⟨b, o, none⟩)) 2).run Tryz.prog w = .ok (.pointer (some ⟨b, o + 2, none⟩)) w := by kernel_rfl
theorem mtPD_Decode (p : Addr) (w : World) : (method (Tryz.prog.types.size + Made.depth) 51 (.pointer (some p)) "Decode").run Tryz.prog w = .ok (157, .pointer (some p)) w := by kernel_rfl
theorem sz79 : (Tryz.prog.info? 79).map (·.size) = some 1 := by kernel_rfl
set_option maxHeartbeats 400000 in
theorem ensure {w : World} {aE aU aP : Addr} (hg : Glob w aE aU aP) (bC bP q D k db x : Nat) (e : Nat → Nat) (hD : DC w bC bP q D k db e) (hx : x < D) (hDm : D ≤ 1048576) (hbC : 6 ≤ bC) (hbP : 6 ≤ bP) (hx1 : bC ≠ bP) (hx2 : bC ≠ db) (hx3 : bP ≠ db) :
    Ret Tryz.prog 143 #[.pointer (some ⟨bC, 0, none⟩), .int .i32 (x : Nat)] w fun v w' => v = .nilIface ∧ ∃ k' q', DC w' bC bP q' D k' db e ∧ x < k' ∧ (q' = q ∨ w.heap.size ≤ q') ∧ Same [bC, bP, q] w w' := by
  have hS := Same.refl [bC, bP, q] w
  obtain ⟨l1, l2, l3, l4, l5⟩ := hD.lt
  obtain ⟨u, hC, hk, hO, hP, hq, hql⟩ := hD
  have hgs := hg.size
  obtain ⟨A, c, rfl⟩ := hO.shape
  have hvl := vals_length e k
  have hlo : ∀ g, (Value.slice A (vals e k).length c).ownBlock = some g → g < w.heap.size := fun g h => (World.ownsRow.lt hO g h).2
  have hS9 : ∀ g, g ∈ (Value.slice A (vals e k).length c).ownBlock.toList → g = q ∧ 6 ≤ g ∧ g ≠ bC ∧ g ≠ bP ∧ g ≠ db := fun g hm => hq g (by simpa using hm)
  refine Ret.enter (vs := [.pointer (some ⟨bC, 0, none⟩), .int .i32 (x : Nat)]) Tryz.func143 Tryz.ntmps143 rfl rfl ?_
  refine WC.seq (WC.region ?_)
  refine WR.assign rfl rfl ?_
  refine WR.nil (WN.seq ?_)
  refine WC.seq (WC.seq (WC.region ?_))
  refine WR.move rfl rfl ?_
  refine WR.bin rfl rfl rfl rfl ?_
  refine WR.move rfl rfl ?_
  refine WR.take rfl rfl rfl ?_
  refine WR.move rfl rfl ?_
  refine WR.take rfl rfl rfl ?_
  (refine WR.conv rfl Tryz.underlying21 Tryz.underlying2 (wrap_i64 ?_ ?_) rfl ?_; (omega); (omega))
  refine WR.take rfl rfl rfl ?_
  refine WR.move rfl rfl ?_
  refine WR.take rfl rfl rfl ?_
  refine WR.nilCheckP rfl rfl ?_
  refine WR.take rfl rfl rfl ?_
  refine WR.field rfl fa101_1 rfl ?_
  refine WR.take rfl rfl rfl ?_
  refine WR.load rfl Tryz.underlying3 rfl hC.c1 rfl ?_
  refine WR.take rfl rfl rfl ?_
  refine WR.bin rfl rfl rfl rfl ?_
  refine WR.pickF rfl rfl rfl rfl ?_
  refine WR.nil (WN.seq ?_)
  refine WC.cond rfl (fun h110 => ?_) (fun h110 => ?_)
  · skip
    simp only [ge_iff_le, decide_eq_true_eq] at h110
    omega
  · skip
    simp only [ge_iff_le, decide_eq_false_iff_not, Int.not_le] at h110
    refine WC.skip (WN.seq ?_)
    refine WC.seq (WC.seq (WC.region ?_))
    refine WR.move rfl rfl ?_
    refine WR.nilCheckP rfl rfl ?_
    refine WR.field rfl fa101_2 rfl ?_
    refine WR.load rfl Tryz.underlying79 rfl hC.c2 rfl ?_
    refine WR.lenS rfl Tryz.underlying79 rfl ?_
    refine WR.move rfl rfl ?_
    (refine WR.conv rfl Tryz.underlying21 Tryz.underlying3 (wrap_i64 ?_ ?_) rfl ?_; (omega); (omega))
    refine WR.bin rfl rfl rfl rfl ?_
    refine WR.nil (WN.seq ?_)
    refine WC.cond rfl (fun h113 => ?_) (fun h113 => ?_)
    · skip
      simp only [decide_eq_true_eq] at h113
      refine WC.seq (WC.region ?_)
      refine WR.move rfl rfl ?_
      (refine WR.conv rfl Tryz.underlying21 Tryz.underlying3 (wrap_i64 ?_ ?_) rfl ?_; (omega); (omega))
      (refine WR.bin rfl rfl (ar_add (z := ((x + 1 : Nat) : Int)) ?_) rfl ?_; (rw [wrap_i64 (by omega) (by omega)]; omega))
      refine WR.move rfl rfl ?_
      refine WR.nilCheckP rfl rfl ?_
      refine WR.field rfl fa101_2 rfl ?_
      refine WR.load rfl Tryz.underlying79 rfl hC.c2 rfl ?_
      refine WR.lenS rfl Tryz.underlying79 rfl ?_
      (refine WR.bin rfl rfl (ar_sub (z := ((x + 1 - k : Nat) : Int)) ?_) rfl ?_; (rw [wrap_i64 (by omega) (by omega)]; omega))
      obtain ⟨nb, hnb⟩ : ∃ x, x = w.heap.size := ⟨_, rfl⟩
      refine WR.make (n := (x + 1 - k)) rfl rfl Tryz.underlying79 mk2 rfl (by decide) (by omega) rfl rfl ?_
      rw [← hnb]
      intro w1 hM hs
      replace hS := hS.trans hs (by simp <;> omega)
      replace hg := hg.same hs (by simp <;> omega)
      replace hC := hC.same hs (by simp <;> omega)
      replace hO := hO.keep hs (by first | (intro g hm; have := hq g hm; have := hlo g hm; simp; omega) | (intro g hm; have := hq2 g hm; simp; omega) | (intro g hm; simp))
      replace hP := hP.same hs (by simp <;> omega) (by simp <;> omega)
      replace hql := Nat.lt_of_lt_of_le hql hs.size
      clear hs
      refine WR.assign rfl rfl ?_
      refine WR.nil (WN.seq ?_)
      refine WC.seq (WC.region ?_)
      refine WR.move rfl rfl ?_
      refine WR.nilCheckP rfl rfl ?_
      refine WR.field rfl fa101_0 rfl ?_
      refine WR.load rfl Tryz.underlying98 rfl hC.c0 rfl ?_
      refine WR.move rfl rfl ?_
      refine WR.invoke rfl rfl rfl mtPD_Decode cf157 rfl rfl (decode hg bP (D - k) db nb 0 (x + 1 - k) (x + 1 - k) _ _ _ _ hP hM (by omega) (by omega) (by omega) (by omega) hbP (by omega) (by omega) (by omega) hx3) ?_
      rintro _ w2 ⟨rfl, hP', hM', hs⟩
      replace hP := hP'
      replace hM := hM'
      clear hP' hM'
      replace hS := hS.trans hs (by simp <;> omega)
      replace hg := hg.same hs (by simp <;> omega)
      replace hC := hC.same hs (by simp <;> omega)
      replace hO := hO.keep hs (by first | (intro g hm; have := hq g hm; have := hlo g hm; simp; omega) | (intro g hm; have := hq2 g hm; simp; omega) | (intro g hm; simp))
      replace hql := Nat.lt_of_lt_of_le hql hs.size
      refine WR.move rfl rfl ?_
      refine WR.extract rfl rfl rfl ?_
      refine WR.extract rfl rfl rfl ?_
      refine WR.assign rfl rfl ?_
      refine WR.assign rfl rfl ?_
      refine WR.nil (WN.seq ?_)
      refine WC.seq (WC.seq (WC.region ?_))
      refine WR.move rfl rfl ?_
      refine WR.neqNil rfl rfl Tryz.underlying54 rfl ?_
      refine WR.nil (WN.seq ?_)
      refine WC.cond rfl (fun h116 => ?_) (fun h116 => ?_)
      · skip
        exact absurd h116 (by simp)
      · skip
        simp only at h116
        refine WC.skip (WN.seq ?_)
        refine WC.seq (WC.seq (WC.region ?_))
        refine WR.move rfl rfl ?_
        refine WR.move rfl rfl ?_
        refine WR.lenS rfl Tryz.underlying79 rfl ?_
        refine WR.bin rfl rfl rfl rfl ?_
        refine WR.nil (WN.seq ?_)
        refine WC.cond rfl (fun h119 => ?_) (fun h119 => ?_)
        · skip
          exact absurd h119 (by simp)
        · skip
          simp only [bne_eq_false_iff_eq] at h119
          refine WC.skip (WN.seq ?_)
          refine WC.mix [] mixed (by kernel_rfl) ?_
          replace hS := hS.trans (Same.drew _) (by simp <;> omega)
          replace hg := hg.same (Same.drew _) (by simp <;> omega)
          replace hC := hC.same (Same.drew _) (by simp <;> omega)
          replace hO := hO.keep (Same.drew _) (by first | (intro g hm; have := hq g hm; have := hlo g hm; simp; omega) | (intro g hm; have := hq2 g hm; simp; omega) | (intro g hm; simp))
          replace hP := hP.same (Same.drew _) (by simp <;> omega) (by simp <;> omega)
          replace hM := hM.same (Same.drew _) (by first | (simp <;> omega) | (intro hm; have := hS9 _ hm; omega) | (intro g hm; have := hS9 _ hm; omega) | (intro g hm; have := hS9 _ hm; simp; omega))
          replace hql := Nat.lt_of_lt_of_le hql (Same.drew _).size
          refine WR.move rfl rfl ?_
          refine WR.move rfl rfl ?_
          refine WR.nilCheckP rfl rfl ?_
          refine WR.field rfl fa101_2 rfl ?_
          refine WR.load rfl Tryz.underlying79 rfl hC.c2 rfl ?_
          refine WR.move rfl rfl ?_
          refine WR.move rfl rfl ?_
          refine WR.slice rfl Tryz.underlying79 sz2 ⟨_, _, rfl, by omega, by omega, rfl⟩ rfl rfl ?_
          simp only [sl0]
          have hS2 := hS.size
          refine WR.appendF rfl hO rfl (Row.ls (base := 0) (ys := vals (fun i => e (8 * k + i)) (x + 1 - k)) (o := 0) hM (vals_length _ _) (by omega) (Nat.zero_le _) (fun i hi => (ovr_getD (by rw [vals_length]; exact hi)))) (fun i hi => by rw [vals_length] at hi; rw [vals_getD hi]; rfl) Tryz.underlying79 mk2 rfl (by decide) (by rw [vals_length, vals_length]; omega) (Nat.zero_le _) rfl rfl ?_
          intro v' w3 hn hs hfr
          replace hO := hn
          replace hS := hS.trans hs (by first | (simp <;> omega) | (intro hm; have := hS9 _ hm; omega) | (intro g hm; have := hS9 _ hm; omega) | (intro g hm; have := hS9 _ hm; simp; omega))
          replace hg := hg.same hs (by first | (simp <;> omega) | (intro hm; have := hS9 _ hm; omega) | (intro g hm; have := hS9 _ hm; omega) | (intro g hm; have := hS9 _ hm; simp; omega))
          replace hC := hC.same hs (by first | (simp <;> omega) | (intro hm; have := hS9 _ hm; omega) | (intro g hm; have := hS9 _ hm; omega) | (intro g hm; have := hS9 _ hm; simp; omega))
          replace hP := hP.same hs (by first | (simp <;> omega) | (intro hm; have := hS9 _ hm; omega) | (intro g hm; have := hS9 _ hm; omega) | (intro g hm; have := hS9 _ hm; simp; omega)) (by first | (simp <;> omega) | (intro hm; have := hS9 _ hm; omega) | (intro g hm; have := hS9 _ hm; omega) | (intro g hm; have := hS9 _ hm; simp; omega))
          replace hM := hM.same hs (by first | (simp <;> omega) | (intro hm; have := hS9 _ hm; omega) | (intro g hm; have := hS9 _ hm; omega) | (intro g hm; have := hS9 _ hm; simp; omega))
          replace hql := Nat.lt_of_lt_of_le hql hs.size
          have hS3 := hS.size
          obtain ⟨q2, hq2, hq3, hql2⟩ := Ob.new hq hfr (by omega) (by omega) (by omega) (by omega) (fun g h => (World.ownsRow.lt hO g h).2) (by omega)
          clear hfr
          rw [vals_add] at hO
          clear hn hs
          refine WR.nilCheckP rfl rfl ?_
          refine WR.field rfl fa101_2 rfl ?_
          refine WR.storeK rfl rfl hO.one sz79 hC.c2 (hC.fz 2) ?_
          intro w4 hn hs
          replace hC := hC.s2 hn
          replace hS := hS.trans hs (by simp <;> omega)
          replace hg := hg.same hs (by simp <;> omega)
          replace hO := hO.keep hs (by first | (intro g hm; have := hq g hm; have := hlo g hm; simp; omega) | (intro g hm; have := hq2 g hm; simp; omega) | (intro g hm; simp))
          replace hP := hP.same hs (by simp <;> omega) (by simp <;> omega)
          replace hM := hM.same hs (by first | (simp <;> omega) | (intro hm; have := hS9 _ hm; omega) | (intro g hm; have := hS9 _ hm; omega) | (intro g hm; have := hS9 _ hm; simp; omega))
          replace hql := Nat.lt_of_lt_of_le hql hs.size
          replace hql2 := Nat.lt_of_lt_of_le hql2 hs.size
          clear hn hs
          refine WR.nil (WN.seq ?_)
          refine WC.seq (WC.region ?_)
          refine WR.assign rfl rfl ?_
          refine WR.nil (WN.seq ?_)
          refine WC.retR rfl rfl ?_
          first
            | exact ⟨rfl, k, q, ⟨_, hC, hk, hO, hP, hq, hql⟩, by omega, .inl rfl, hS⟩
            | exact ⟨rfl, x + 1, q2, ⟨_, hC, by omega, by rw [show k + (x + 1 - k) = x + 1 by omega] at hO; exact hO, by rw [show D - k - (x + 1 - k) = D - (x + 1) by omega] at hP; rw [show (fun i => e (8 * k + (8 * (x + 1 - k) + i))) = fun i => e (8 * (x + 1) + i) from funext fun i => by rw [← Nat.add_assoc, ← Nat.mul_add, show k + (x + 1 - k) = x + 1 by omega]] at hP; exact hP, hq2, hql2⟩, by omega, by omega, hS⟩
    · skip
      simp only [decide_eq_false_iff_not, Int.not_le] at h113
      refine WC.skip (WN.seq ?_)
      refine WC.seq (WC.region ?_)
      refine WR.assign rfl rfl ?_
      refine WR.nil (WN.seq ?_)
      refine WC.retR rfl rfl ?_
      exact ⟨rfl, k, q, ⟨_, hC, hk, hO, hP, hq, hql⟩, by omega, .inl rfl, hS⟩

set_option maxHeartbeats 200000 in
theorem isValidSingle {w : World} {aE aU aP : Addr} (hg : Glob w aE aU aP) (bC bP q D k db x : Nat) (e : Nat → Nat) (hD : DC w bC bP q D k db e) (hx : x < D) (hDm : D ≤ 1048576) (hbq : 6 ≤ q) (hbC : 6 ≤ bC) (hbP : 6 ≤ bP) (hx1 : bC ≠ bP) (hx2 : bC ≠ db) (hx3 : bP ≠ db) :
    Ret Tryz.prog 142 #[.pointer (some ⟨bC, 0, none⟩), .int .i32 (x : Nat)] w fun v w' => v = .bool true ∧ ∃ k' q', DC w' bC bP q' D k' db e ∧ x < k' ∧ (q' = q ∨ w.heap.size ≤ q') ∧ Same [bC, bP, q] w w' := by
  have hS := Same.refl [bC, bP, q] w
  have hz0 : decide ((0 : Int) ≤ ((x : Nat) : Int)) = true := by simp
  refine Ret.enter (vs := [.pointer (some ⟨bC, 0, none⟩), .int .i32 (x : Nat)]) Tryz.func142 Tryz.ntmps142 rfl rfl ?_
  refine WC.seq (WC.region ?_)
  refine WR.assign rfl rfl ?_
  refine WR.nil (WN.seq ?_)
  refine WC.seq (WC.region ?_)
  refine WR.move rfl rfl ?_
  refine WR.move rfl rfl ?_
  refine WR.callF rfl rfl cf143 rfl rfl (ensure hg bC bP q D k db x e hD (by omega) hDm hbC hbP hx1 hx2 hx3) ?_
  rintro _ w1 ⟨rfl, k2, q2, hD', hxk, hqq, hs⟩
  replace hD := hD'
  clear hD'
  obtain ⟨u, hC, hk2, hO, hP, hq, hql⟩ := hD
  obtain ⟨A, c2, rfl⟩ := hO.shape
  have hvl := vals_length e k2
  replace hS := hS.trans hs (by simp <;> omega)
  replace hg := hg.same hs (by simp <;> omega)
  refine WR.nil (WN.seq ?_)
  refine WC.seq (WC.region ?_)
  refine WR.move rfl rfl ?_
  (refine WR.conv rfl Tryz.underlying21 Tryz.underlying3 (wrap_i64 ?_ ?_) rfl ?_; (omega); (omega))
  refine WR.bin rfl rfl rfl rfl ?_
  refine WR.move rfl rfl ?_
  refine WR.take rfl rfl rfl ?_
  refine WR.move rfl rfl ?_
  refine WR.take rfl rfl rfl ?_
  (refine WR.conv rfl Tryz.underlying21 Tryz.underlying3 (wrap_i64 ?_ ?_) rfl ?_; (omega); (omega))
  refine WR.take rfl rfl rfl ?_
  refine WR.move rfl rfl ?_
  refine WR.take rfl rfl rfl ?_
  refine WR.nilCheckP rfl rfl ?_
  refine WR.take rfl rfl rfl ?_
  refine WR.field rfl fa101_2 rfl ?_
  refine WR.take rfl rfl rfl ?_
  refine WR.load rfl Tryz.underlying79 rfl hC.c2 rfl ?_
  refine WR.take rfl rfl rfl ?_
  refine WR.lenS rfl Tryz.underlying79 rfl ?_
  refine WR.take rfl rfl rfl ?_
  refine WR.bin rfl rfl rfl rfl ?_
  refine WR.pickT rfl rfl rfl rfl ?_
  refine WR.assign rfl rfl ?_
  refine WR.nil (WN.seq ?_)
  refine WC.retR rfl rfl ?_
  exact ⟨congrArg Value.bool (decide_eq_true (by omega)), k2, q2, ⟨_, hC, hk2, hO, hP, hq, hql⟩, hxk, hqq, hS⟩

set_option maxHeartbeats 400000 in
theorem isValid {w : World} {aE aU aP : Addr} (hg : Glob w aE aU aP) (bC bP q D k db g o n c : Nat) (X : Nat → Nat) (e : Nat → Nat) (hD : DC w bC bP q D k db e) (hDm : D ≤ 1048576) (hd : Rd w g o n (fun j => .int .i32 (X j : Nat))) (hX : ∀ j, j < n → X j < D) (hn0 : 0 < n) (hn : n ≤ 1099511627776) (hbq : 6 ≤ q) (hbC : 6 ≤ bC) (hbP : 6 ≤ bP) (hx1 : bC ≠ bP) (hx2 : bC ≠ db) (hx3 : bP ≠ db) :
    Ret Tryz.prog 141 #[.pointer (some ⟨bC, 0, none⟩), .slice (some ⟨g, o, none⟩) n c] w fun v w' => v = .bool true ∧ ∃ k' q', DC w' bC bP q' D k' db e ∧ (∀ j, j < n → X j < k') ∧ (q' = q ∨ w.heap.size ≤ q') ∧ Same [bC, bP, q] w w' := by
  have hS := Same.refl [bC, bP, q] w
  refine Ret.enter (vs := [.pointer (some ⟨bC, 0, none⟩), .slice (some ⟨g, o, none⟩) n c]) Tryz.func141 Tryz.ntmps141 rfl rfl ?_
  refine WC.seq (WC.region ?_)
  refine WR.assign rfl rfl ?_
  refine WR.nil (WN.seq ?_)
  refine WC.seq (WC.region ?_)
  refine WR.move rfl rfl ?_
  refine WR.callF rfl rfl cf144 rfl rfl (getMinMax g o n c X hd (fun j hj => by have := hX j hj; omega) hn0 hn) ?_
  rintro _ w9 ⟨hw9, mn, mx, rfl, hle, hall, j0, hj0, hmx⟩
  replace hw9 := hw9.symm
  subst hw9
  have hmD := hX j0 hj0
  refine WR.move rfl rfl ?_
  refine WR.extract rfl rfl rfl ?_
  refine WR.extract rfl rfl rfl ?_
  refine WR.assign rfl rfl ?_
  refine WR.assign rfl rfl ?_
  refine WR.nil (WN.seq ?_)
  refine WC.seq (WC.region ?_)
  refine WR.move rfl rfl ?_
  refine WR.move rfl rfl ?_
  refine WR.callF rfl rfl cf143 rfl rfl (ensure hg bC bP q D k db mx e hD (by omega) hDm hbC hbP hx1 hx2 hx3) ?_
  rintro _ w1 ⟨rfl, k2, q2, hD', hxk, hqq, hs⟩
  replace hD := hD'
  clear hD'
  obtain ⟨u, hC, hk2, hO, hP, hq, hql⟩ := hD
  obtain ⟨A, c2, rfl⟩ := hO.shape
  have hvl := vals_length e k2
  have hz0 : decide ((0 : Int) ≤ ((mn : Nat) : Int)) = true := by simp
  have hz1 : decide (((mn : Nat) : Int) < (((vals e k2).length : Nat) : Int)) = true := decide_eq_true (by omega)
  have hz2 : decide ((0 : Int) ≤ ((mx : Nat) : Int)) = true := by simp
  replace hS := hS.trans hs (by simp <;> omega)
  replace hg := hg.same hs (by simp <;> omega)
  refine WR.nil (WN.seq ?_)
  refine WC.seq (WC.region ?_)
  refine WR.move rfl rfl ?_
  refine WR.bin rfl rfl rfl rfl ?_
  refine WR.move rfl rfl ?_
  refine WR.take rfl rfl rfl ?_
  refine WR.move rfl rfl ?_
  refine WR.take rfl rfl rfl ?_
  (refine WR.conv rfl Tryz.underlying21 Tryz.underlying3 (wrap_i64 ?_ ?_) rfl ?_; (omega); (omega))
  refine WR.take rfl rfl rfl ?_
  refine WR.move rfl rfl ?_
  refine WR.take rfl rfl rfl ?_
  refine WR.nilCheckP rfl rfl ?_
  refine WR.take rfl rfl rfl ?_
  refine WR.field rfl fa101_2 rfl ?_
  refine WR.take rfl rfl rfl ?_
  refine WR.load rfl Tryz.underlying79 rfl hC.c2 rfl ?_
  refine WR.take rfl rfl rfl ?_
  refine WR.lenS rfl Tryz.underlying79 rfl ?_
  refine WR.take rfl rfl rfl ?_
  refine WR.bin rfl rfl rfl rfl ?_
  refine WR.pickT rfl rfl rfl rfl ?_
  refine WR.move rfl rfl ?_
  refine WR.take rfl rfl (by first | rfl | assumption | simp_all) ?_
  refine WR.move rfl rfl ?_
  refine WR.take rfl rfl (by first | rfl | assumption | simp_all) ?_
  (refine WR.conv rfl Tryz.underlying21 Tryz.underlying3 (wrap_i64 ?_ ?_) rfl ?_; (omega); (omega))
  refine WR.take rfl rfl (by first | rfl | assumption | simp_all) ?_
  refine WR.bin rfl rfl rfl rfl ?_
  refine WR.pickT rfl (by first | rfl | assumption | simp_all) rfl rfl ?_
  refine WR.move rfl rfl ?_
  refine WR.take rfl rfl rfl ?_
  refine WR.move rfl rfl ?_
  refine WR.take rfl rfl rfl ?_
  (refine WR.conv rfl Tryz.underlying21 Tryz.underlying3 (wrap_i64 ?_ ?_) rfl ?_; (omega); (omega))
  refine WR.take rfl rfl rfl ?_
  refine WR.move rfl rfl ?_
  refine WR.take rfl rfl rfl ?_
  refine WR.nilCheckP rfl rfl ?_
  refine WR.take rfl rfl rfl ?_
  refine WR.field rfl fa101_2 rfl ?_
  refine WR.take rfl rfl rfl ?_
  refine WR.load rfl Tryz.underlying79 rfl hC.c2 rfl ?_
  refine WR.take rfl rfl rfl ?_
  refine WR.lenS rfl Tryz.underlying79 rfl ?_
  refine WR.take rfl rfl rfl ?_
  refine WR.bin rfl rfl rfl rfl ?_
  refine WR.pickT rfl rfl rfl rfl ?_
  refine WR.assign rfl rfl ?_
  refine WR.nil (WN.seq ?_)
  refine WC.retR rfl rfl ?_
  exact ⟨congrArg Value.bool (decide_eq_true (by omega)), k2, q2, ⟨_, hC, hk2, hO, hP, hq, hql⟩, fun j hj => by have := hall j hj; omega, hqq, hS⟩

theorem Own.rv {w : World} {base E n c k : Nat} {A : Option Addr} {e : Nat → Nat} (h : Own w base E (.slice A n c) (vals e k)) (h0 : 0 < k) : ∃ g, A = some ⟨g, 0, none⟩ ∧ g < w.heap.size ∧ Rd w g 0 k (fun i => .int .i64 (i8 e i)) := by
  obtain ⟨g, h1, _, h2, h3, _⟩ := h.rd (by rw [vals_length]; exact h0)
  rw [vals_length] at h3
  exact ⟨g, h1, h2, h3.congr fun i hi => vals_getD hi⟩

set_option maxHeartbeats 400000 in
theorem fill {w : World} {aE aU aP : Addr} (hg : Glob w aE aU aP) (bC bP q D k db x g o L c t N : Nat) (e : Nat → Nat) (f : Nat → Value) (hD : DC w bC bP q D k db e) (hx : x < D) (hDm : D ≤ 1048576) (hF : Row w g t N f) (hfit : o + L ≤ N) (hLc : L ≤ c) (hL0 : 0 < L) (hL : L ≤ 1099511627776) (hgg : 6 ≤ g) (hy1 : g ≠ bC) (hy2 : g ≠ bP) (hy3 : g ≠ q) (hy4 : g ≠ db) (hbq : 6 ≤ q) (hbC : 6 ≤ bC) (hbP : 6 ≤ bP) (hx1 : bC ≠ bP) (hx2 : bC ≠ db) (hx3 : bP ≠ db) :
    Ret Tryz.prog 139 #[.pointer (some ⟨bC, 0, none⟩), .slice (some ⟨g, o, none⟩) L c, .int .i32 (x : Nat)] w fun v w' => v = .nilIface ∧ ∃ k' q', DC w' bC bP q' D k' db e ∧ x < k' ∧ (q' = q ∨ w.heap.size ≤ q') ∧ (∃ F, Row w' g t N F ∧ Put F f o L L (fun _ => .int .i64 (i8 e x))) ∧ Same [bC, bP, q, g] w w' := by
  have hS := Same.refl [bC, bP, q, g] w
  have hgl := hF.lt
  refine Ret.enter (vs := [.pointer (some ⟨bC, 0, none⟩), .slice (some ⟨g, o, none⟩) L c, .int .i32 (x : Nat)]) Tryz.func139 Tryz.ntmps139 rfl rfl ?_
  refine WC.seq (WC.region ?_)
  refine WR.assign rfl rfl ?_
  refine WR.nil (WN.seq ?_)
  refine WC.seq (WC.seq (WC.region ?_))
  refine WR.move rfl rfl ?_
  refine WR.move rfl rfl ?_
  refine WR.callF rfl rfl cf143 rfl rfl (ensure hg bC bP q D k db x e hD (by omega) hDm hbC hbP hx1 hx2 hx3) ?_
  rintro _ w1 ⟨rfl, k2, q2, hD', hxk, hqq, hs⟩
  replace hD := hD'
  clear hD'
  obtain ⟨u, hC, hk2, hO, hP, hq, hql⟩ := hD
  obtain ⟨A, c2, rfl⟩ := hO.shape
  have hvl := vals_length e k2
  obtain ⟨g2, rfl, hlt2, hrd⟩ := hO.rv (by omega)
  have hgq : g ≠ q2 := by omega
  replace hS := hS.trans hs (by simp <;> omega)
  replace hg := hg.same hs (by simp <;> omega)
  replace hF := hF.same hs (by simp <;> omega)
  refine WR.assign rfl rfl ?_
  refine WR.nil (WN.seq ?_)
  refine WC.seq (WC.region ?_)
  refine WR.move rfl rfl ?_
  refine WR.neqNil rfl rfl Tryz.underlying54 rfl ?_
  refine WR.nil (WN.seq ?_)
  refine WC.cond rfl (fun h140 => ?_) (fun h140 => ?_)
  · skip
    exact absurd h140 (by simp)
  · skip
    simp only at h140
    refine WC.skip (WN.seq ?_)
    refine WC.seq (WC.region ?_)
    refine WR.move rfl rfl ?_
    refine WR.move rfl rfl ?_
    refine WR.nilCheckP rfl rfl ?_
    refine WR.field rfl fa101_2 rfl ?_
    refine WR.load rfl Tryz.underlying79 rfl hC.c2 rfl ?_
    refine WR.move rfl rfl ?_
    refine WR.idxK (x) rfl rfl Tryz.underlying79 sz2 (by omega) (by omega) rfl ?_
    refine WR.load rfl Tryz.underlying2 rfl (hrd x (by omega)) rfl ?_
    refine WR.idx rfl rfl Tryz.underlying79 sz2 (by omega) (by omega) rfl ?_
    refine WR.storeK rfl rfl rfl sz2 (hF.cell (by omega)) (hF.fz _) ?_
    intro w2 hn hs
    replace hF := hF.set' hn
    replace hS := hS.trans hs (by simp <;> omega)
    replace hg := hg.same hs (by simp <;> omega)
    replace hql := Nat.lt_of_lt_of_le hql hs.size
    replace hC := hC.same hs (by simp <;> omega)
    replace hO := hO.keep hs (by first | (intro g hm; have := hq g hm; simp <;> omega))
    replace hP := hP.same hs (by simp <;> omega) (by simp <;> omega)
    clear hn hs
    refine WR.nil (WN.seq ?_)
    refine WC.seq (WC.seq (WC.region ?_))
    refine WR.assign rfl rfl ?_
    refine WR.nil (WN.seq (WC.block ?_))
    have hput : Put (upd f (o + Int.toNat 0 * 1) (.int .i64 (i8 e x))) f o L (min 1 L) (fun _ => .int .i64 (i8 e x)) := by
      rw [show min 1 L = 0 + 1 by omega]
      exact Put.step (i := 0) (Put.zero f o L _) (by omega) rfl
    refine WC.loop (fun i : Nat => [(1, .slice (some ⟨g, o, none⟩) L c), (8, .int .i64 (i : Nat))]) (fun m i w' => m = L - i ∧ 1 ≤ i ∧ i ≤ 2 * L ∧ Glob w' aE aU aP ∧ Same [bC, bP, q, g] w w' ∧ DCr w' bC bP D (.slice (some ⟨g2, 0, none⟩) (vals e k2).length c2) ∧ Own w' 0 2 (.slice (some ⟨g2, 0, none⟩) (vals e k2).length c2) (vals e k2) ∧ PD w' bP (D - k2) db (fun i => e (8 * k2 + i)) ∧ q2 < w'.heap.size ∧ ∃ F, Row w' g t N F ∧ Put F f o L (min i L) (fun _ => .int .i64 (i8 e x))) (L - 1) 1 ⟨rfl, rfl, trivial⟩ ⟨rfl, by omega, by omega, hg, hS, hC, hO, hP, hql, _, hF, hput⟩ ?_
    clear hg hS hC hO hP hF hput hrd hql
    rintro m i w3 ⟨hm, hi1, hi2, hg, hS, hC, hO, hP, hql, F, hF, hput⟩
    refine WC.seq (WC.seq (WC.region ?_))
    refine WR.move rfl rfl ?_
    refine WR.move rfl rfl ?_
    refine WR.lenS rfl Tryz.underlying79 rfl ?_
    refine WR.bin rfl rfl rfl rfl ?_
    refine WR.nil (WN.seq ?_)
    refine WC.cond rfl (fun h144 => ?_) (fun h144 => ?_)
    · skip
      simp only [decide_eq_true_eq] at h144
      refine WC.skip (WN.seq ?_)
      refine WC.seq (WC.block ?_)
      refine WC.mix [] mixed (by kernel_rfl) ?_
      replace hS := hS.trans (Same.drew _) (by simp <;> omega)
      replace hg := hg.same (Same.drew _) (by simp <;> omega)
      replace hF := hF.same (Same.drew _) (by simp <;> omega)
      replace hql := Nat.lt_of_lt_of_le hql (Same.drew _).size
      replace hC := hC.same (Same.drew _) (by simp <;> omega)
      replace hO := hO.keep (Same.drew _) (by first | (intro g hm; have := hq g hm; simp <;> omega))
      replace hP := hP.same (Same.drew _) (by simp <;> omega) (by simp <;> omega)
      refine WR.move rfl rfl ?_
      refine WR.move rfl rfl ?_
      refine WR.slice rfl Tryz.underlying79 sz2 rfl ⟨_, _, rfl, by omega, by omega, show i = Int.toNat _ by omega⟩ rfl ?_
      refine WR.move rfl rfl ?_
      refine WR.move rfl rfl ?_
      refine WR.slice rfl Tryz.underlying79 sz2 ⟨_, _, rfl, by omega, by omega, show i = Int.toNat _ by omega⟩ rfl rfl ?_
      simp only [sl0]
      rw [if_neg (show ¬ c = i by omega), Nat.mul_one]
      obtain ⟨y, hy⟩ : ∃ y, y = Nat.min (i - 0) (L - i) := ⟨_, rfl⟩
      have hyy : y = min i (L - i) := hy
      rw [show min i L = i by omega] at hput
      refine WR.copyK (k := y) rfl rfl Tryz.underlying79 sz2 hy hF (by omega) (hF.rd o y (by omega)) (fun j hj => by rw [hput.1 j (by omega)]; rfl) rfl rfl ?_
      intro w4 hn hs
      replace hF := hn
      replace hS := hS.trans hs (by simp <;> omega)
      replace hg := hg.same hs (by simp <;> omega)
      replace hql := Nat.lt_of_lt_of_le hql hs.size
      replace hC := hC.same hs (by simp <;> omega)
      replace hO := hO.keep hs (by first | (intro g hm; have := hq g hm; simp <;> omega))
      replace hP := hP.same hs (by simp <;> omega) (by simp <;> omega)
      replace hput := hput.double (k := y) (by omega) (by omega)
      clear hn hs
      refine WR.nil (WN.block ?_)
      refine WN.seq (WC.region ?_)
      refine WR.move rfl rfl ?_
      (refine WR.bin rfl rfl (ar_mul (z := ((2 * i : Nat) : Int)) ?_) rfl ?_; (rw [wrap_i64 (by omega) (by omega)]; omega))
      refine WR.assign rfl rfl ?_
      refine WR.nil ?_
      exact WN.loop (L - 2 * i) (2 * i) (by omega) ⟨rfl, rfl, trivial⟩ ⟨rfl, by omega, by omega, hg, hS, hC, hO, hP, hql, _, hF, by rw [show min (2 * i) L = i + y by omega]; exact hput⟩
    · skip
      simp only [decide_eq_false_iff_not, Int.not_lt] at h144
      refine WC.exit rfl ?_
      refine WN.seq (WC.seq (WC.region ?_))
      refine WR.assign rfl rfl ?_
      refine WR.nil (WN.seq ?_)
      refine WC.retR rfl rfl ?_
      rw [show min i L = L by omega] at hput
      exact ⟨rfl, k2, q2, ⟨_, hC, hk2, hO, hP, hq, hql⟩, hxk, hqq, ⟨F, hF, hput⟩, hS⟩

set_option maxHeartbeats 400000 in
theorem copyDC {w : World} (bC bP q D k db g o L c t N gi oi n ci : Nat) (e X : Nat → Nat) (f : Nat → Value) (hD : DC w bC bP q D k db e) (hX : ∀ j, j < n → X j < k) (hd : Rd w gi oi n (fun j => .int .i32 (X j : Nat))) (hgi : gi < w.heap.size) (hF : Row w g t N f) (hfit : o + L ≤ N) (hn : n ≤ L) (hL : L ≤ 1099511627776) (hn0 : 0 < n) (hy1 : g ≠ bC) (hy2 : g ≠ bP) (hy3 : g ≠ q) (hy4 : g ≠ db) (hy5 : g ≠ gi) :
    Ret Tryz.prog 138 #[.pointer (some ⟨bC, 0, none⟩), .slice (some ⟨g, o, none⟩) L c, .slice (some ⟨gi, oi, none⟩) n ci] w fun v w' => v = .nilIface ∧ (∃ F, Row w' g t N F ∧ Put F f o n n (fun j => .int .i64 (i8 e (X j)))) ∧ Same [g] w w' := by
  have hS := Same.refl [g] w
  have hgl := hF.lt
  obtain ⟨u, hC, hk2, hO, hP, hq, hql⟩ := hD
  obtain ⟨A, c2, rfl⟩ := hO.shape
  have hvl := vals_length e k
  have hX0 := hX 0 hn0
  obtain ⟨g2, rfl, hlt2, hrd⟩ := hO.rv (by omega)
  have hgq : g2 = q := (hq g2 rfl).1
  clear hO hP hq
  have hput := Put.zero f o n (fun j => Value.int .i64 (i8 e (X j)))
  refine Ret.enter (vs := [.pointer (some ⟨bC, 0, none⟩), .slice (some ⟨g, o, none⟩) L c, .slice (some ⟨gi, oi, none⟩) n ci]) Tryz.func138 Tryz.ntmps138 rfl rfl ?_
  refine WC.seq (WC.region ?_)
  refine WR.assign rfl rfl ?_
  refine WR.nil (WN.seq ?_)
  refine WC.seq (WC.seq (WC.region ?_))
  refine WR.move rfl rfl ?_
  refine WR.lenS rfl Tryz.underlying141 rfl ?_
  refine WR.move rfl rfl ?_
  refine WR.nil (WN.seq (WC.block ?_))
  refine WC.loop (fun i : Nat => [(0, .pointer (some ⟨bC, 0, none⟩)), (1, .slice (some ⟨g, o, none⟩) L c), (9, .slice (some ⟨gi, oi, none⟩) n ci), (10, .int .i64 (n : Nat)), (11, .int .i64 (i : Nat))]) (fun m i w' => i + m = n ∧ Same [g] w w' ∧ DCr w' bC bP D (.slice (some ⟨g2, 0, none⟩) (vals e k).length c2) ∧ Rd w' g2 0 k (fun i => .int .i64 (i8 e i)) ∧ Rd w' gi oi n (fun j => .int .i32 (X j : Nat)) ∧ g2 < w'.heap.size ∧ gi < w'.heap.size ∧ ∃ F, Row w' g t N F ∧ Put F f o n i (fun j => .int .i64 (i8 e (X j)))) n 0 ⟨rfl, rfl, rfl, rfl, rfl, trivial⟩ ⟨by omega, hS, hC, hrd, hd, hlt2, hgi, _, hF, hput⟩ ?_
  clear hS hC hF hput hrd hd hlt2 hgi
  rintro m i w1 ⟨hm, hS, hC, hrd, hd, hlt2, hgi, F, hF, hput⟩
  refine WC.seq (WC.region ?_)
  refine WR.bin rfl rfl rfl rfl ?_
  refine WR.nil (WN.seq (WC.seq ?_))
  refine WC.cond rfl (fun h158 => ?_) (fun h158 => ?_)
  · skip
    simp only [decide_eq_true_eq] at h158
    refine WC.skip (WN.seq ?_)
    refine WC.seq (WC.block ?_)
    refine WC.seq (WC.region ?_)
    refine WR.move rfl rfl ?_
    refine WR.idxK (i) rfl rfl Tryz.underlying141 sz21 (by omega) (by omega) rfl ?_
    refine WR.load rfl Tryz.underlying21 rfl (hd i (by omega)) rfl ?_
    refine WR.assign rfl rfl ?_
    refine WR.assign rfl rfl ?_
    refine WR.nil (WN.seq (WC.region ?_))
    refine WR.move rfl rfl ?_
    refine WR.move rfl rfl ?_
    refine WR.move rfl rfl ?_
    refine WR.nilCheckP rfl rfl ?_
    refine WR.field rfl fa101_2 rfl ?_
    refine WR.load rfl Tryz.underlying79 rfl hC.c2 rfl ?_
    refine WR.move rfl rfl ?_
    refine WR.idxK (X i) rfl rfl Tryz.underlying79 sz2 (by omega) (by have := hX i (by omega); omega) rfl ?_
    refine WR.load rfl Tryz.underlying2 rfl (hrd (X i) (hX i (by omega))) rfl ?_
    refine WR.idxK (i) rfl rfl Tryz.underlying79 sz2 (by omega) (by omega) rfl ?_
    refine WR.storeK rfl rfl rfl sz2 (hF.cell (by omega)) (hF.fz _) ?_
    intro w2 hn hs
    replace hF := hF.set' hn
    replace hS := hS.trans hs (by simp <;> omega)
    replace hC := hC.same hs (by simp <;> omega)
    replace hrd := hrd.same hs (by simp <;> omega) hlt2
    replace hd := hd.same hs (by simp <;> omega) hgi
    replace hlt2 := Nat.lt_of_lt_of_le hlt2 hs.size
    replace hgi := Nat.lt_of_lt_of_le hgi hs.size
    clear hn hs
    refine WR.nil (WN.block ?_)
    refine WN.seq (WC.region ?_)
    (refine WR.bin rfl rfl (ar_add (wrap_i64 ?_ ?_)) rfl ?_; (omega); (omega))
    refine WR.move rfl rfl ?_
    refine WR.nil ?_
    exact WN.loop (m - 1) (i + 1) (by omega) ⟨rfl, rfl, rfl, rfl, kint rfl (by omega), trivial⟩ ⟨by omega, hS, hC, hrd, hd, hlt2, hgi, _, hF, hput.step (by omega) rfl⟩
  · skip
    simp only [decide_eq_false_iff_not, Int.not_lt] at h158
    obtain rfl : i = n := by omega
    refine WC.exit rfl ?_
    refine WN.seq (WC.seq (WC.region ?_))
    refine WR.assign rfl rfl ?_
    refine WR.nil (WN.seq ?_)
    refine WC.retR rfl rfl ?_
    exact ⟨rfl, ⟨F, hF, hput⟩, hS⟩

end Go.Proofs.YthmknddfkmklfaaGreatDoor.Vm
