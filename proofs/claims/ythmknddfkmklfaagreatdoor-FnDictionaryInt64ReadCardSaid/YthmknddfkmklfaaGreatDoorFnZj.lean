/- Batches of values, values compared, values by their numbers. -/
import Derived.Test.YthmknddfkmklfaaGreatDoorFnZi
namespace Go.Proofs.YthmknddfkmklfaaGreatDoor.Vm
open Go Mix Go.RowKit Num
set_option maxRecDepth 20000
set_option linter.unusedSimpArgs false
theorem tout_lt {z : Nat → Int} : ∀ {i : Nat}, ∀ x, x ∈ tout (fun k => k) z i → x < tpos z i
  | 0, x, hx => by simp [tout] at hx
  | i + 1, x, hx => by
    simp only [tout, List.mem_append, List.mem_map, List.mem_range] at hx
    simp only [tpos]
    rcases hx with h | ⟨j, hj, rfl⟩
    · have := tout_lt x h; omega
    · omega
theorem tout_map {V : Nat → Nat} {z : Nat → Int} : ∀ {i : Nat}, tout V z i = (tout (fun k => k) z i).map V
  | 0 => rfl
  | i + 1 => by
    simp only [tout, List.map_append, List.map_map]
    rw [tout_map (i := i)]
    rfl
theorem Own.low {w : World} {base b' E : Nat} {v : Value} {xs : List Value} (h : Own w base E v xs) (hb : b' ≤ base) : Own w b' E v xs := by
  obtain ⟨hl, h | ⟨g, cap, cur, h1, h2, h3⟩⟩ := h
  · exact ⟨hl, .inl h⟩
  · exact ⟨hl, .inr ⟨g, cap, cur, h1, by omega, h3⟩⟩
theorem Own.cap {w : World} {base E n c : Nat} {A : Option Addr} {xs : List Value} (h : Own w base E (.slice A n c) xs) : n ≤ c := by
  obtain ⟨hl, ⟨h, _⟩ | ⟨g, cap, cur, h1, h2, h3, h4, _⟩⟩ := h
  · cases h; exact Nat.le_refl _
  · cases h1; exact h4
theorem range_u64 (n : Nat) : u64s (List.range (n + 1)) = u64s (List.range n) ++ u64s [n] := by rw [List.range_succ, u64s_append]
theorem vC4 (x : VS) : (fun i => (#[vC x 0, vC x 1, vC x 2, vC x 3] : Array Value).getD i undef) = fun i => (#[vC x 0, vC x 1, vC x 2, vC x 3] : Array Value).getD i undef := rfl
theorem vC4_at (x : VS) : ∀ i, i < 4 → (#[vC x 0, vC x 1, vC x 2, vC x 3] : Array Value).getD i undef = vC x i := by
  intro i hi
  rcases (show i = 0 ∨ i = 1 ∨ i = 2 ∨ i = 3 by omega) with rfl | rfl | rfl | rfl <;> rfl
theorem OwV.low {w : World} {base b' : Nat} {v : Value} {xs : List (Nat → Value)} (h : OwV w base v xs) (hb : b' ≤ base) : OwV w b' v xs := by
  obtain ⟨hl, h | ⟨g, cap, cur, h1, h2, h3⟩⟩ := h
  · exact ⟨hl, .inl h⟩
  · exact ⟨hl, .inr ⟨g, cap, cur, h1, by omega, h3⟩⟩
theorem cf13 (us : Array Value) (w : World) : (callFunc 13 us).run Tryz.prog w = .ok (.enter 13 us) w := by kernel_rfl
theorem cf31 (us : Array Value) (w : World) : (callFunc 31 us).run Tryz.prog w = .ok (.enter 31 us) w := by kernel_rfl
theorem cf32 (us : Array Value) (w : World) : (callFunc 32 us).run Tryz.prog w = .ok (.enter 32 us) w := by kernel_rfl
theorem cf7 (us : Array Value) (w : World) : (callFunc 7 us).run Tryz.prog w = .ok (.enter 7 us) w := by kernel_rfl
set_option maxHeartbeats 400000 in
theorem counted0 {w : World} (n H : Nat) (hH : H = w.heap.size) (hn : n ≤ 2147483647) :
    Ret Tryz.prog 32 #[.int .i64 (n : Nat)] w fun v w' => Own w' H 33 v (u64s (List.range n)) ∧ Same [] w w' := by
  have hS := Same.refl [] w
  have hw0 := Nat.le_of_eq hH
  refine Ret.enter (vs := [.int .i64 (n : Nat)]) Tryz.func32 Tryz.ntmps32 rfl rfl ?_
  refine WC.seq (WC.region ?_)
  refine WR.assign rfl rfl ?_
  refine WR.nil (WN.seq ?_)
  refine WC.seq (WC.region ?_)
  refine WR.assign rfl rfl ?_
  refine WR.nil (WN.seq ?_)
  refine WC.seq (WC.seq (WC.region ?_))
  refine WR.assign rfl rfl ?_
  refine WR.nil (WN.seq (WC.block ?_))
  have hO : Own w H 33 (.slice none 0 0) (u64s (List.range 0)) := Own.nil _ _ _
  refine WC.loop (fun s : Nat × Value => [(0, .int .i64 (n : Nat)), (3, s.2), (4, .int .i64 (s.1 : Nat))]) (fun k s w' => s.1 + k = n ∧ H ≤ w'.heap.size ∧ Same [] w w' ∧ Own w' H 33 s.2 (u64s (List.range s.1))) n (0, .slice none 0 0) ⟨rfl, rfl, rfl, trivial⟩ ⟨by simp, hw0, hS, hO⟩ ?_
  clear hS hw0 hO
  rintro k ⟨i, u⟩ w1 ⟨hk, hw0, hS, hO⟩
  simp only at hk hO
  refine WC.seq (WC.seq (WC.region ?_))
  refine WR.move rfl rfl ?_
  refine WR.move rfl rfl ?_
  refine WR.bin rfl rfl rfl rfl ?_
  refine WR.nil (WN.seq ?_)
  refine WC.cond rfl (fun h59 => ?_) (fun h59 => ?_)
  · skip
    simp only [decide_eq_true_eq] at h59
    refine WC.skip (WN.seq ?_)
    refine WC.seq (WC.block (WC.region ?_))
    refine WR.move rfl rfl ?_
    refine WR.move rfl rfl ?_
    (refine WR.conv rfl Tryz.underlying3 Tryz.underlying33 (wrap_u64 ?_ ?_) rfl ?_; (omega); (omega))
    obtain ⟨nz, hnz⟩ : ∃ x, x = w1.heap.size := ⟨_, rfl⟩
    refine WR.buildSl (E := 33) (cs := #[.int .u64 (i : Nat)]) rfl rfl (fun w => by kernel_rfl) rfl rfl ?_
    rw [← hnz]
    intro w2 hM hs
    replace hw0 := Nat.le_trans hw0 hs.size
    replace hS := hS.trans hs (by simp <;> omega)
    replace hO := hO.same hs (by first | (simp <;> omega) | (intro hm; have := hS9 _ hm; omega) | (intro g hm; have := hS9 _ hm; omega) | (intro g hm; have := hS9 _ hm; exact .inr (by omega)))
    clear hs
    refine WR.appendL rfl hO rfl (show Ls _ 0 _ (u64s [i]) from hM.lsOne) (fun i hi => u64s_one hi) Tryz.underlying37 mk33 rfl (by decide) (by simp [u64s_length]; omega) (by omega) rfl rfl ?_
    intro u2 w3 S9 hn hs hS9
    replace hO := hn
    replace hw0 := Nat.le_trans hw0 hs.size
    replace hS := hS.trans hs (by first | (simp <;> omega) | (intro hm; have := hS9 _ hm; omega) | (intro g hm; have := hS9 _ hm; omega) | (intro g hm; have := hS9 _ hm; exact .inr (by omega)))
    clear hn hs hS9
    refine WR.assign rfl rfl ?_
    refine WR.nil (WN.block ?_)
    refine WN.seq (WC.region ?_)
    refine WR.move rfl rfl ?_
    (refine WR.bin rfl rfl (ar_add (z := ((i + 1 : Nat) : Int)) ?_) rfl ?_; (rw [wrap_i64 (by omega) (by omega)]; omega))
    refine WR.assign rfl rfl ?_
    refine WR.nil ?_
    exact WN.loop (k - 1) (i + 1, u2) (by omega) ⟨rfl, rfl, kint rfl (by omega), trivial⟩ ⟨show i + 1 + (k - 1) = n by omega, hw0, hS, by rw [range_u64]; exact hO⟩
  · skip
    simp only [decide_eq_false_iff_not, Int.not_lt] at h59
    obtain rfl : i = n := by omega
    refine WC.exit rfl ?_
    refine WN.seq (WC.seq (WC.region ?_))
    refine WR.move rfl rfl ?_
    refine WR.assign rfl rfl ?_
    refine WR.nil (WN.seq ?_)
    refine WC.retR rfl rfl ?_
    exact ⟨hO, hS⟩

set_option maxHeartbeats 400000 in
theorem batched {w : World} (xs : List Nat) (zs : List Int) (A Az : Option Addr) (N c m cz lz H0 : Nat) (hH0 : H0 = w.heap.size) (hl : Lu w H0 (.slice A N c) (u64s xs)) (hN : N = (u64s xs).length) (hNc : N ≤ c) (hN2 : N ≤ 1099511627776) (hz : Lu w lz (.slice Az m cz) (i64s zs)) (hlz : lz ≤ H0) (hm0 : m = (i64s zs).length) (hzr : ∀ i, -9223372036854775808 ≤ zs.getD i 0 ∧ zs.getD i 0 ≤ 9223372036854775807) (hm63 : m ≤ 9223372036854775807) :
    Ret Tryz.prog 31 #[.slice A N c, .slice Az m cz] w fun v w' => ∃ u b, v = .tuple #[u, .bool b] ∧ (b = true → m ≤ 50 ∧ tpos (fun i => zs.getD i 0) m ≤ N ∧ Own w' H0 33 u (u64s (tout (fun k => xs.getD k 0) (fun i => zs.getD i 0) m))) ∧ Same [] w w' := by
  have hS := Same.refl [] w
  obtain ⟨z, hzd⟩ : ∃ z : Nat → Int, z = fun i => zs.getD i 0 := ⟨_, rfl⟩
  rw [← hzd]
  have hzi : ∀ i, -9223372036854775808 ≤ z i ∧ z i ≤ 9223372036854775807 := fun i => by rw [hzd]; exact hzr i
  obtain ⟨V, hV⟩ : ∃ V : Nat → Nat, V = fun k => xs.getD k 0 := ⟨_, rfl⟩
  rw [← hV]
  have hO : Own w H0 33 (.slice none 0 0) (u64s (tout V z 0)) := Own.nil _ _ _
  refine Ret.enter (vs := [.slice A N c, .slice Az m cz]) Tryz.func31 Tryz.ntmps31 rfl rfl ?_
  refine WC.seq (WC.region ?_)
  refine WR.assign rfl rfl ?_
  refine WR.assign rfl rfl ?_
  refine WR.nil (WN.seq ?_)
  refine WC.seq (WC.region ?_)
  refine WR.assign rfl rfl ?_
  refine WR.nil (WN.seq ?_)
  refine WC.seq (WC.region ?_)
  refine WR.assign rfl rfl ?_
  refine WR.nil (WN.seq ?_)
  refine WC.seq (WC.seq (WC.region ?_))
  refine WR.move rfl rfl ?_
  refine WR.lenS rfl Tryz.underlying24 rfl ?_
  refine WR.bin rfl rfl rfl rfl ?_
  refine WR.nil (WN.seq ?_)
  refine WC.cond rfl (fun h127 => ?_) (fun h127 => ?_)
  · skip
    simp only [gt_iff_lt, decide_eq_true_eq] at h127
    refine WC.seq (WC.region ?_)
    refine WR.assign rfl rfl ?_
    refine WR.assign rfl rfl ?_
    refine WR.nil (WN.seq ?_)
    refine WC.retR rfl rfl ?_
    exact ⟨_, false, rfl, (fun h => by cases h), hS⟩
  · skip
    simp only [gt_iff_lt, decide_eq_false_iff_not, Int.not_lt] at h127
    refine WC.skip (WN.seq ?_)
    refine WC.seq (WC.seq (WC.region ?_))
    refine WR.move rfl rfl ?_
    refine WR.lenS rfl Tryz.underlying24 rfl ?_
    refine WR.move rfl rfl ?_
    refine WR.nil (WN.seq (WC.block ?_))
    refine WC.loop (fun x : Nat × Value => [(0, .slice A N c), (14, .slice Az m cz), (15, .int .i64 (m : Nat)), (16, .int .i64 (x.1 : Nat)), (6, x.2), (7, .int .i64 (tpos z x.1 : Nat))]) (fun k x w' => x.1 + k = m ∧ tpos z x.1 ≤ N ∧ Same [] w w' ∧ Lu w' H0 (.slice A N c) (u64s xs) ∧ Lu w' lz (.slice Az m cz) (i64s zs) ∧ Own w' H0 33 x.2 (u64s (tout V z x.1))) m (0, .slice none 0 0) ⟨rfl, rfl, rfl, rfl, rfl, rfl, trivial⟩ ⟨by simp, Nat.zero_le _, hS, hl, hz, hO⟩ ?_
    clear hS hl hz hO
    rintro k ⟨i, u⟩ w1 ⟨hm, hat, hS, hl, hz, hO⟩
    simp only [] at hm hat hO
    have hzz := hzi i
    obtain ⟨p, hp⟩ : ∃ p, p = tpos z i := ⟨_, rfl⟩
    have hout := tout_length V z i
    rw [← hp] at hat hout
    have hs1 := hS.size
    obtain ⟨zi, hzi0⟩ : ∃ zi, zi = z i := ⟨_, rfl⟩
    rw [← hzi0] at hzz
    have htp : tpos z (i + 1) = p + zi.natAbs := by simp only [tpos]; rw [← hp, ← hzi0]
    have hzi1 : zi = zs.getD i 0 := by rw [hzi0, hzd]
    refine WC.weak [(0, .slice A N c), (14, .slice Az m cz), (15, .int .i64 (m : Nat)), (16, .int .i64 (i : Nat)), (6, u), (7, .int .i64 (p : Nat))] ⟨rfl, rfl, rfl, rfl, rfl, kint rfl (by rw [hp]), trivial⟩ ?_
    rcases (show i < m ∧ zi = -9223372036854775808 ∨ i < m ∧ -9223372036854775808 < zi ∧ zi < 0 ∨ i < m ∧ 0 ≤ zi ∨ m ≤ i by omega) with ⟨hi, hzc⟩ | ⟨hi, hzc, hzd2⟩ | ⟨hi, hzc⟩ | hi
    · skip
      obtain ⟨gz, oz, ez, hez, hgz, hlz2, hrz⟩ := hz.lit (by omega)
      simp only [Value.slice.injEq] at hez
      obtain ⟨rfl, -, rfl⟩ := hez
      subst hzc
      refine WC.seq (WC.region ?_)
      refine WR.bin rfl rfl rfl rfl ?_
      refine WR.nil (WN.seq (WC.seq ?_))
      refine WC.cond rfl (fun h130 => ?_) (fun h130 => ?_)
      · skip
        simp only [decide_eq_true_eq] at h130
        refine WC.skip (WN.seq ?_)
        refine WC.seq (WC.block ?_)
        refine WC.seq (WC.region ?_)
        refine WR.idx rfl rfl Tryz.underlying24 sz3 (by omega) (by omega) rfl ?_
        refine WR.load rfl Tryz.underlying3 rfl (show _ = some (Value.int .i64 _) by rw [Nat.mul_one]; exact (hrz i (by omega)).trans (congrArg some ((i64s_getD (by rw [i64s_length] at hm0; omega)).trans (by rw [← hzi1])))) rfl ?_
        refine WR.assign rfl rfl ?_
        refine WR.nil (WN.seq ?_)
        refine WC.seq (WC.region ?_)
        refine WR.move rfl rfl ?_
        refine WR.assign rfl rfl ?_
        refine WR.nil (WN.seq ?_)
        refine WC.seq (WC.seq (WC.region ?_))
        refine WR.move rfl rfl ?_
        refine WR.bin rfl rfl rfl rfl ?_
        refine WR.nil (WN.seq ?_)
        refine WC.cond rfl (fun h132 => ?_) (fun h132 => ?_)
        · skip
          simp only [decide_eq_true_eq] at h132
          refine WC.region ?_
          refine WR.move rfl rfl ?_
          first
            | (refine WR.negOp rfl (wrap_i64 ?_ ?_) rfl ?_; (omega); (omega))
            | refine WR.negOp rfl rfl rfl ?_
          refine WR.assign rfl rfl ?_
          refine WR.nil (WN.seq ?_)
          refine WC.seq (WC.seq (WC.region ?_))
          refine WR.move rfl rfl ?_
          refine WR.bin rfl rfl rfl rfl ?_
          refine WR.move rfl rfl ?_
          refine WR.pass rfl rfl rfl rfl ?_
          refine WR.pass rfl rfl rfl rfl ?_
          refine WR.pass rfl rfl rfl rfl ?_
          refine WR.pass rfl rfl rfl rfl ?_
          refine WR.pass rfl rfl rfl rfl ?_
          refine WR.pass rfl rfl rfl rfl ?_
          refine WR.pickT rfl rfl rfl rfl ?_
          refine WR.nil (WN.seq ?_)
          refine WC.cond rfl (fun h135 => ?_) (fun h135 => ?_)
          · skip
            simp only at h135
            refine WC.seq (WC.region ?_)
            refine WR.assign rfl rfl ?_
            refine WR.assign rfl rfl ?_
            refine WR.nil (WN.seq ?_)
            refine WC.retR rfl rfl ?_
            exact ⟨_, false, rfl, (fun h => by cases h), hS⟩
          · skip
            cases h135
        · skip
          simp only [decide_eq_false_iff_not, Int.not_lt] at h132
          omega
      · skip
        simp only [decide_eq_false_iff_not, Int.not_lt] at h130
        omega
    · skip
      obtain ⟨gz, oz, ez, hez, hgz, hlz2, hrz⟩ := hz.lit (by omega)
      simp only [Value.slice.injEq] at hez
      obtain ⟨rfl, -, rfl⟩ := hez
      have hgd : decide (-zi < 0) = false := by simp; omega
      refine WC.seq (WC.region ?_)
      refine WR.bin rfl rfl rfl rfl ?_
      refine WR.nil (WN.seq (WC.seq ?_))
      refine WC.cond rfl (fun h130 => ?_) (fun h130 => ?_)
      · skip
        simp only [decide_eq_true_eq] at h130
        refine WC.skip (WN.seq ?_)
        refine WC.seq (WC.block ?_)
        refine WC.seq (WC.region ?_)
        refine WR.idx rfl rfl Tryz.underlying24 sz3 (by omega) (by omega) rfl ?_
        refine WR.load rfl Tryz.underlying3 rfl (show _ = some (Value.int .i64 _) by rw [Nat.mul_one]; exact (hrz i (by omega)).trans (congrArg some ((i64s_getD (by rw [i64s_length] at hm0; omega)).trans (by rw [← hzi1])))) rfl ?_
        refine WR.assign rfl rfl ?_
        refine WR.nil (WN.seq ?_)
        refine WC.seq (WC.region ?_)
        refine WR.move rfl rfl ?_
        refine WR.assign rfl rfl ?_
        refine WR.nil (WN.seq ?_)
        refine WC.seq (WC.seq (WC.region ?_))
        refine WR.move rfl rfl ?_
        refine WR.bin rfl rfl rfl rfl ?_
        refine WR.nil (WN.seq ?_)
        refine WC.cond rfl (fun h132 => ?_) (fun h132 => ?_)
        · skip
          simp only [decide_eq_true_eq] at h132
          refine WC.region ?_
          refine WR.move rfl rfl ?_
          (refine WR.negOp rfl (wrap_i64 ?_ ?_) rfl ?_; (omega); (omega))
          refine WR.assign rfl rfl ?_
          refine WR.nil (WN.seq ?_)
          refine WC.seq (WC.seq (WC.region ?_))
          refine WR.move rfl rfl ?_
          refine WR.bin rfl rfl rfl rfl ?_
          refine WR.move rfl rfl ?_
          refine WR.take rfl rfl (by first | rfl | assumption | simp_all) ?_
          refine WR.move rfl rfl ?_
          refine WR.take rfl rfl (by first | rfl | assumption | simp_all) ?_
          refine WR.move rfl rfl ?_
          refine WR.take rfl rfl (by first | rfl | assumption | simp_all) ?_
          refine WR.lenS rfl Tryz.underlying37 rfl ?_
          refine WR.take rfl rfl (by first | rfl | assumption | simp_all) ?_
          refine WR.move rfl rfl ?_
          refine WR.take rfl rfl (by first | rfl | assumption | simp_all) ?_
          (refine WR.bin rfl rfl (ar_sub (wrap_i64 ?_ ?_)) rfl ?_; (omega); (omega))
          refine WR.take rfl rfl (by first | rfl | assumption | simp_all) ?_
          refine WR.bin rfl rfl rfl rfl ?_
          refine WR.pickF rfl (by first | rfl | assumption | simp_all) rfl rfl ?_
          refine WR.nil (WN.seq ?_)
          refine WC.cond rfl (fun h135 => ?_) (fun h135 => ?_)
          · skip
            simp only [gt_iff_lt, decide_eq_true_eq] at h135
            refine WC.seq (WC.region ?_)
            refine WR.assign rfl rfl ?_
            refine WR.assign rfl rfl ?_
            refine WR.nil (WN.seq ?_)
            refine WC.retR rfl rfl ?_
            exact ⟨_, false, rfl, (fun h => by cases h), hS⟩
          · skip
            simp only [gt_iff_lt, decide_eq_false_iff_not, Int.not_lt] at h135
            refine WC.skip (WN.seq ?_)
            refine WC.seq (WC.seq (WC.region ?_))
            refine WR.move rfl rfl ?_
            refine WR.bin rfl rfl rfl rfl ?_
            refine WR.nil (WN.seq ?_)
            refine WC.cond rfl (fun h138 => ?_) (fun h138 => ?_)
            · skip
              simp only [gt_iff_lt, decide_eq_true_eq] at h138
              omega
            · skip
              simp only [gt_iff_lt, decide_eq_false_iff_not, Int.not_lt] at h138
              refine WC.skip (WN.seq (WC.region ?_))
              refine WR.move rfl rfl ?_
              refine WR.move rfl rfl ?_
              (refine WR.bin rfl rfl (ar_add (wrap_i64 ?_ ?_)) rfl ?_; (omega); (omega))
              refine WR.assign rfl rfl ?_
              refine WR.nil (WN.block ?_)
              refine WN.seq (WC.region ?_)
              (refine WR.bin rfl rfl (ar_add (wrap_i64 ?_ ?_)) rfl ?_; (omega); (omega))
              refine WR.move rfl rfl ?_
              refine WR.nil ?_
              first
                | exact WN.loop (k - 1) (i + 1, u2) (by omega) ⟨rfl, rfl, rfl, kint rfl (by show _ = ((i + 1 : Nat) : Int); omega), rfl, kint rfl (by show _ = ((tpos z (i + 1) : Nat) : Int); rw [htp]; omega), trivial⟩ ⟨by show i + 1 + (k - 1) = m; omega, by show tpos z (i + 1) ≤ N; rw [htp]; omega, hS, hl, hz, hO2⟩
                | exact WN.loop (k - 1) (i + 1, u) (by omega) ⟨rfl, rfl, rfl, kint rfl (by show _ = ((i + 1 : Nat) : Int); omega), rfl, kint rfl (by show _ = ((tpos z (i + 1) : Nat) : Int); rw [htp]; omega), trivial⟩ ⟨by show i + 1 + (k - 1) = m; omega, by show tpos z (i + 1) ≤ N; rw [htp]; omega, hS, hl, hz, by show Own _ _ _ _ (u64s (tout V z (i + 1))); rw [tout_nonpos (by omega)]; exact hO⟩
        · skip
          simp only [decide_eq_false_iff_not, Int.not_lt] at h132
          omega
      · skip
        simp only [decide_eq_false_iff_not, Int.not_lt] at h130
        omega
    · skip
      obtain ⟨gz, oz, ez, hez, hgz, hlz2, hrz⟩ := hz.lit (by omega)
      simp only [Value.slice.injEq] at hez
      obtain ⟨rfl, -, rfl⟩ := hez
      have hgd : decide (zi < 0) = false := by simp; omega
      refine WC.seq (WC.region ?_)
      refine WR.bin rfl rfl rfl rfl ?_
      refine WR.nil (WN.seq (WC.seq ?_))
      refine WC.cond rfl (fun h130 => ?_) (fun h130 => ?_)
      · skip
        simp only [decide_eq_true_eq] at h130
        refine WC.skip (WN.seq ?_)
        refine WC.seq (WC.block ?_)
        refine WC.seq (WC.region ?_)
        refine WR.idx rfl rfl Tryz.underlying24 sz3 (by omega) (by omega) rfl ?_
        refine WR.load rfl Tryz.underlying3 rfl (show _ = some (Value.int .i64 _) by rw [Nat.mul_one]; exact (hrz i (by omega)).trans (congrArg some ((i64s_getD (by rw [i64s_length] at hm0; omega)).trans (by rw [← hzi1])))) rfl ?_
        refine WR.assign rfl rfl ?_
        refine WR.nil (WN.seq ?_)
        refine WC.seq (WC.region ?_)
        refine WR.move rfl rfl ?_
        refine WR.assign rfl rfl ?_
        refine WR.nil (WN.seq ?_)
        refine WC.seq (WC.seq (WC.region ?_))
        refine WR.move rfl rfl ?_
        refine WR.bin rfl rfl rfl rfl ?_
        refine WR.nil (WN.seq ?_)
        refine WC.cond rfl (fun h132 => ?_) (fun h132 => ?_)
        · skip
          simp only [decide_eq_true_eq] at h132
          omega
        · skip
          simp only [decide_eq_false_iff_not, Int.not_lt] at h132
          refine WC.skip (WN.seq ?_)
          refine WC.seq (WC.seq (WC.region ?_))
          refine WR.move rfl rfl ?_
          refine WR.bin rfl rfl rfl rfl ?_
          refine WR.move rfl rfl ?_
          refine WR.take rfl rfl (by first | rfl | assumption | simp_all) ?_
          refine WR.move rfl rfl ?_
          refine WR.take rfl rfl (by first | rfl | assumption | simp_all) ?_
          refine WR.move rfl rfl ?_
          refine WR.take rfl rfl (by first | rfl | assumption | simp_all) ?_
          refine WR.lenS rfl Tryz.underlying37 rfl ?_
          refine WR.take rfl rfl (by first | rfl | assumption | simp_all) ?_
          refine WR.move rfl rfl ?_
          refine WR.take rfl rfl (by first | rfl | assumption | simp_all) ?_
          (refine WR.bin rfl rfl (ar_sub (wrap_i64 ?_ ?_)) rfl ?_; (omega); (omega))
          refine WR.take rfl rfl (by first | rfl | assumption | simp_all) ?_
          refine WR.bin rfl rfl rfl rfl ?_
          refine WR.pickF rfl (by first | rfl | assumption | simp_all) rfl rfl ?_
          refine WR.nil (WN.seq ?_)
          refine WC.cond rfl (fun h135 => ?_) (fun h135 => ?_)
          · skip
            simp only [gt_iff_lt, decide_eq_true_eq] at h135
            refine WC.seq (WC.region ?_)
            refine WR.assign rfl rfl ?_
            refine WR.assign rfl rfl ?_
            refine WR.nil (WN.seq ?_)
            refine WC.retR rfl rfl ?_
            exact ⟨_, false, rfl, (fun h => by cases h), hS⟩
          · skip
            simp only [gt_iff_lt, decide_eq_false_iff_not, Int.not_lt] at h135
            refine WC.skip (WN.seq ?_)
            refine WC.seq (WC.seq (WC.region ?_))
            refine WR.move rfl rfl ?_
            refine WR.bin rfl rfl rfl rfl ?_
            refine WR.nil (WN.seq ?_)
            refine WC.cond rfl (fun h138 => ?_) (fun h138 => ?_)
            · skip
              simp only [gt_iff_lt, decide_eq_true_eq] at h138
              obtain ⟨n, rfl⟩ := Int.eq_ofNat_of_zero_le hzc
              obtain ⟨gl, ol, el, hel, hgl, hll, hrl⟩ := hl.lit (by omega)
              simp only [Value.slice.injEq] at hel
              obtain ⟨rfl, -, rfl⟩ := hel
              refine WC.region ?_
              refine WR.move rfl rfl ?_
              refine WR.move rfl rfl ?_
              refine WR.move rfl rfl ?_
              refine WR.move rfl rfl ?_
              refine WR.move rfl rfl ?_
              (refine WR.bin rfl rfl (ar_add (wrap_i64 ?_ ?_)) rfl ?_; (omega); (omega))
              refine WR.slice rfl Tryz.underlying37 sz33 ⟨_, _, rfl, by omega, by omega, show p + n = Int.toNat _ by omega⟩ ⟨_, _, rfl, by omega, by omega, show p = Int.toNat _ by omega⟩ rfl ?_
              rw [if_neg (show ¬ c = p by omega), Nat.mul_one, show p + n - p = n by omega]
              refine WR.appendL rfl hO rfl (Lu.part (at' := p) (k := n) (c := c - p) hrl hll rfl (by omega)) (fun i hi => u64s_one hi) Tryz.underlying37 mk33 rfl (by decide) (by simp only [u64s_length, List.length_map, List.length_range]; omega) (by omega) rfl rfl ?_
              intro u2 w2 S9 hn hs hS9
              replace hO := hn
              replace hS := hS.trans hs (by first | (simp <;> omega) | (intro hm; have := hS9 _ hm; omega) | (intro g hm; have := hS9 _ hm; omega) | (intro g hm; have := hS9 _ hm; exact .inr (by omega)))
              replace hl := hl.same hs (by first | (simp <;> omega) | (intro hm; have := hS9 _ hm; omega) | (intro g hm; have := hS9 _ hm; omega) | (intro g hm; have := hS9 _ hm; exact .inr (by omega)))
              replace hz := hz.same hs (by first | (simp <;> omega) | (intro hm; have := hS9 _ hm; omega) | (intro g hm; have := hS9 _ hm; omega) | (intro g hm; have := hS9 _ hm; exact .inr (by omega)))
              have hO2 : Own w2 H0 33 u2 (u64s (tout V z (i + 1))) := by
                rw [tout_pos (n := n) (by rw [← hzi0]), ← hp, show (fun j => V (p + j)) = fun j => xs.getD (p + j) 0 by rw [hV]]
                exact hO
              clear hn hs hS9
              refine WR.assign rfl rfl ?_
              refine WR.nil (WN.seq (WC.region ?_))
              refine WR.move rfl rfl ?_
              refine WR.move rfl rfl ?_
              (refine WR.bin rfl rfl (ar_add (wrap_i64 ?_ ?_)) rfl ?_; (omega); (omega))
              refine WR.assign rfl rfl ?_
              refine WR.nil (WN.block ?_)
              refine WN.seq (WC.region ?_)
              (refine WR.bin rfl rfl (ar_add (wrap_i64 ?_ ?_)) rfl ?_; (omega); (omega))
              refine WR.move rfl rfl ?_
              refine WR.nil ?_
              exact WN.loop (k - 1) (i + 1, u2) (by omega) ⟨rfl, rfl, rfl, kint rfl (by show _ = ((i + 1 : Nat) : Int); omega), rfl, kint rfl (by show _ = ((tpos z (i + 1) : Nat) : Int); rw [htp]; omega), trivial⟩ ⟨by show i + 1 + (k - 1) = m; omega, by show tpos z (i + 1) ≤ N; rw [htp]; omega, hS, hl, hz, hO2⟩
            · skip
              simp only [gt_iff_lt, decide_eq_false_iff_not, Int.not_lt] at h138
              refine WC.skip (WN.seq (WC.region ?_))
              refine WR.move rfl rfl ?_
              refine WR.move rfl rfl ?_
              (refine WR.bin rfl rfl (ar_add (wrap_i64 ?_ ?_)) rfl ?_; (omega); (omega))
              refine WR.assign rfl rfl ?_
              refine WR.nil (WN.block ?_)
              refine WN.seq (WC.region ?_)
              (refine WR.bin rfl rfl (ar_add (wrap_i64 ?_ ?_)) rfl ?_; (omega); (omega))
              refine WR.move rfl rfl ?_
              refine WR.nil ?_
              first
                | exact WN.loop (k - 1) (i + 1, u2) (by omega) ⟨rfl, rfl, rfl, kint rfl (by show _ = ((i + 1 : Nat) : Int); omega), rfl, kint rfl (by show _ = ((tpos z (i + 1) : Nat) : Int); rw [htp]; omega), trivial⟩ ⟨by show i + 1 + (k - 1) = m; omega, by show tpos z (i + 1) ≤ N; rw [htp]; omega, hS, hl, hz, hO2⟩
                | exact WN.loop (k - 1) (i + 1, u) (by omega) ⟨rfl, rfl, rfl, kint rfl (by show _ = ((i + 1 : Nat) : Int); omega), rfl, kint rfl (by show _ = ((tpos z (i + 1) : Nat) : Int); rw [htp]; omega), trivial⟩ ⟨by show i + 1 + (k - 1) = m; omega, by show tpos z (i + 1) ≤ N; rw [htp]; omega, hS, hl, hz, by show Own _ _ _ _ (u64s (tout V z (i + 1))); rw [tout_nonpos (by omega)]; exact hO⟩
      · skip
        simp only [decide_eq_false_iff_not, Int.not_lt] at h130
        omega
    · skip
      obtain rfl : i = m := by omega
      refine WC.seq (WC.region ?_)
      refine WR.bin rfl rfl rfl rfl ?_
      refine WR.nil (WN.seq (WC.seq ?_))
      refine WC.cond rfl (fun h130 => ?_) (fun h130 => ?_)
      · skip
        simp only [decide_eq_true_eq] at h130
        omega
      · skip
        simp only [decide_eq_false_iff_not, Int.not_lt] at h130
        refine WC.exit rfl ?_
        refine WN.seq (WC.seq (WC.region ?_))
        refine WR.move rfl rfl ?_
        refine WR.assign rfl rfl ?_
        refine WR.assign rfl rfl ?_
        refine WR.nil (WN.seq ?_)
        refine WC.retR rfl rfl ?_
        exact ⟨u, true, rfl, fun _ => ⟨by omega, by rw [← hp]; exact hat, hO⟩, hS⟩

set_option maxHeartbeats 800000 in
theorem batchedValues {w : World} (ds : List VS) (zs : List Int) (A Az : Option Addr) (N c m cz H : Nat) (hH : H = w.heap.size) (hd : LuV w H (.slice A N c) (ds.map vC)) (hN : N = ds.length) (hN2 : N ≤ 1048576) (hz : Lu w H (.slice Az m cz) (i64s zs)) (hm0 : m = (i64s zs).length) (hzr : ∀ i, -9223372036854775808 ≤ zs.getD i 0 ∧ zs.getD i 0 ≤ 9223372036854775807) (hm63 : m ≤ 9223372036854775807) :
    Ret Tryz.prog 12 #[.slice A N c, .slice Az m cz] w fun v w' => ∃ u b, v = .tuple #[u, .bool b] ∧ (b = true → m ≤ 50 ∧ tpos (fun i => zs.getD i 0) m ≤ N ∧ OwV w' H u ((tout (fun k => k) (fun i => zs.getD i 0) m).map fun k => vC (ds.getD k default))) ∧ Same [] w w' := by
  have hS := Same.refl [] w
  have hw0 := Nat.le_of_eq hH
  refine Ret.enter (vs := [.slice A N c, .slice Az m cz]) Tryz.func12 Tryz.ntmps12 rfl rfl ?_
  refine WC.seq (WC.region ?_)
  refine WR.assign rfl rfl ?_
  refine WR.assign rfl rfl ?_
  refine WR.nil (WN.seq ?_)
  refine WC.seq (WC.region ?_)
  refine WR.move rfl rfl ?_
  refine WR.lenS rfl Tryz.underlying22 rfl ?_
  refine WR.callF rfl rfl cf32 rfl rfl (counted0 N _ rfl (by omega)) ?_
  rintro uu w1 ⟨hC, hs⟩
  obtain ⟨AC, cC, rfl⟩ := hC.shape
  have hCl : (u64s (List.range N)).length = N := by rw [u64s_length]; simp
  rw [hCl] at hC ⊢
  have hCc := hC.cap
  have hCu := hC.ls.lu
  replace hw0 := Nat.le_trans hw0 hs.size
  replace hS := hS.trans hs (by simp <;> omega)
  replace hd := hd.same hs (by simp <;> omega)
  replace hz := hz.same hs (by first | (simp <;> omega) | (intro hm; have := hS9 _ hm; omega) | (intro g hm; have := hS9 _ hm; omega) | (intro g hm; have := hS9 _ hm; exact .inr (by omega)))
  refine WR.move rfl rfl ?_
  refine WR.callF rfl rfl cf31 rfl rfl (batched (List.range N) zs AC Az N cC m cz H _ rfl hCu hCl.symm hCc (by omega) hz (by omega) hm0 hzr hm63) ?_
  rintro _ w2 ⟨uI, bI, rfl, hBI, hs⟩
  have hw45 := hw0
  replace hw0 := Nat.le_trans hw0 hs.size
  replace hS := hS.trans hs (by simp <;> omega)
  replace hd := hd.same hs (by simp <;> omega)
  replace hz := hz.same hs (by first | (simp <;> omega) | (intro hm; have := hS9 _ hm; omega) | (intro g hm; have := hS9 _ hm; omega) | (intro g hm; have := hS9 _ hm; exact .inr (by omega)))
  refine WR.move rfl rfl ?_
  refine WR.extract rfl rfl rfl ?_
  refine WR.extract rfl rfl rfl ?_
  refine WR.assign rfl rfl ?_
  refine WR.assign rfl rfl ?_
  refine WR.nil (WN.seq ?_)
  refine WC.seq (WC.seq (WC.region ?_))
  refine WR.move rfl rfl ?_
  refine WR.notOp rfl rfl ?_
  refine WR.nil (WN.seq ?_)
  refine WC.cond rfl (fun h46 => ?_) (fun h46 => ?_)
  · skip
    refine WC.seq (WC.region ?_)
    refine WR.assign rfl rfl ?_
    refine WR.assign rfl rfl ?_
    refine WR.nil (WN.seq ?_)
    refine WC.retR rfl rfl ?_
    exact ⟨_, false, rfl, (fun h => by cases h), hS⟩
  · skip
    obtain ⟨hI1, hI2, hIO⟩ := hBI (by simpa using h46)
    obtain ⟨T, hT⟩ : ∃ T, T = tout (fun k => k) (fun i => zs.getD i 0) m := ⟨_, rfl⟩
    have hTe : tout (fun k => (List.range N).getD k 0) (fun i => zs.getD i 0) m = T := by
      rw [hT]
      exact tout_congr fun k hk => by simp [show k < N by omega]
    rw [hTe] at hIO
    have hTlt : ∀ x, x ∈ T → x < N := fun x hx => by rw [hT] at hx; have := tout_lt x hx; omega
    have hTl : T.length ≤ N := by rw [hT]; exact Nat.le_trans (tout_length _ _ _) hI2
    obtain ⟨AI, cI, rfl⟩ := hIO.shape
    have hlI : (u64s T).length = T.length := u64s_length T
    have hI := hIO.ls.lu
    rw [hlI] at hI ⊢
    refine WC.skip (WN.seq ?_)
    refine WC.seq (WC.region ?_)
    refine WR.assign rfl rfl ?_
    refine WR.nil (WN.seq ?_)
    refine WC.seq (WC.seq (WC.region ?_))
    refine WR.move rfl rfl ?_
    refine WR.lenS rfl Tryz.underlying37 rfl ?_
    refine WR.move rfl rfl ?_
    refine WR.nil (WN.seq (WC.block ?_))
    obtain ⟨H2, hH2⟩ : ∃ x, x = w2.heap.size := ⟨_, rfl⟩
    rw [← hH2] at hI
    replace hd := hd.more (show H ≤ H2 by omega)
    have hw2 := Nat.le_of_eq hH2
    have hHH : H ≤ H2 := by omega
    have hO : OwV w2 H2 (.slice none 0 0) ((T.take 0).map fun k => vC (ds.getD k default)) := OwV.nil _ _
    refine WC.loop (fun s : Nat × Value => [(0, .slice A N c), (8, s.2), (21, .slice AI T.length cI), (22, .int .i64 (T.length : Nat)), (23, .int .i64 (s.1 : Nat))]) (fun k s w' => s.1 + k = T.length ∧ H ≤ w'.heap.size ∧ H2 ≤ w'.heap.size ∧ Same [] w w' ∧ LuV w' H2 (.slice A N c) (ds.map vC) ∧ Lu w' H2 (.slice AI T.length cI) (u64s T) ∧ OwV w' H2 s.2 ((T.take s.1).map fun k => vC (ds.getD k default))) T.length (0, .slice none 0 0) ⟨rfl, rfl, rfl, rfl, rfl, trivial⟩ ⟨by simp, hw0, hw2, hS, hd, hI, hO⟩ ?_
    clear hS hw0 hw2 hd hI hIO hO hz hCu hC
    rintro k ⟨i, u⟩ w3 ⟨hk, hw0, hw2, hS, hd, hI, hO⟩
    simp only at hk hO
    rcases (show i < T.length ∨ i = T.length by omega) with hi | hi
    · skip
      obtain ⟨gI, oI, eI, heI, hgI, hlI2, hrI⟩ := hI.lit (by omega)
      simp only [Value.slice.injEq] at heI
      obtain ⟨rfl, -, rfl⟩ := heI
      have hTi : T.getD i 0 < N := by rw [List.getD_eq_getElem?_getD, List.getElem?_eq_getElem hi]; exact hTlt _ (List.getElem_mem hi)
      obtain ⟨g, o, rfl, -, hgH, hgl, hcs⟩ := hd.lit (by simp; omega)
      have hci := hcs (T.getD i 0) (by rw [List.length_map]; omega)
      rw [getD_map (by omega)] at hci
      clear hcs
      obtain ⟨x, hx⟩ : ∃ x, x = ds.getD (T.getD i 0) default := ⟨_, rfl⟩
      rw [← hx] at hci
      have htk : ((T.take i).map fun k => vC (ds.getD k default)).length = i := by simp; omega
      refine WC.seq (WC.region ?_)
      refine WR.bin rfl rfl rfl rfl ?_
      refine WR.nil (WN.seq (WC.seq ?_))
      refine WC.cond rfl (fun h50 => ?_) (fun h50 => ?_)
      · skip
        simp only [decide_eq_true_eq] at h50
        refine WC.skip (WN.seq ?_)
        refine WC.seq (WC.block ?_)
        refine WC.seq (WC.region ?_)
        refine WR.idx rfl rfl Tryz.underlying37 sz33 (by omega) (by omega) rfl ?_
        refine WR.load rfl Tryz.underlying33 rfl (show _ = some (Value.int .u64 (T.getD i 0 : Nat)) by rw [Nat.mul_one]; exact (hrI i (by omega)).trans (congrArg some (u64s_getD (by omega)))) rfl ?_
        refine WR.assign rfl rfl ?_
        refine WR.nil (WN.seq (WC.region ?_))
        refine WR.move rfl rfl ?_
        refine WR.move rfl rfl ?_
        refine WR.move rfl rfl ?_
        refine WR.idx rfl rfl Tryz.underlying22 sz35 (by omega) (by omega) rfl ?_
        refine WR.loadAgg rfl Tryz.underlying35 rfl sz35 (show Rd _ g (o + Int.toNat ((T.getD i 0 : Nat) : Int) * 4) 4 (vC x) from hci) rfl ?_
        obtain ⟨nz, hnz⟩ : ∃ x, x = w3.heap.size := ⟨_, rfl⟩
        refine WR.buildSl (E := 35) (cs := #[vC x 0, vC x 1, vC x 2, vC x 3]) rfl rfl (fun w => by kernel_rfl) rfl rfl ?_
        rw [← hnz]
        intro w4 hM hs
        replace hw0 := Nat.le_trans hw0 hs.size
        replace hw2 := Nat.le_trans hw2 hs.size
        replace hS := hS.trans hs (by simp <;> omega)
        replace hd := hd.same hs (by simp <;> omega)
        replace hI := hI.same hs (by first | (simp <;> omega) | (intro hm; have := hS9 _ hm; omega) | (intro g hm; have := hS9 _ hm; omega) | (intro g hm; have := hS9 _ hm; exact .inr (by omega)))
        replace hO := hO.same hs (by first | (simp <;> omega) | (intro hm; have := hS9 _ hm; omega) | (intro g hm; have := hS9 _ hm; omega) | (intro g hm; have := hS9 _ hm; exact .inr (by omega)))
        clear hs
        have hML := hM.lt
        refine WR.appendV (f := vC x) rfl hO rfl ((hM.rd 0 4 (Nat.le_refl 4)).congr (fun j hj => by rw [Nat.zero_add]; exact vC4_at x j hj)) (fun j hj => vC_one _ hj) Tryz.underlying22 mkV rfl (by decide) (by simp <;> omega) (by omega) rfl rfl ?_
        intro u2 w5 S9 hn hs hS9
        replace hO := hn
        replace hw0 := Nat.le_trans hw0 hs.size
        replace hw2 := Nat.le_trans hw2 hs.size
        replace hS := hS.trans hs (by first | (simp <;> omega) | (intro hm; have := hS9 _ hm; omega) | (intro g hm; have := hS9 _ hm; omega) | (intro g hm; have := hS9 _ hm; exact .inr (by omega)))
        replace hd := hd.same hs (by first | (simp <;> omega) | (intro hm; have := hS9 _ hm; omega) | (intro g hm; have := hS9 _ hm; omega) | (intro g hm; have := hS9 _ hm; exact .inr (by omega)))
        replace hI := hI.same hs (by first | (simp <;> omega) | (intro hm; have := hS9 _ hm; omega) | (intro g hm; have := hS9 _ hm; omega) | (intro g hm; have := hS9 _ hm; exact .inr (by omega)))
        clear hn hs hS9
        refine WR.assign rfl rfl ?_
        refine WR.nil (WN.block ?_)
        refine WN.seq (WC.region ?_)
        (refine WR.bin rfl rfl (ar_add (wrap_i64 ?_ ?_)) rfl ?_; (omega); (omega))
        refine WR.move rfl rfl ?_
        refine WR.nil ?_
        exact WN.loop (k - 1) (i + 1, u2) (by omega) ⟨rfl, rfl, rfl, rfl, kint rfl (by omega), trivial⟩ ⟨show i + 1 + (k - 1) = T.length by omega, hw0, hw2, hS, hd, hI, by rw [take_snoc hi, List.map_append, List.map_singleton, ← hx]; exact hO⟩
      · skip
        simp only [decide_eq_false_iff_not, Int.not_lt] at h50
        omega
    · skip
      rw [List.take_of_length_le (by omega)] at hO
      refine WC.seq (WC.region ?_)
      refine WR.bin rfl rfl rfl rfl ?_
      refine WR.nil (WN.seq (WC.seq ?_))
      refine WC.cond rfl (fun h50 => ?_) (fun h50 => ?_)
      · skip
        simp only [decide_eq_true_eq] at h50
        omega
      · skip
        simp only [decide_eq_false_iff_not, Int.not_lt] at h50
        refine WC.exit rfl ?_
        refine WN.seq (WC.seq (WC.region ?_))
        refine WR.move rfl rfl ?_
        refine WR.assign rfl rfl ?_
        refine WR.assign rfl rfl ?_
        refine WR.nil (WN.seq ?_)
        refine WC.retR rfl rfl ?_
        exact ⟨u, true, rfl, fun _ => ⟨hI1, hI2, by rw [← hT]; exact OwV.low hO (by omega)⟩, hS⟩

set_option maxHeartbeats 200000 in
theorem sameNil (A1 A2 : Option Addr) (c1 c2 : Nat) (w : World) :
    Ret Tryz.prog 13 #[.slice A1 0 c1, .slice A2 0 c2] w fun v w' => v = .bool true ∧ w' = w := by
  refine Ret.enter (vs := [.slice A1 0 c1, .slice A2 0 c2]) Tryz.func13 Tryz.ntmps13 rfl rfl ?_
  refine WC.seq (WC.region ?_)
  refine WR.assign rfl rfl ?_
  refine WR.nil (WN.seq ?_)
  refine WC.seq (WC.seq (WC.region ?_))
  refine WR.move rfl rfl ?_
  refine WR.lenS rfl Tryz.underlying22 rfl ?_
  refine WR.move rfl rfl ?_
  refine WR.lenS rfl Tryz.underlying22 rfl ?_
  refine WR.bin rfl rfl rfl rfl ?_
  refine WR.nil (WN.seq ?_)
  refine WC.cond rfl (fun h178 => ?_) (fun h178 => ?_)
  · skip
    exact absurd h178 (by decide)
  · skip
    simp only [bne_eq_false_iff_eq] at h178
    refine WC.skip (WN.seq ?_)
    refine WC.seq (WC.seq (WC.region ?_))
    refine WR.move rfl rfl ?_
    refine WR.lenS rfl Tryz.underlying22 rfl ?_
    refine WR.move rfl rfl ?_
    refine WR.nil (WN.seq (WC.block ?_))
    refine WC.loop (fun _ : Unit => [(12, .int .i64 0), (13, .int .i64 0)]) (fun _ _ w' => w' = w) 0 () ⟨rfl, rfl, trivial⟩ rfl ?_
    rintro k _ w9 hw9
    replace hw9 := hw9.symm
    subst hw9
    refine WC.seq (WC.region ?_)
    refine WR.bin rfl rfl rfl rfl ?_
    refine WR.nil (WN.seq (WC.seq ?_))
    refine WC.cond rfl (fun h181 => ?_) (fun h181 => ?_)
    · skip
      exact absurd h181 (by decide)
    · skip
      simp only [decide_eq_false_iff_not, Int.not_lt] at h181
      refine WC.exit rfl ?_
      refine WN.seq (WC.seq (WC.region ?_))
      refine WR.assign rfl rfl ?_
      refine WR.nil (WN.seq ?_)
      refine WC.retR rfl rfl ?_
      exact ⟨rfl, rfl⟩

set_option maxHeartbeats 400000 in
theorem sameValue {w : World} (x y : VS) (hx : x.b = false) (hy : y.b = false) (hn : x.n = y.n) (hs0 : x.s.toList = y.s.toList) (hk : x.k = 0) (hk2 : y.k = 0) :
    Ret Tryz.prog 7 #[.agg ((List.range 4).map (vC x)).toArray, .agg ((List.range 4).map (vC y)).toArray] w fun v w' => v = .bool true ∧ Same [] w w' := by
  have hS := Same.refl [] w
  have hsb : (x.s.toList == y.s.toList) = true := by simp [hs0]
  have hnb : (((x.n : Nat) : Int) == ((y.n : Nat) : Int)) = true := by simp [hn]
  refine Ret.enter (vs := [.agg ((List.range 4).map (vC x)).toArray, .agg ((List.range 4).map (vC y)).toArray]) Tryz.func7 Tryz.ntmps7 rfl rfl ?_
  refine WC.seq (WC.region ?_)
  refine WR.box rfl rfl rfl ?_
  intro w1 hn hs
  replace hS := hS.trans hs (by simp <;> omega)
  obtain ⟨bX, hbX⟩ : ∃ x, x = w.heap.size := ⟨_, rfl⟩
  have hX : VC w1 bX x := by rw [hn, hbX]; exact VC.box _ x
  rw [← hbX]
  have hXl := hX.lt
  clear hn hs
  refine WR.box rfl rfl rfl ?_
  intro w2 hn hs
  replace hS := hS.trans hs (by simp <;> omega)
  replace hX := hX.same hs (by simp <;> omega)
  obtain ⟨bY, hbY⟩ : ∃ x, x = w1.heap.size := ⟨_, rfl⟩
  have hY : VC w2 bY y := by rw [hn, hbY]; exact VC.box _ y
  rw [← hbY]
  have hYl := hY.lt
  clear hn hs
  refine WR.assign rfl rfl ?_
  refine WR.nil (WN.seq ?_)
  refine WC.seq (WC.seq (WC.region ?_))
  refine WR.field rfl fa35_0 rfl ?_
  refine WR.load rfl Tryz.underlying4 rfl (show _ = some (Value.bool false) from hX.c0.trans (by rw [hx])) rfl ?_
  refine WR.move rfl rfl ?_
  refine WR.take rfl rfl rfl ?_
  refine WR.field rfl fa35_0 rfl ?_
  refine WR.take rfl rfl rfl ?_
  refine WR.load rfl Tryz.underlying4 rfl (show _ = some (Value.bool false) from hY.c0.trans (by rw [hy])) rfl ?_
  refine WR.pickF rfl rfl rfl rfl ?_
  refine WR.nil (WN.seq ?_)
  refine WC.cond rfl (fun h170 => ?_) (fun h170 => ?_)
  · skip
    cases h170
  · skip
    simp only at h170
    refine WC.skip (WN.seq ?_)
    refine WC.seq (WC.region ?_)
    refine WR.field rfl fa35_1 rfl ?_
    refine WR.load rfl Tryz.underlying33 rfl hX.c1 rfl ?_
    refine WR.field rfl fa35_1 rfl ?_
    refine WR.load rfl Tryz.underlying33 rfl hY.c1 rfl ?_
    refine WR.bin rfl rfl rfl rfl ?_
    refine WR.move rfl rfl ?_
    refine WR.take rfl rfl (by first | rfl | assumption | (simp only [Bool.not_true, Bool.not_false, decide_eq_true_eq, decide_eq_false_iff_not, beq_iff_eq, bne_iff_ne, beq_eq_false_iff_ne, bne_eq_false_iff_eq, gt_iff_lt, ge_iff_le]; omega) | simp_all) ?_
    refine WR.field rfl fa35_2 rfl ?_
    refine WR.take rfl rfl (by first | rfl | assumption | (simp only [Bool.not_true, Bool.not_false, decide_eq_true_eq, decide_eq_false_iff_not, beq_iff_eq, bne_iff_ne, beq_eq_false_iff_ne, bne_eq_false_iff_eq, gt_iff_lt, ge_iff_le]; omega) | simp_all) ?_
    refine WR.load rfl Tryz.underlying9 rfl hX.c2 rfl ?_
    refine WR.take rfl rfl (by first | rfl | assumption | (simp only [Bool.not_true, Bool.not_false, decide_eq_true_eq, decide_eq_false_iff_not, beq_iff_eq, bne_iff_ne, beq_eq_false_iff_ne, bne_eq_false_iff_eq, gt_iff_lt, ge_iff_le]; omega) | simp_all) ?_
    refine WR.field rfl fa35_2 rfl ?_
    refine WR.take rfl rfl (by first | rfl | assumption | (simp only [Bool.not_true, Bool.not_false, decide_eq_true_eq, decide_eq_false_iff_not, beq_iff_eq, bne_iff_ne, beq_eq_false_iff_ne, bne_eq_false_iff_eq, gt_iff_lt, ge_iff_le]; omega) | simp_all) ?_
    refine WR.load rfl Tryz.underlying9 rfl hY.c2 rfl ?_
    refine WR.take rfl rfl (by first | rfl | assumption | (simp only [Bool.not_true, Bool.not_false, decide_eq_true_eq, decide_eq_false_iff_not, beq_iff_eq, bne_iff_ne, beq_eq_false_iff_ne, bne_eq_false_iff_eq, gt_iff_lt, ge_iff_le]; omega) | simp_all) ?_
    refine WR.eqlS rfl rfl rfl ?_
    refine WR.pickT rfl (by first | rfl | assumption | (simp only [Bool.not_true, Bool.not_false, decide_eq_true_eq, decide_eq_false_iff_not, beq_iff_eq, bne_iff_ne, beq_eq_false_iff_ne, bne_eq_false_iff_eq, gt_iff_lt, ge_iff_le]; omega) | simp_all) rfl rfl ?_
    refine WR.move rfl rfl ?_
    refine WR.take rfl rfl (by first | rfl | assumption | (simp only [Bool.not_true, Bool.not_false, decide_eq_true_eq, decide_eq_false_iff_not, beq_iff_eq, bne_iff_ne, beq_eq_false_iff_ne, bne_eq_false_iff_eq, gt_iff_lt, ge_iff_le]; omega) | simp_all) ?_
    refine WR.field rfl fa35_3 rfl ?_
    refine WR.take rfl rfl (by first | rfl | assumption | (simp only [Bool.not_true, Bool.not_false, decide_eq_true_eq, decide_eq_false_iff_not, beq_iff_eq, bne_iff_ne, beq_eq_false_iff_ne, bne_eq_false_iff_eq, gt_iff_lt, ge_iff_le]; omega) | simp_all) ?_
    refine WR.load rfl Tryz.underlying22 rfl (show _ = some (Value.slice x.A 0 x.c) from hX.c3.trans (by rw [hk])) rfl ?_
    refine WR.take rfl rfl (by first | rfl | assumption | (simp only [Bool.not_true, Bool.not_false, decide_eq_true_eq, decide_eq_false_iff_not, beq_iff_eq, bne_iff_ne, beq_eq_false_iff_ne, bne_eq_false_iff_eq, gt_iff_lt, ge_iff_le]; omega) | simp_all) ?_
    refine WR.field rfl fa35_3 rfl ?_
    refine WR.take rfl rfl (by first | rfl | assumption | (simp only [Bool.not_true, Bool.not_false, decide_eq_true_eq, decide_eq_false_iff_not, beq_iff_eq, bne_iff_ne, beq_eq_false_iff_ne, bne_eq_false_iff_eq, gt_iff_lt, ge_iff_le]; omega) | simp_all) ?_
    refine WR.load rfl Tryz.underlying22 rfl (show _ = some (Value.slice y.A 0 y.c) from hY.c3.trans (by rw [hk2])) rfl ?_
    refine WR.take rfl rfl (by first | rfl | assumption | (simp only [Bool.not_true, Bool.not_false, decide_eq_true_eq, decide_eq_false_iff_not, beq_iff_eq, bne_iff_ne, beq_eq_false_iff_ne, bne_eq_false_iff_eq, gt_iff_lt, ge_iff_le]; omega) | simp_all) ?_
    refine WR.callF rfl rfl cf13 rfl rfl (sameNil x.A y.A x.c y.c _) ?_
    rintro _ w9 ⟨rfl, hw9⟩
    replace hw9 := hw9.symm
    subst hw9
    refine WR.pickT rfl (by first | rfl | assumption | (simp only [Bool.not_true, Bool.not_false, decide_eq_true_eq, decide_eq_false_iff_not, beq_iff_eq, bne_iff_ne, beq_eq_false_iff_ne, bne_eq_false_iff_eq, gt_iff_lt, ge_iff_le]; omega) | simp_all) rfl rfl ?_
    refine WR.assign rfl rfl ?_
    refine WR.nil (WN.seq ?_)
    refine WC.retR rfl rfl ?_
    exact ⟨rfl, hS⟩

set_option maxHeartbeats 400000 in
theorem sameValues {w : World} (xs ys : List VS) (A1 A2 : Option Addr) (n c1 c2 H : Nat) (hH : H = w.heap.size) (h1 : LuV w H (.slice A1 n c1) (xs.map vC)) (h2 : LuV w H (.slice A2 n c2) (ys.map vC)) (hn1 : n = xs.length) (hn2 : n = ys.length) (hn3 : n ≤ 1048576) (hp : ∀ j, j < n → (xs.getD j default).b = false ∧ (ys.getD j default).b = false ∧ (xs.getD j default).n = (ys.getD j default).n ∧ (xs.getD j default).s.toList = (ys.getD j default).s.toList ∧ (xs.getD j default).k = 0 ∧ (ys.getD j default).k = 0) :
    Ret Tryz.prog 13 #[.slice A1 n c1, .slice A2 n c2] w fun v w' => v = .bool true ∧ Same [] w w' := by
  have hS := Same.refl [] w
  have hw0 := Nat.le_of_eq hH
  refine Ret.enter (vs := [.slice A1 n c1, .slice A2 n c2]) Tryz.func13 Tryz.ntmps13 rfl rfl ?_
  refine WC.seq (WC.region ?_)
  refine WR.assign rfl rfl ?_
  refine WR.nil (WN.seq ?_)
  refine WC.seq (WC.seq (WC.region ?_))
  refine WR.move rfl rfl ?_
  refine WR.lenS rfl Tryz.underlying22 rfl ?_
  refine WR.move rfl rfl ?_
  refine WR.lenS rfl Tryz.underlying22 rfl ?_
  refine WR.bin rfl rfl rfl rfl ?_
  refine WR.nil (WN.seq ?_)
  refine WC.cond rfl (fun h178 => ?_) (fun h178 => ?_)
  · skip
    exact absurd h178 (by simp)
  · skip
    simp only [bne_eq_false_iff_eq] at h178
    refine WC.skip (WN.seq ?_)
    refine WC.seq (WC.seq (WC.region ?_))
    refine WR.move rfl rfl ?_
    refine WR.lenS rfl Tryz.underlying22 rfl ?_
    refine WR.move rfl rfl ?_
    refine WR.nil (WN.seq (WC.block ?_))
    refine WC.loop (fun i : Nat => [(0, .slice A1 n c1), (1, .slice A2 n c2), (12, .int .i64 (n : Nat)), (13, .int .i64 (i : Nat))]) (fun k i w' => i + k = n ∧ H ≤ w'.heap.size ∧ Same [] w w' ∧ LuV w' H (.slice A1 n c1) (xs.map vC) ∧ LuV w' H (.slice A2 n c2) (ys.map vC)) n 0 ⟨rfl, rfl, rfl, rfl, trivial⟩ ⟨by omega, hw0, hS, h1, h2⟩ ?_
    clear hS hw0 h1 h2
    rintro k i w1 ⟨hk, hw0, hS, h1, h2⟩
    rcases (show i < n ∨ i = n by omega) with hi | rfl
    · skip
      obtain ⟨g1, o1, rfl, -, hgH1, hgl1, hcs1⟩ := h1.lit (by simp; omega)
      have hci1 := hcs1 i (by simp; omega)
      rw [getD_map (by omega)] at hci1
      clear hcs1
      obtain ⟨g2, o2, rfl, -, hgH2, hgl2, hcs2⟩ := h2.lit (by simp; omega)
      have hci2 := hcs2 i (by simp; omega)
      rw [getD_map (by omega)] at hci2
      clear hcs2
      obtain ⟨p1, p2, p3, p4, p5, p6⟩ := hp i hi
      refine WC.seq (WC.region ?_)
      refine WR.bin rfl rfl rfl rfl ?_
      refine WR.nil (WN.seq (WC.seq ?_))
      refine WC.cond rfl (fun h181 => ?_) (fun h181 => ?_)
      · skip
        simp only [decide_eq_true_eq] at h181
        refine WC.skip (WN.seq ?_)
        refine WC.seq (WC.block ?_)
        refine WC.seq (WC.region ?_)
        refine WR.move rfl rfl ?_
        refine WR.assign rfl rfl ?_
        refine WR.nil (WN.seq (WC.seq ?_))
        refine WC.mix [] mixed (by kernel_rfl) ?_
        replace hw0 := Nat.le_trans hw0 (Same.drew _).size
        replace hS := hS.trans (Same.drew _) (by simp <;> omega)
        replace h1 := h1.same (Same.drew _) (by simp <;> omega)
        replace h2 := h2.same (Same.drew _) (by simp <;> omega)
        replace hci1 := hci1.same (Same.drew _) (by simp) hgl1
        replace hci2 := hci2.same (Same.drew _) (by simp) hgl2
        refine WR.move rfl rfl ?_
        refine WR.move rfl rfl ?_
        refine WR.idx rfl rfl Tryz.underlying22 sz35 (by omega) (by omega) rfl ?_
        refine WR.loadAgg rfl Tryz.underlying35 rfl sz35 (show Rd _ g1 (o1 + Int.toNat ((i : Nat) : Int) * 4) 4 (vC (xs.getD i default)) from hci1) rfl ?_
        refine WR.move rfl rfl ?_
        refine WR.move rfl rfl ?_
        refine WR.idx rfl rfl Tryz.underlying22 sz35 (by omega) (by omega) rfl ?_
        refine WR.loadAgg rfl Tryz.underlying35 rfl sz35 (show Rd _ g2 (o2 + Int.toNat ((i : Nat) : Int) * 4) 4 (vC (ys.getD i default)) from hci2) rfl ?_
        refine WR.callF rfl rfl cf7 rfl rfl (sameValue (xs.getD i default) (ys.getD i default) p1 p2 p3 p4 p5 p6) ?_
        rintro _ w2 ⟨rfl, hs⟩
        replace hw0 := Nat.le_trans hw0 hs.size
        replace hS := hS.trans hs (by simp <;> omega)
        replace h1 := h1.same hs (by simp <;> omega)
        replace h2 := h2.same hs (by simp <;> omega)
        replace hci1 := hci1.same hs (by simp) hgl1
        replace hci2 := hci2.same hs (by simp) hgl2
        refine WR.notOp rfl rfl ?_
        refine WR.nil (WN.seq ?_)
        refine WC.cond rfl (fun h182 => ?_) (fun h182 => ?_)
        · skip
          exact absurd h182 (by simp)
        · skip
          refine WC.skip (WN.block ?_)
          refine WN.seq (WC.region ?_)
          (refine WR.bin rfl rfl (ar_add (wrap_i64 ?_ ?_)) rfl ?_; (omega); (omega))
          refine WR.move rfl rfl ?_
          refine WR.nil ?_
          exact WN.loop (k - 1) (i + 1) (by omega) ⟨rfl, rfl, rfl, kint rfl (by omega), trivial⟩ ⟨by omega, hw0, hS, h1, h2⟩
      · skip
        simp only [decide_eq_false_iff_not, Int.not_lt] at h181
        omega
    · skip
      refine WC.seq (WC.region ?_)
      refine WR.bin rfl rfl rfl rfl ?_
      refine WR.nil (WN.seq (WC.seq ?_))
      refine WC.cond rfl (fun h181 => ?_) (fun h181 => ?_)
      · skip
        simp only [decide_eq_true_eq] at h181
        omega
      · skip
        simp only [decide_eq_false_iff_not, Int.not_lt] at h181
        refine WC.exit rfl ?_
        refine WN.seq (WC.seq (WC.region ?_))
        refine WR.assign rfl rfl ?_
        refine WR.nil (WN.seq ?_)
        refine WC.retR rfl rfl ?_
        exact ⟨rfl, hS⟩

end Go.Proofs.YthmknddfkmklfaaGreatDoor.Vm
