/- Small functions of the law: numbers compared, the greatest width, a boolean as a value, the deferred call that recovers. -/
import Derived.Test.YtajgdpiodpoooaaGreatDoorBatches
import Derived.Test.YtajgdpiodpoooaaGreatDoorFacts
namespace Go.Proofs.YtajgdpiodpoooaaGreatDoor.Sp
open Go Mix Go.RowKit Num Vm
set_option maxRecDepth 20000
set_option linter.unusedSimpArgs false
def mostV : Nat → Nat
  | 0 => 64
  | 1 => 31
  | 2 => 1
  | 3 => 15
  | 4 => 1
  | _ => 64
theorem mostV_cell {k : Nat} (hk : k < 6) : ((#[.int .i64 64, .int .i64 31, .int .i64 1, .int .i64 15, .int .i64 1, .int .i64 64] : Array Value).getD k undef) = .int .i64 (mostV k : Nat) := by
  rcases (show k = 0 ∨ k = 1 ∨ k = 2 ∨ k = 3 ∨ k = 4 ∨ k = 5 by omega) with rfl | rfl | rfl | rfl | rfl | rfl <;> rfl
/-- impl.Value with a number -/
def valF (n : Nat) : Nat → Value
  | 0 => .bool false
  | 1 => .int .u64 (n : Nat)
  | 2 => .string ⟨#[]⟩
  | _ => .slice none 0 0
def valV (n : Nat) : Value := .agg #[.bool false, .int .u64 (n : Nat), .string ⟨#[]⟩, .slice none 0 0]
theorem bv_zv (w : World) : (zeroValue 70).run Tryz.prog w = .ok (valV 0) w := by kernel_rfl
theorem cf14 (us : Array Value) (w : World) : (callFunc 14 us).run Tryz.prog w = .ok (.enter 14 us) w := by kernel_rfl
theorem sz70 : (Tryz.prog.info? 70).map (·.size) = some 4 := by kernel_rfl
set_option maxHeartbeats 200000 in
theorem sameWords {w : World} (xs : List Nat) (A1 A2 : Option Addr) (n c1 c2 B1 B2 : Nat) (h1 : Ls w B1 (.slice A1 n c1) (u64s xs)) (h2 : Ls w B2 (.slice A2 n c2) (u64s xs)) (hn : n = (u64s xs).length) (hn2 : n ≤ 1099511627776) :
    Ret Tryz.prog 14 #[.slice A1 n c1, .slice A2 n c2] w fun v w' => v = .bool true ∧ Same [] w w' := by
  have hS := Same.refl [] w
  refine Ret.enter (vs := [.slice A1 n c1, .slice A2 n c2]) Tryz.func14 Tryz.ntmps14 rfl rfl ?_
  refine WC.seq ?_
  refine WC.region ?_
  refine WR.assign rfl rfl ?_
  refine WR.nil ?_
  refine WN.seq ?_
  refine WC.seq ?_
  refine WC.seq ?_
  refine WC.region ?_
  refine WR.move rfl rfl ?_
  refine WR.lenS rfl Tryz.underlying24 rfl ?_
  refine WR.move rfl rfl ?_
  refine WR.lenS rfl Tryz.underlying24 rfl ?_
  refine WR.bin rfl rfl rfl rfl ?_
  refine WR.nil ?_
  refine WN.seq ?_
  refine WC.cond rfl (fun h71 => ?_) (fun h71 => ?_)
  · skip
    exact absurd h71 (by simp)
  · skip
    (try simp only [decide_eq_true_eq, decide_eq_false_iff_not, beq_iff_eq, beq_eq_false_iff_ne, bne_iff_ne, bne_eq_false_iff_eq, gt_iff_lt, ge_iff_le, Int.not_lt, Int.not_le, ne_eq, Bool.not_eq_true, Bool.not_eq_false, Bool.and_eq_true, Bool.and_eq_false_iff, Bool.or_eq_true, Bool.or_eq_false_iff] at h71)
    refine WC.skip ?_
    refine WN.seq ?_
    refine WC.seq ?_
    refine WC.seq ?_
    refine WC.region ?_
    refine WR.move rfl rfl ?_
    refine WR.lenS rfl Tryz.underlying24 rfl ?_
    refine WR.move rfl rfl ?_
    refine WR.nil ?_
    refine WN.seq ?_
    refine WC.block ?_
    refine WC.loop (fun i : Nat => [(0, .slice A1 n c1), (1, .slice A2 n c2), (12, .int .i64 (n : Nat)), (13, .int .i64 (i : Nat))]) (fun m i w' => i + m = n ∧ Same [] w w' ∧ Ls w' B1 (.slice A1 n c1) (u64s xs) ∧ Ls w' B2 (.slice A2 n c2) (u64s xs)) n 0 ⟨rfl, rfl, rfl, rfl, trivial⟩ ⟨by omega, hS, h1, h2⟩ ?_
    clear hS h1 h2
    rintro m i w1 ⟨hm, hS, h1, h2⟩
    refine WC.seq ?_
    refine WC.region ?_
    refine WR.bin rfl rfl rfl rfl ?_
    refine WR.nil ?_
    refine WN.seq ?_
    refine WC.seq ?_
    refine WC.cond rfl (fun h74 => ?_) (fun h74 => ?_)
    · skip
      (try simp only [decide_eq_true_eq, decide_eq_false_iff_not, beq_iff_eq, beq_eq_false_iff_ne, bne_iff_ne, bne_eq_false_iff_eq, gt_iff_lt, ge_iff_le, Int.not_lt, Int.not_le, ne_eq, Bool.not_eq_true, Bool.not_eq_false, Bool.and_eq_true, Bool.and_eq_false_iff, Bool.or_eq_true, Bool.or_eq_false_iff] at h74)
      obtain ⟨g1, o1, e1, he1, hb1, hl1, hr1⟩ := h1.lit (by omega)
      obtain ⟨g2, o2, e2, he2, hb2, hl2, hr2⟩ := h2.lit (by omega)
      simp only [Value.slice.injEq] at he1 he2
      obtain ⟨rfl, -, rfl⟩ := he1
      obtain ⟨rfl, -, rfl⟩ := he2
      refine WC.skip ?_
      refine WN.seq ?_
      refine WC.seq ?_
      refine WC.block ?_
      refine WC.seq ?_
      refine WC.region ?_
      refine WR.move rfl rfl ?_
      refine WR.assign rfl rfl ?_
      refine WR.nil ?_
      refine WN.seq ?_
      refine WC.seq ?_
      refine WC.mix [] mixed (by kernel_rfl) ?_
      replace hS := hS.trans (Same.drew _) (by simp <;> omega)
      replace h1 := h1.same (Same.drew _) (by simp <;> omega)
      replace h2 := h2.same (Same.drew _) (by simp <;> omega)
      (try replace hr1 := hr1.same (Same.drew _) (by simp) hl1)
      (try replace hr2 := hr2.same (Same.drew _) (by simp) hl2)
      refine WR.move rfl rfl ?_
      refine WR.move rfl rfl ?_
      refine WR.idx rfl rfl Tryz.underlying24 sz28 (by omega) (by omega) rfl ?_
      refine WR.load rfl Tryz.underlying28 rfl (show _ = some (Value.int .u64 (xs.getD i 0 : Nat)) by rw [Nat.mul_one]; exact (hr1 i (by omega)).trans (congrArg some (u64s_getD (by rw [u64s_length] at hn; omega)))) rfl ?_
      refine WR.move rfl rfl ?_
      refine WR.move rfl rfl ?_
      refine WR.idx rfl rfl Tryz.underlying24 sz28 (by omega) (by omega) rfl ?_
      refine WR.load rfl Tryz.underlying28 rfl (show _ = some (Value.int .u64 (xs.getD i 0 : Nat)) by rw [Nat.mul_one]; exact (hr2 i (by omega)).trans (congrArg some (u64s_getD (by rw [u64s_length] at hn; omega)))) rfl ?_
      refine WR.bin rfl rfl rfl rfl ?_
      refine WR.nil ?_
      refine WN.seq ?_
      refine WC.cond rfl (fun h75 => ?_) (fun h75 => ?_)
      · skip
        exact absurd h75 (by simp)
      · skip
        (try simp only [decide_eq_true_eq, decide_eq_false_iff_not, beq_iff_eq, beq_eq_false_iff_ne, bne_iff_ne, bne_eq_false_iff_eq, gt_iff_lt, ge_iff_le, Int.not_lt, Int.not_le, ne_eq, Bool.not_eq_true, Bool.not_eq_false, Bool.and_eq_true, Bool.and_eq_false_iff, Bool.or_eq_true, Bool.or_eq_false_iff] at h75)
        refine WC.skip ?_
        refine WN.block ?_
        refine WN.seq ?_
        refine WC.region ?_
        first
          | (refine WR.bin rfl rfl (ar_add (wrap_i64 ?_ ?_)) rfl ?_; (omega); (omega))
          | refine WR.bin rfl rfl (ar_add rfl) rfl ?_
        refine WR.move rfl rfl ?_
        refine WR.nil ?_
        exact WN.loop (m - 1) (i + 1) (by omega) ⟨rfl, rfl, rfl, kint rfl (by omega), trivial⟩ ⟨by omega, hS, h1, h2⟩
    · skip
      (try simp only [decide_eq_true_eq, decide_eq_false_iff_not, beq_iff_eq, beq_eq_false_iff_ne, bne_iff_ne, bne_eq_false_iff_eq, gt_iff_lt, ge_iff_le, Int.not_lt, Int.not_le, ne_eq, Bool.not_eq_true, Bool.not_eq_false, Bool.and_eq_true, Bool.and_eq_false_iff, Bool.or_eq_true, Bool.or_eq_false_iff] at h74)
      refine WC.exit rfl ?_
      refine WN.seq ?_
      refine WC.seq ?_
      refine WC.region ?_
      refine WR.assign rfl rfl ?_
      refine WR.nil ?_
      refine WN.seq ?_
      refine WC.retR rfl rfl ?_
      exact ⟨rfl, hS⟩

set_option maxHeartbeats 200000 in
theorem sameNumbers {w : World} (xs : List Nat) (A1 A2 : Option Addr) (n c1 c2 B1 B2 : Nat) (h1 : Ls w B1 (.slice A1 n c1) (u64s xs)) (h2 : Ls w B2 (.slice A2 n c2) (u64s xs)) (hn : n = (u64s xs).length) (hn2 : n ≤ 1099511627776) :
    Ret Tryz.prog 5 #[.slice A1 n c1, .slice A2 n c2] w fun v w' => v = .bool true ∧ Same [] w w' := by
  refine Ret.enter (vs := [.slice A1 n c1, .slice A2 n c2]) Tryz.func5 Tryz.ntmps5 rfl rfl ?_
  refine WC.seq ?_
  refine WC.region ?_
  refine WR.assign rfl rfl ?_
  refine WR.nil ?_
  refine WN.seq ?_
  refine WC.seq ?_
  refine WC.region ?_
  refine WR.move rfl rfl ?_
  refine WR.move rfl rfl ?_
  refine WR.callF rfl rfl cf14 rfl rfl (sameWords xs A1 A2 n c1 c2 B1 B2 h1 h2 hn hn2) ?_
  rintro _ w1 ⟨rfl, hS⟩
  refine WR.assign rfl rfl ?_
  refine WR.nil ?_
  refine WN.seq ?_
  refine WC.retR rfl rfl ?_
  exact ⟨rfl, hS⟩

set_option maxHeartbeats 200000 in
theorem most {w : World} (k : Nat) (hk : k < 6) :
    Ret Tryz.prog 6 #[.int .i64 (k : Nat)] w fun v w' => v = .int .i64 (mostV k : Nat) ∧ Same [] w w' := by
  have hS := Same.refl [] w
  refine Ret.enter (vs := [.int .i64 (k : Nat)]) Tryz.func6 Tryz.ntmps6 rfl rfl ?_
  refine WC.seq ?_
  refine WC.region ?_
  refine WR.assign rfl rfl ?_
  refine WR.nil ?_
  refine WN.seq ?_
  refine WC.seq ?_
  refine WC.region ?_
  obtain ⟨bM, hbM⟩ : ∃ x, x = w.heap.size := ⟨_, rfl⟩
  refine WR.buildSl (E := 3) (cs := #[.int .i64 64, .int .i64 31, .int .i64 1, .int .i64 15, .int .i64 1, .int .i64 64]) rfl rfl (fun w => by kernel_rfl) rfl rfl ?_
  rw [← hbM]
  intro w1 hM hs
  replace hS := hS.trans hs (by simp <;> omega)
  clear hs
  refine WR.move rfl rfl ?_
  refine WR.idx rfl rfl Tryz.underlying23 sz3 (by omega) (by omega) rfl ?_
  refine WR.load rfl Tryz.underlying3 rfl (show _ = some (Value.int .i64 (mostV k : Nat)) by rw [Nat.mul_one, Nat.zero_add]; exact (hM.cell (i := k) hk).trans (congrArg some (mostV_cell hk))) rfl ?_
  refine WR.assign rfl rfl ?_
  refine WR.nil ?_
  refine WN.seq ?_
  refine WC.retR rfl rfl ?_
  exact ⟨rfl, hS⟩

set_option maxHeartbeats 200000 in
theorem boolValue {w : World} (b : Bool) :
    Ret Tryz.prog 22 #[.bool b] w fun v w' => v = valV (if b then 1 else 0) ∧ Same [] w w' := by
  have hS := Same.refl [] w
  obtain ⟨bV, hbV⟩ : ∃ x, x = w.heap.size := ⟨_, rfl⟩
  refine Ret.enter (vs := [.bool b]) Tryz.func22 Tryz.ntmps22 rfl rfl ?_
  refine WC.seq ?_
  refine WC.region ?_
  refine WR.alloc bv_zv rfl rfl ?_
  intro w1 hn hs
  have hV : Row w1 bV 70 4 (fun i => (#[.bool false, .int .u64 0, .string ⟨#[]⟩, .slice none 0 0] : Array Value).getD i undef) := by
    rw [hn, hbV]
    exact Row.alloc _ _ _
  rw [← hbV]
  replace hS := hS.trans hs (by simp <;> omega)
  clear hn hs
  refine WR.nil ?_
  refine WN.seq ?_
  refine WC.seq ?_
  refine WC.seq ?_
  refine WC.region ?_
  refine WR.move rfl rfl ?_
  refine WR.nil ?_
  refine WN.seq ?_
  refine WC.cond rfl (fun h11 => ?_) (fun h11 => ?_)
  · skip
    (try simp only [decide_eq_true_eq, decide_eq_false_iff_not, beq_iff_eq, beq_eq_false_iff_ne, bne_iff_ne, bne_eq_false_iff_eq, gt_iff_lt, ge_iff_le, Int.not_lt, Int.not_le, ne_eq, Bool.not_eq_true, Bool.not_eq_false, Bool.and_eq_true, Bool.and_eq_false_iff, Bool.or_eq_true, Bool.or_eq_false_iff] at h11)
    refine WC.seq ?_
    refine WC.region ?_
    refine WR.build rfl rfl (v := valV 1) (fun w => by kernel_rfl) rfl rfl ?_
    refine WR.storeAgg (n := 4) rfl rfl sz70 rfl (by decide) hV (by decide) ?_
    intro w8 hn hs
    replace hV := hn
    replace hS := hS.trans hs (by simp <;> omega)
    refine WR.nil ?_
    refine WN.seq ?_
    refine WC.retA rfl rfl Tryz.underlying70 rfl sz70 (hV.rd 0 4 (by decide)) ?_
    subst h11
    exact ⟨rfl, hS⟩
  · skip
    (try simp only [decide_eq_true_eq, decide_eq_false_iff_not, beq_iff_eq, beq_eq_false_iff_ne, bne_iff_ne, bne_eq_false_iff_eq, gt_iff_lt, ge_iff_le, Int.not_lt, Int.not_le, ne_eq, Bool.not_eq_true, Bool.not_eq_false, Bool.and_eq_true, Bool.and_eq_false_iff, Bool.or_eq_true, Bool.or_eq_false_iff] at h11)
    refine WC.skip ?_
    refine WN.seq ?_
    refine WC.seq ?_
    refine WC.region ?_
    refine WR.build rfl rfl (v := valV 0) (fun w => by kernel_rfl) rfl rfl ?_
    refine WR.storeAgg (n := 4) rfl rfl sz70 rfl (by decide) hV (by decide) ?_
    intro w8 hn hs
    replace hV := hn
    replace hS := hS.trans hs (by simp <;> omega)
    refine WR.nil ?_
    refine WN.seq ?_
    refine WC.retA rfl rfl Tryz.underlying70 rfl sz70 (hV.rd 0 4 (by decide)) ?_
    subst h11
    exact ⟨rfl, hS⟩

theorem noNumbers (p1 p2 : Addr) (w : World) :
    CallsD Tryz.prog 9 #[.pointer (some p1), .pointer (some p2)] .returning w fun e u' w' => (∃ v, e = .returned v) ∧ u' = .returning ∧ w' = w := by
  refine callsD_of_wpS Tryz.func9 rfl fun c₀ cs hu => ?_
  apply wpS_seq
  apply wpS_region
  simp [wpOpsS, go_sem, recoverD, hu, Tryz.ntmps9, Exit.thenS]
  refine wpS_cond (t := false) (by simp [Act.eval, Array.replicate]) ?_
  simp only [Bool.false_eq_true, if_false]
  refine wpS_of_wp (wp_skip ?_)
  cases c₀
  simp_all [bodyPostS, results, Tryz.results9]
end Go.Proofs.YtajgdpiodpoooaaGreatDoor.Sp
