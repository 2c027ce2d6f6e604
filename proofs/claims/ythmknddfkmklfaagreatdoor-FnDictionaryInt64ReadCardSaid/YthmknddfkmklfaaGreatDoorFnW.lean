/- The decoder of runs: the next run, runs left out. -/
import Derived.Test.YthmknddfkmklfaaGreatDoorFnV
namespace Go.Proofs.YthmknddfkmklfaaGreatDoor.Vm
open Go Mix Go.RowKit Num
set_option maxRecDepth 20000
set_option linter.unusedSimpArgs false
def rlF (b : Nat) (W cur rep lit : Int) : Nat → Value
  | 0 => .pointer (some ⟨b, 0, none⟩)
  | 1 => .int .i64 W
  | 2 => .int .u64 cur
  | 3 => .int .i32 rep
  | _ => .int .i32 lit
/-- a decoder of runs over the BitReader b -/
def RL (w : World) (bR T b : Nat) (W cur rep lit : Int) : Prop := Row w bR T 5 (rlF b W cur rep lit)
section
variable {w w' : World} {bR T b : Nat} {W cur rep lit x : Int} {S : List Nat}
theorem RL.c0 (h : RL w bR T b W cur rep lit) : w.cell? ⟨bR, 0, none⟩ = some (.pointer (some ⟨b, 0, none⟩)) := Row.cell (i := 0) h (by decide)
theorem RL.c1 (h : RL w bR T b W cur rep lit) : w.cell? ⟨bR, 1, none⟩ = some (.int .i64 W) := Row.cell (i := 1) h (by decide)
theorem RL.c2 (h : RL w bR T b W cur rep lit) : w.cell? ⟨bR, 2, none⟩ = some (.int .u64 cur) := Row.cell (i := 2) h (by decide)
theorem RL.c3 (h : RL w bR T b W cur rep lit) : w.cell? ⟨bR, 3, none⟩ = some (.int .i32 rep) := Row.cell (i := 3) h (by decide)
theorem RL.c4 (h : RL w bR T b W cur rep lit) : w.cell? ⟨bR, 4, none⟩ = some (.int .i32 lit) := Row.cell (i := 4) h (by decide)
theorem RL.fz (h : RL w bR T b W cur rep lit) (i : Nat) : w.frozen? ⟨bR, i, none⟩ = false := Row.fz h i
theorem RL.lt (h : RL w bR T b W cur rep lit) : bR < w.heap.size := Row.lt h
theorem rl5 {i : Nat} (h : i < 5) : i = 0 ∨ i = 1 ∨ i = 2 ∨ i = 3 ∨ i = 4 := by omega
theorem RL.s2 (h : RL w bR T b W cur rep lit) (hw : w' = w.setCell ⟨bR, 2, none⟩ (.int .u64 x)) : RL w' bR T b W x rep lit :=
  Row.congr (Row.set' h hw) fun i hi => by rcases rl5 hi with rfl | rfl | rfl | rfl | rfl <;> rfl
theorem RL.s3 (h : RL w bR T b W cur rep lit) (hw : w' = w.setCell ⟨bR, 3, none⟩ (.int .i32 x)) : RL w' bR T b W cur x lit :=
  Row.congr (Row.set' h hw) fun i hi => by rcases rl5 hi with rfl | rfl | rfl | rfl | rfl <;> rfl
theorem RL.s4 (h : RL w bR T b W cur rep lit) (hw : w' = w.setCell ⟨bR, 4, none⟩ (.int .i32 x)) : RL w' bR T b W cur rep x :=
  Row.congr (Row.set' h hw) fun i hi => by rcases rl5 hi with rfl | rfl | rfl | rfl | rfl <;> rfl
theorem RL.same (h : RL w bR T b W cur rep lit) (hs : Same S w w') (hb : bR ∉ S) : RL w' bR T b W cur rep lit := Row.same h hs hb
end
/-- the decoder bR, with rest yet to come -/
def St (w : World) (bR T b : Nat) (rb : RB) (db dO len cap : Nat) (d : Nat → Nat) (W : Nat) (rest : List Nat) : Prop :=
  ∃ cur rep lit pos : Nat, RL w bR T b W cur rep lit ∧ At w b rb db dO len cap d pos ∧ Rl.DS W d len pos cur rep lit rest ∧ rep ≤ 1048576 ∧ lit ≤ 1048576 ∧ cur < 1048576
theorem At.small {w : World} {b db dO len cap pos : Nat} {rb : RB} {d : Nat → Nat} (h : At w b rb db dO len cap d pos) : (∀ i, i < len → d i < 256) ∧ len ≤ 1099511627776 := by
  obtain ⟨bo, bit, B, V, raw, unp, p, r, hb, hr, _⟩ := h
  exact ⟨hr.small, hr.len_⟩
theorem nx_z16 (w : World) : (zeroValue 114).run Tryz.prog w = .ok (.int .u16 0) w := by kernel_rfl
theorem nx_z32 (w : World) : (zeroValue 109).run Tryz.prog w = .ok (.int .u32 0) w := by kernel_rfl
theorem and_odd (u : Nat) (h : u < 16384) : arith .and .u64 ((u : Nat) : Int) 1 = some (.int .u64 ((u % 2 : Nat) : Int)) := and_mask u 1 (by omega) (by decide)
theorem leb_num {d : Nat → Nat} {q n v : Nat} (h : ∀ i, i < n → d (q + i) = (Rl.leb n v).getD i 0) (hv : v < 2 ^ (8 * n)) : num (fun i => d (q + i)) n = v := by
  rw [Rl.num_of (e := fun i => d (q + i)) (P := v) n fun i hi => by
    show d (q + i) = _
    rw [h i hi]
    simp [Rl.leb, hi], Nat.mod_eq_of_lt hv]
theorem cf63 (us : Array Value) (w : World) : (callFunc 63 us).run Tryz.prog w = .ok (.enter 63 us) w := by kernel_rfl
theorem cf66 (us : Array Value) (w : World) : (callFunc 66 us).run Tryz.prog w = .ok (.enter 66 us) w := by kernel_rfl
theorem cf67 (us : Array Value) (w : World) : (callFunc 67 us).run Tryz.prog w = .ok (.enter 67 us) w := by kernel_rfl
theorem fa124_0 (b o : Nat) (w : World) : (Instr.fieldAt 124 (.pointer (some ⟨b, o, none⟩)) 0).run Tryz.prog w = .ok (.pointer (some ⟨b, o + 0, none⟩)) w := by kernel_rfl
theorem fa124_1 (b o : Nat) (w : World) : (Instr.fieldAt 124 (.pointer (some ⟨b, o, none⟩)) 1).run Tryz.prog w = .ok (.pointer (some ⟨b, o + 1, none⟩)) w := by kernel_rfl
theorem fa124_2 (b o : Nat) (w : World) : (Instr.fieldAt 124 (.pointer (some ⟨b, o, none⟩)) 2).run Tryz.prog w = .ok (.pointer (some ⟨b, o + 2, none⟩)) w := by kernel_rfl
theorem fa124_3 (b o : Nat) (w : World) : (Instr.fieldAt 124 (.pointer (some ⟨b, o, none⟩)) 3).run Tryz.prog w = .ok (.pointer (some ⟨b, o + 3, none⟩)) w := by kernel_rfl
theorem fa124_4 (b o : Nat) (w : World) : (Instr.fieldAt 124 (.pointer (some ⟨b, o, none⟩)) 4).run Tryz.prog w = .ok (.pointer (some ⟨b, o + 4, none⟩)) w := by kernel_rfl
set_option maxHeartbeats 400000 in
theorem nextP {w : World} {aE aU aP : Addr} (hg : Glob w aE aU aP) (bR T b : Nat) (rb : RB) (db dO len cap W cur p u c : Nat) (d : Nat → Nat) (hR : RL w bR T b (W : Nat) (cur : Nat) 0 0) (ha : At w b rb db dO len cap d (8 * p)) (hu : u = 2 * c + 1) (hc1 : 1 ≤ c) (hc2 : c ≤ 300) (hv : ∀ i, i < (Rl.vlq u).length → d (p + i) = (Rl.vlq u).getD i 0) (hq : p + (Rl.vlq u).length ≤ len) (hgb : 6 ≤ b) (hgR : 6 ≤ bR) (hne : b ≠ rb.blk) (hnd : b ≠ db) (hx1 : bR ≠ b) (hx2 : bR ≠ rb.blk) (hx3 : bR ≠ db) :
    Ret Tryz.prog 56 #[.pointer (some ⟨bR, 0, none⟩)] w fun v w' => v = .bool true ∧ RL w' bR T b (W : Nat) (cur : Nat) (0 : Nat) (8 * c : Nat) ∧ At w' b rb db dO len cap d (8 * (p + (Rl.vlq u).length)) ∧ Same [bR, b] w w' := by
  have hS := Same.refl [bR, b] w
  obtain ⟨hl1, hl2, hl3⟩ := ha.lt
  have hl4 := hR.lt
  have hgs := hg.size
  have hc0 : ((((u : Nat) : Int) / 2) == 0) = false := by simp; omega
  refine Ret.enter (vs := [.pointer (some ⟨bR, 0, none⟩)]) Tryz.func56 Tryz.ntmps56 rfl rfl ?_
  refine WC.seq (WC.region ?_)
  refine WR.assign rfl rfl ?_
  refine WR.nil (WN.seq ?_)
  refine WC.seq (WC.region ?_)
  refine WR.move rfl rfl ?_
  refine WR.nilCheckP rfl rfl ?_
  refine WR.field rfl fa124_0 rfl ?_
  refine WR.load rfl Tryz.underlying122 rfl hR.c0 rfl ?_
  refine WR.callF rfl rfl cf63 rfl rfl (getVlq hg b rb db dO len cap p u d ha (by omega) hv (by omega) hgb hne hnd) ?_
  rintro _ w1 ⟨rfl, ha', hs⟩
  replace ha := ha'
  clear ha'
  replace hg := hg.same hs (by simp <;> omega)
  replace hR := hR.same hs (by simp <;> omega)
  replace hS := hS.trans hs (by simp <;> omega)
  refine WR.move rfl rfl ?_
  refine WR.extract rfl rfl rfl ?_
  refine WR.extract rfl rfl rfl ?_
  refine WR.assign rfl rfl ?_
  refine WR.assign rfl rfl ?_
  refine WR.nil (WN.seq ?_)
  refine WC.seq (WC.seq (WC.region ?_))
  refine WR.move rfl rfl ?_
  refine WR.notOp rfl rfl ?_
  refine WR.nil (WN.seq ?_)
  refine WC.cond rfl (fun h125 => ?_) (fun h125 => ?_)
  · skip
    exact absurd h125 (by simp)
  · skip
    refine WC.skip (WN.seq ?_)
    refine WC.seq (WC.region ?_)
    refine WR.move rfl rfl ?_
    refine WR.bin rfl rfl (and_odd u (by omega)) rfl ?_
    refine WR.bin rfl rfl rfl rfl ?_
    refine WR.assign rfl rfl ?_
    refine WR.nil (WN.seq ?_)
    refine WC.seq (WC.region ?_)
    refine WR.move rfl rfl ?_
    refine WR.shr rfl rfl (by decide) (fdiv_c (D := 2) rfl (by decide)) rfl ?_
    (refine WR.conv rfl Tryz.underlying33 Tryz.underlying109 (wrap_u32 ?_ ?_) rfl ?_; (omega); (omega))
    refine WR.assign rfl rfl ?_
    refine WR.nil (WN.seq ?_)
    refine WC.seq (WC.seq (WC.region ?_))
    refine WR.move rfl rfl ?_
    refine WR.nil (WN.seq ?_)
    refine WC.cond rfl (fun h131 => ?_) (fun h131 => ?_)
    · skip
      simp only [bne_iff_ne, ne_eq] at h131
      refine WC.seq (WC.seq (WC.region ?_))
      refine WR.move rfl rfl ?_
      refine WR.bin rfl rfl rfl rfl ?_
      refine WR.move rfl rfl ?_
      refine WR.take rfl rfl (by first | rfl | assumption | simp_all) ?_
      refine WR.move rfl rfl ?_
      refine WR.take rfl rfl (by first | rfl | assumption | simp_all) ?_
      refine WR.bin rfl rfl rfl rfl ?_
      refine WR.pickF rfl (by first | rfl | assumption | simp_all) rfl rfl ?_
      refine WR.nil (WN.seq ?_)
      refine WC.cond rfl (fun h132 => ?_) (fun h132 => ?_)
      · skip
        simp only [gt_iff_lt, decide_eq_true_eq] at h132
        omega
      · skip
        simp only [gt_iff_lt, decide_eq_false_iff_not, Int.not_lt] at h132
        refine WC.skip (WN.seq (WC.region ?_))
        refine WR.move rfl rfl ?_
        refine WR.move rfl rfl ?_
        (refine WR.conv rfl Tryz.underlying109 Tryz.underlying21 (wrap_i32 ?_ ?_) rfl ?_; (omega); (omega))
        (refine WR.bin rfl rfl (ar_mul (wrap_i32 ?_ ?_)) rfl ?_; (omega); (omega))
        refine WR.nilCheckP rfl rfl ?_
        refine WR.field rfl fa124_4 rfl ?_
        refine WR.storeK rfl rfl rfl sz21 hR.c4 (hR.fz 4) ?_
        intro w2 hn hs
        replace hR := hR.s4 hn
        replace hg := hg.same hs (by simp <;> omega)
        replace ha := ha.same hs (by simp <;> omega) (by simp <;> omega) (by simp <;> omega)
        replace hS := hS.trans hs (by simp <;> omega)
        clear hn hs
        refine WR.nil (WN.seq ?_)
        refine WC.seq (WC.region ?_)
        refine WR.assign rfl rfl ?_
        refine WR.nil (WN.seq ?_)
        refine WC.retR rfl rfl ?_
        rw [show (((u : Nat) : Int) / 2 * 8) = ((8 * c : Nat) : Int) by omega] at hR
        exact ⟨rfl, hR, ha, hS⟩
    · skip
      simp only [bne_eq_false_iff_eq] at h131
      omega

set_option maxHeartbeats 400000 in
theorem nextR1 {w : World} {aE aU aP : Addr} (hg : Glob w aE aU aP) (bR T b : Nat) (rb : RB) (db dO len cap W cur p u c : Nat) (d : Nat → Nat) (hR : RL w bR T b (W : Nat) (cur : Nat) 0 0) (ha : At w b rb db dO len cap d (8 * p)) (hu : u = 2 * c) (hc1 : 1 ≤ c) (hc2 : c ≤ 300) (hv : ∀ i, i < (Rl.vlq u).length → d (p + i) = (Rl.vlq u).getD i 0) (hq : p + (Rl.vlq u).length + 1 ≤ len) (hW1 : 1 ≤ W) (hW2 : W ≤ 8) (hgb : 6 ≤ b) (hgR : 6 ≤ bR) (hne : b ≠ rb.blk) (hnd : b ≠ db) (hx1 : bR ≠ b) (hx2 : bR ≠ rb.blk) (hx3 : bR ≠ db) :
    Ret Tryz.prog 56 #[.pointer (some ⟨bR, 0, none⟩)] w fun v w' => v = .bool true ∧ RL w' bR T b (W : Nat) (num (fun i => d (p + (Rl.vlq u).length + i)) 1 : Nat) (c : Nat) (0 : Nat) ∧ At w' b rb db dO len cap d (8 * (p + (Rl.vlq u).length + 1)) ∧ Same [bR, b] w w' := by
  have hS := Same.refl [bR, b] w
  obtain ⟨hl1, hl2, hl3⟩ := ha.lt
  have hl4 := hR.lt
  have hgs := hg.size
  have hc0 : ((((u : Nat) : Int) / 2) == 0) = false := by simp; omega
  have hsm := ha.small.1
  refine Ret.enter (vs := [.pointer (some ⟨bR, 0, none⟩)]) Tryz.func56 Tryz.ntmps56 rfl rfl ?_
  refine WC.seq (WC.region ?_)
  refine WR.assign rfl rfl ?_
  refine WR.nil (WN.seq ?_)
  refine WC.seq (WC.region ?_)
  refine WR.move rfl rfl ?_
  refine WR.nilCheckP rfl rfl ?_
  refine WR.field rfl fa124_0 rfl ?_
  refine WR.load rfl Tryz.underlying122 rfl hR.c0 rfl ?_
  refine WR.callF rfl rfl cf63 rfl rfl (getVlq hg b rb db dO len cap p u d ha (by omega) hv (by omega) hgb hne hnd) ?_
  rintro _ w1 ⟨rfl, ha', hs⟩
  replace ha := ha'
  clear ha'
  replace hg := hg.same hs (by simp <;> omega)
  replace hR := hR.same hs (by simp <;> omega)
  replace hS := hS.trans hs (by simp <;> omega)
  refine WR.move rfl rfl ?_
  refine WR.extract rfl rfl rfl ?_
  refine WR.extract rfl rfl rfl ?_
  refine WR.assign rfl rfl ?_
  refine WR.assign rfl rfl ?_
  refine WR.nil (WN.seq ?_)
  refine WC.seq (WC.seq (WC.region ?_))
  refine WR.move rfl rfl ?_
  refine WR.notOp rfl rfl ?_
  refine WR.nil (WN.seq ?_)
  refine WC.cond rfl (fun h125 => ?_) (fun h125 => ?_)
  · skip
    exact absurd h125 (by simp)
  · skip
    refine WC.skip (WN.seq ?_)
    refine WC.seq (WC.region ?_)
    refine WR.move rfl rfl ?_
    refine WR.bin rfl rfl (and_odd u (by omega)) rfl ?_
    refine WR.bin rfl rfl rfl rfl ?_
    refine WR.assign rfl rfl ?_
    refine WR.nil (WN.seq ?_)
    refine WC.seq (WC.region ?_)
    refine WR.move rfl rfl ?_
    refine WR.shr rfl rfl (by decide) (fdiv_c (D := 2) rfl (by decide)) rfl ?_
    (refine WR.conv rfl Tryz.underlying33 Tryz.underlying109 (wrap_u32 ?_ ?_) rfl ?_; (omega); (omega))
    refine WR.assign rfl rfl ?_
    refine WR.nil (WN.seq ?_)
    refine WC.seq (WC.seq (WC.region ?_))
    refine WR.move rfl rfl ?_
    refine WR.nil (WN.seq ?_)
    refine WC.cond rfl (fun h131 => ?_) (fun h131 => ?_)
    · skip
      simp only [bne_iff_ne, ne_eq] at h131
      omega
    · skip
      simp only [bne_eq_false_iff_eq] at h131
      refine WC.seq (WC.seq (WC.region ?_))
      refine WR.move rfl rfl ?_
      refine WR.bin rfl rfl rfl rfl ?_
      refine WR.move rfl rfl ?_
      refine WR.take rfl rfl (by first | rfl | assumption | simp_all) ?_
      refine WR.move rfl rfl ?_
      refine WR.take rfl rfl (by first | rfl | assumption | simp_all) ?_
      refine WR.bin rfl rfl rfl rfl ?_
      refine WR.pickF rfl (by first | rfl | assumption | simp_all) rfl rfl ?_
      refine WR.nil (WN.seq ?_)
      refine WC.cond rfl (fun h137 => ?_) (fun h137 => ?_)
      · skip
        simp only [gt_iff_lt, decide_eq_true_eq] at h137
        omega
      · skip
        simp only [gt_iff_lt, decide_eq_false_iff_not, Int.not_lt] at h137
        refine WC.skip (WN.seq ?_)
        refine WC.seq (WC.region ?_)
        refine WR.move rfl rfl ?_
        refine WR.move rfl rfl ?_
        (refine WR.conv rfl Tryz.underlying109 Tryz.underlying21 (wrap_i32 ?_ ?_) rfl ?_; (omega); (omega))
        refine WR.nilCheckP rfl rfl ?_
        refine WR.field rfl fa124_3 rfl ?_
        refine WR.storeK rfl rfl rfl sz21 hR.c3 (hR.fz 3) ?_
        intro w2 hn hs
        replace hR := hR.s3 hn
        replace hg := hg.same hs (by simp <;> omega)
        replace ha := ha.same hs (by simp <;> omega) (by simp <;> omega) (by simp <;> omega)
        replace hS := hS.trans hs (by simp <;> omega)
        clear hn hs
        refine WR.nil (WN.seq ?_)
        refine WC.seq (WC.region ?_)
        refine WR.move rfl rfl ?_
        refine WR.nilCheckP rfl rfl ?_
        refine WR.field rfl fa124_1 rfl ?_
        refine WR.load rfl Tryz.underlying3 rfl hR.c1 rfl ?_
        refine WR.callFS rfl rfl cf64 rfl rfl (bytesForBits ((W : Nat) : Int) _ (by omega) (by omega)) ?_
        rw [show ((((W : Nat) : Int) + 7) / 8) = 1 by omega]
        refine WR.assign rfl rfl ?_
        refine WR.nil (WN.seq ?_)
        refine WC.block (WC.seq (WC.region ?_))
        refine WR.move rfl rfl ?_
        refine WR.bin rfl rfl rfl rfl ?_
        refine WR.assign rfl rfl ?_
        refine WR.nil (WN.seq ?_)
        refine WC.cond rfl (fun h144 => ?_) (fun h144 => ?_)
        · skip
          simp only [gt_iff_lt, decide_eq_true_eq] at h144
          omega
        · skip
          simp only [gt_iff_lt, decide_eq_false_iff_not, Int.not_lt] at h144
          refine WC.seq (WC.region ?_)
          refine WR.move rfl rfl ?_
          refine WR.bin rfl rfl rfl rfl ?_
          refine WR.assign rfl rfl ?_
          refine WR.nil (WN.seq ?_)
          refine WC.cond rfl (fun h148 => ?_) (fun h148 => ?_)
          · skip
            simp only [gt_iff_lt, decide_eq_true_eq] at h148
            omega
          · skip
            simp only [gt_iff_lt, decide_eq_false_iff_not, Int.not_lt] at h148
            refine WC.seq (WC.region ?_)
            refine WR.move rfl rfl ?_
            refine WR.bin rfl rfl rfl rfl ?_
            refine WR.assign rfl rfl ?_
            refine WR.nil (WN.seq ?_)
            refine WC.cond rfl (fun h154 => ?_) (fun h154 => ?_)
            · skip
              simp only [gt_iff_lt, decide_eq_true_eq] at h154
              omega
            · skip
              simp only [gt_iff_lt, decide_eq_false_iff_not, Int.not_lt] at h154
              refine WC.seq (WC.region ?_)
              refine WR.alloc au_zv rfl rfl ?_
              intro w3 hn hs
              obtain ⟨nb, hnb⟩ : ∃ x, x = w2.heap.size := ⟨_, rfl⟩
              have hF : Row w3 nb 5 1 (fun i => (#[.int .u8 0] : Array Value).getD i undef) := by
                rw [hn, hnb]
                exact Row.alloc _ _ _
              rw [← hnb]
              have hSz := hS.size
              have hlR := hR.lt
              obtain ⟨hlb, hlrb, hldb⟩ := ha.lt
              replace hg := hg.same hs (by simp <;> omega)
              replace hR := hR.same hs (by simp <;> omega)
              replace ha := ha.same hs (by simp <;> omega) (by simp <;> omega) (by simp <;> omega)
              replace hS := hS.trans hs (by simp <;> omega)
              clear hn hs
              refine WR.nil (WN.seq ?_)
              refine WC.seq (WC.seq (WC.region ?_))
              refine WR.move rfl rfl ?_
              refine WR.nilCheckP rfl rfl ?_
              refine WR.field rfl fa124_0 rfl ?_
              refine WR.load rfl Tryz.underlying122 rfl hR.c0 rfl ?_
              refine WR.move rfl rfl ?_
              refine WR.callF rfl rfl cf68 rfl rfl (aligned8 hg b rb db dO len cap (p + (Rl.vlq u).length) nb 0 _ 1 d _ ha hF (by decide) (by omega) hgb (by omega) hne hnd (by omega) (by omega) (by omega)) ?_
              rintro _ w4 ⟨rfl, ha', hF', hs⟩
              replace ha := ha'
              replace hF := hF'
              clear ha' hF'
              replace hg := hg.same hs (by simp <;> omega)
              replace hR := hR.same hs (by simp <;> omega)
              replace hS := hS.trans hs (by simp <;> omega)
              refine WR.notOp rfl rfl ?_
              refine WR.nil (WN.seq ?_)
              refine WC.cond rfl (fun h162 => ?_) (fun h162 => ?_)
              · skip
                exact absurd h162 (by simp)
              · skip
                refine WC.skip (WN.seq (WC.region ?_))
                refine WR.move rfl rfl ?_
                refine WR.load rfl Tryz.underlying5 rfl (show _ = some (Value.int .u8 (d (p + (Rl.vlq u).length) : Nat)) from hF.cell (i := 0) (by decide)) rfl ?_
                refine WR.conv rfl Tryz.underlying5 Tryz.underlying33 (wrap_u64 (by omega) (by have h99 : d (p + (Rl.vlq u).length) < 256 := hsm _ (by omega); omega)) rfl ?_
                refine WR.nilCheckP rfl rfl ?_
                refine WR.field rfl fa124_2 rfl ?_
                refine WR.storeK rfl rfl rfl sz33 hR.c2 (hR.fz 2) ?_
                intro w5 hn hs
                replace hR := hR.s2 hn
                replace hg := hg.same hs (by simp <;> omega)
                replace ha := ha.same hs (by simp <;> omega) (by simp <;> omega) (by simp <;> omega)
                replace hS := hS.trans hs (by simp <;> omega)
                replace hF := hF.same hs (by simp <;> omega)
                clear hn hs
                refine WR.nil (WN.block ?_)
                refine WN.seq (WC.seq (WC.region ?_))
                refine WR.assign rfl rfl ?_
                refine WR.nil (WN.seq ?_)
                refine WC.retR rfl rfl ?_
                have hcc : (((u : Nat) : Int) / 2) = ((c : Nat) : Int) := by omega
                rw [hcc] at hR
                have h1n : num (fun i => d (p + (Rl.vlq u).length + i)) 1 = d (p + (Rl.vlq u).length) := by rw [num_succ]; simp [num]
                rw [h1n]
                exact ⟨rfl, hR, ha, hS⟩

set_option maxHeartbeats 400000 in
theorem nextR2 {w : World} {aE aU aP : Addr} (hg : Glob w aE aU aP) (bR T b : Nat) (rb : RB) (db dO len cap W cur p u c : Nat) (d : Nat → Nat) (hR : RL w bR T b (W : Nat) (cur : Nat) 0 0) (ha : At w b rb db dO len cap d (8 * p)) (hu : u = 2 * c) (hc1 : 1 ≤ c) (hc2 : c ≤ 300) (hv : ∀ i, i < (Rl.vlq u).length → d (p + i) = (Rl.vlq u).getD i 0) (hq : p + (Rl.vlq u).length + 2 ≤ len) (hW1 : 9 ≤ W) (hW2 : W ≤ 16) (hgb : 6 ≤ b) (hgR : 6 ≤ bR) (hne : b ≠ rb.blk) (hnd : b ≠ db) (hx1 : bR ≠ b) (hx2 : bR ≠ rb.blk) (hx3 : bR ≠ db) :
    Ret Tryz.prog 56 #[.pointer (some ⟨bR, 0, none⟩)] w fun v w' => v = .bool true ∧ RL w' bR T b (W : Nat) (num (fun i => d (p + (Rl.vlq u).length + i)) 2 : Nat) (c : Nat) (0 : Nat) ∧ At w' b rb db dO len cap d (8 * (p + (Rl.vlq u).length + 2)) ∧ Same [bR, b] w w' := by
  have hS := Same.refl [bR, b] w
  obtain ⟨hl1, hl2, hl3⟩ := ha.lt
  have hl4 := hR.lt
  have hgs := hg.size
  have hc0 : ((((u : Nat) : Int) / 2) == 0) = false := by simp; omega
  have hsm := ha.small.1
  refine Ret.enter (vs := [.pointer (some ⟨bR, 0, none⟩)]) Tryz.func56 Tryz.ntmps56 rfl rfl ?_
  refine WC.seq (WC.region ?_)
  refine WR.assign rfl rfl ?_
  refine WR.nil (WN.seq ?_)
  refine WC.seq (WC.region ?_)
  refine WR.move rfl rfl ?_
  refine WR.nilCheckP rfl rfl ?_
  refine WR.field rfl fa124_0 rfl ?_
  refine WR.load rfl Tryz.underlying122 rfl hR.c0 rfl ?_
  refine WR.callF rfl rfl cf63 rfl rfl (getVlq hg b rb db dO len cap p u d ha (by omega) hv (by omega) hgb hne hnd) ?_
  rintro _ w1 ⟨rfl, ha', hs⟩
  replace ha := ha'
  clear ha'
  replace hg := hg.same hs (by simp <;> omega)
  replace hR := hR.same hs (by simp <;> omega)
  replace hS := hS.trans hs (by simp <;> omega)
  refine WR.move rfl rfl ?_
  refine WR.extract rfl rfl rfl ?_
  refine WR.extract rfl rfl rfl ?_
  refine WR.assign rfl rfl ?_
  refine WR.assign rfl rfl ?_
  refine WR.nil (WN.seq ?_)
  refine WC.seq (WC.seq (WC.region ?_))
  refine WR.move rfl rfl ?_
  refine WR.notOp rfl rfl ?_
  refine WR.nil (WN.seq ?_)
  refine WC.cond rfl (fun h125 => ?_) (fun h125 => ?_)
  · skip
    exact absurd h125 (by simp)
  · skip
    refine WC.skip (WN.seq ?_)
    refine WC.seq (WC.region ?_)
    refine WR.move rfl rfl ?_
    refine WR.bin rfl rfl (and_odd u (by omega)) rfl ?_
    refine WR.bin rfl rfl rfl rfl ?_
    refine WR.assign rfl rfl ?_
    refine WR.nil (WN.seq ?_)
    refine WC.seq (WC.region ?_)
    refine WR.move rfl rfl ?_
    refine WR.shr rfl rfl (by decide) (fdiv_c (D := 2) rfl (by decide)) rfl ?_
    (refine WR.conv rfl Tryz.underlying33 Tryz.underlying109 (wrap_u32 ?_ ?_) rfl ?_; (omega); (omega))
    refine WR.assign rfl rfl ?_
    refine WR.nil (WN.seq ?_)
    refine WC.seq (WC.seq (WC.region ?_))
    refine WR.move rfl rfl ?_
    refine WR.nil (WN.seq ?_)
    refine WC.cond rfl (fun h131 => ?_) (fun h131 => ?_)
    · skip
      simp only [bne_iff_ne, ne_eq] at h131
      omega
    · skip
      simp only [bne_eq_false_iff_eq] at h131
      refine WC.seq (WC.seq (WC.region ?_))
      refine WR.move rfl rfl ?_
      refine WR.bin rfl rfl rfl rfl ?_
      refine WR.move rfl rfl ?_
      refine WR.take rfl rfl (by first | rfl | assumption | simp_all) ?_
      refine WR.move rfl rfl ?_
      refine WR.take rfl rfl (by first | rfl | assumption | simp_all) ?_
      refine WR.bin rfl rfl rfl rfl ?_
      refine WR.pickF rfl (by first | rfl | assumption | simp_all) rfl rfl ?_
      refine WR.nil (WN.seq ?_)
      refine WC.cond rfl (fun h137 => ?_) (fun h137 => ?_)
      · skip
        simp only [gt_iff_lt, decide_eq_true_eq] at h137
        omega
      · skip
        simp only [gt_iff_lt, decide_eq_false_iff_not, Int.not_lt] at h137
        refine WC.skip (WN.seq ?_)
        refine WC.seq (WC.region ?_)
        refine WR.move rfl rfl ?_
        refine WR.move rfl rfl ?_
        (refine WR.conv rfl Tryz.underlying109 Tryz.underlying21 (wrap_i32 ?_ ?_) rfl ?_; (omega); (omega))
        refine WR.nilCheckP rfl rfl ?_
        refine WR.field rfl fa124_3 rfl ?_
        refine WR.storeK rfl rfl rfl sz21 hR.c3 (hR.fz 3) ?_
        intro w2 hn hs
        replace hR := hR.s3 hn
        replace hg := hg.same hs (by simp <;> omega)
        replace ha := ha.same hs (by simp <;> omega) (by simp <;> omega) (by simp <;> omega)
        replace hS := hS.trans hs (by simp <;> omega)
        clear hn hs
        refine WR.nil (WN.seq ?_)
        refine WC.seq (WC.region ?_)
        refine WR.move rfl rfl ?_
        refine WR.nilCheckP rfl rfl ?_
        refine WR.field rfl fa124_1 rfl ?_
        refine WR.load rfl Tryz.underlying3 rfl hR.c1 rfl ?_
        refine WR.callFS rfl rfl cf64 rfl rfl (bytesForBits ((W : Nat) : Int) _ (by omega) (by omega)) ?_
        rw [show ((((W : Nat) : Int) + 7) / 8) = 2 by omega]
        refine WR.assign rfl rfl ?_
        refine WR.nil (WN.seq ?_)
        refine WC.block (WC.seq (WC.region ?_))
        refine WR.move rfl rfl ?_
        refine WR.bin rfl rfl rfl rfl ?_
        refine WR.assign rfl rfl ?_
        refine WR.nil (WN.seq ?_)
        refine WC.cond rfl (fun h144 => ?_) (fun h144 => ?_)
        · skip
          simp only [gt_iff_lt, decide_eq_true_eq] at h144
          omega
        · skip
          simp only [gt_iff_lt, decide_eq_false_iff_not, Int.not_lt] at h144
          refine WC.seq (WC.region ?_)
          refine WR.move rfl rfl ?_
          refine WR.bin rfl rfl rfl rfl ?_
          refine WR.assign rfl rfl ?_
          refine WR.nil (WN.seq ?_)
          refine WC.cond rfl (fun h148 => ?_) (fun h148 => ?_)
          · skip
            simp only [gt_iff_lt, decide_eq_true_eq] at h148
            omega
          · skip
            simp only [gt_iff_lt, decide_eq_false_iff_not, Int.not_lt] at h148
            refine WC.seq (WC.region ?_)
            refine WR.move rfl rfl ?_
            refine WR.bin rfl rfl rfl rfl ?_
            refine WR.assign rfl rfl ?_
            refine WR.nil (WN.seq ?_)
            refine WC.cond rfl (fun h154 => ?_) (fun h154 => ?_)
            · skip
              simp only [gt_iff_lt, decide_eq_true_eq] at h154
              refine WC.seq (WC.region ?_)
              refine WR.alloc nx_z16 rfl rfl ?_
              intro w3 hn hs
              obtain ⟨nb, hnb⟩ : ∃ x, x = w2.heap.size := ⟨_, rfl⟩
              have hF : Row w3 nb 114 1 (fun i => (#[.int .u16 0] : Array Value).getD i undef) := by
                rw [hn, hnb]
                exact Row.alloc _ _ _
              rw [← hnb]
              have hSz := hS.size
              have hlR := hR.lt
              obtain ⟨hlb, hlrb, hldb⟩ := ha.lt
              replace hg := hg.same hs (by simp <;> omega)
              replace hR := hR.same hs (by simp <;> omega)
              replace ha := ha.same hs (by simp <;> omega) (by simp <;> omega) (by simp <;> omega)
              replace hS := hS.trans hs (by simp <;> omega)
              clear hn hs
              refine WR.nil (WN.seq ?_)
              refine WC.seq (WC.seq (WC.region ?_))
              refine WR.move rfl rfl ?_
              refine WR.nilCheckP rfl rfl ?_
              refine WR.field rfl fa124_0 rfl ?_
              refine WR.load rfl Tryz.underlying122 rfl hR.c0 rfl ?_
              refine WR.move rfl rfl ?_
              refine WR.callF rfl rfl cf67 rfl rfl (aligned16 hg b rb db dO len cap (p + (Rl.vlq u).length) nb 0 _ 1 d _ ha hF (by decide) (by omega) hgb (by omega) hne hnd (by omega) (by omega) (by omega)) ?_
              rintro _ w4 ⟨rfl, ha', hF', hs⟩
              replace ha := ha'
              replace hF := hF'
              clear ha' hF'
              replace hg := hg.same hs (by simp <;> omega)
              replace hR := hR.same hs (by simp <;> omega)
              replace hS := hS.trans hs (by simp <;> omega)
              refine WR.notOp rfl rfl ?_
              refine WR.nil (WN.seq ?_)
              refine WC.cond rfl (fun h156 => ?_) (fun h156 => ?_)
              · skip
                exact absurd h156 (by simp)
              · skip
                refine WC.skip (WN.seq (WC.region ?_))
                refine WR.move rfl rfl ?_
                refine WR.load rfl Tryz.underlying114 rfl (show _ = some (Value.int .u16 (num (fun i => d (p + (Rl.vlq u).length + i)) 2 : Nat)) from hF.cell (i := 0) (by decide)) rfl ?_
                refine WR.conv rfl Tryz.underlying114 Tryz.underlying33 (wrap_u64 (by omega) (by have h99 := num_lt (d := fun i => d (p + (Rl.vlq u).length + i)) 2 (fun i hi => hsm _ (by omega)); omega)) rfl ?_
                refine WR.nilCheckP rfl rfl ?_
                refine WR.field rfl fa124_2 rfl ?_
                refine WR.storeK rfl rfl rfl sz33 hR.c2 (hR.fz 2) ?_
                intro w5 hn hs
                replace hR := hR.s2 hn
                replace hg := hg.same hs (by simp <;> omega)
                replace ha := ha.same hs (by simp <;> omega) (by simp <;> omega) (by simp <;> omega)
                replace hS := hS.trans hs (by simp <;> omega)
                replace hF := hF.same hs (by simp <;> omega)
                clear hn hs
                refine WR.nil (WN.block ?_)
                refine WN.seq (WC.seq (WC.region ?_))
                refine WR.assign rfl rfl ?_
                refine WR.nil (WN.seq ?_)
                refine WC.retR rfl rfl ?_
                have hcc : (((u : Nat) : Int) / 2) = ((c : Nat) : Int) := by omega
                rw [hcc] at hR
                exact ⟨rfl, hR, ha, hS⟩
            · skip
              simp only [gt_iff_lt, decide_eq_false_iff_not, Int.not_lt] at h154
              omega

set_option maxHeartbeats 400000 in
theorem nextR3 {w : World} {aE aU aP : Addr} (hg : Glob w aE aU aP) (bR T b : Nat) (rb : RB) (db dO len cap W cur p u c : Nat) (d : Nat → Nat) (hR : RL w bR T b (W : Nat) (cur : Nat) 0 0) (ha : At w b rb db dO len cap d (8 * p)) (hu : u = 2 * c) (hc1 : 1 ≤ c) (hc2 : c ≤ 300) (hv : ∀ i, i < (Rl.vlq u).length → d (p + i) = (Rl.vlq u).getD i 0) (hq : p + (Rl.vlq u).length + 3 ≤ len) (hW1 : 17 ≤ W) (hW2 : W ≤ 24) (hgb : 6 ≤ b) (hgR : 6 ≤ bR) (hne : b ≠ rb.blk) (hnd : b ≠ db) (hx1 : bR ≠ b) (hx2 : bR ≠ rb.blk) (hx3 : bR ≠ db) :
    Ret Tryz.prog 56 #[.pointer (some ⟨bR, 0, none⟩)] w fun v w' => v = .bool true ∧ RL w' bR T b (W : Nat) (num (fun i => d (p + (Rl.vlq u).length + i)) 3 : Nat) (c : Nat) (0 : Nat) ∧ At w' b rb db dO len cap d (8 * (p + (Rl.vlq u).length + 3)) ∧ Same [bR, b] w w' := by
  have hS := Same.refl [bR, b] w
  obtain ⟨hl1, hl2, hl3⟩ := ha.lt
  have hl4 := hR.lt
  have hgs := hg.size
  have hc0 : ((((u : Nat) : Int) / 2) == 0) = false := by simp; omega
  have hsm := ha.small.1
  refine Ret.enter (vs := [.pointer (some ⟨bR, 0, none⟩)]) Tryz.func56 Tryz.ntmps56 rfl rfl ?_
  refine WC.seq (WC.region ?_)
  refine WR.assign rfl rfl ?_
  refine WR.nil (WN.seq ?_)
  refine WC.seq (WC.region ?_)
  refine WR.move rfl rfl ?_
  refine WR.nilCheckP rfl rfl ?_
  refine WR.field rfl fa124_0 rfl ?_
  refine WR.load rfl Tryz.underlying122 rfl hR.c0 rfl ?_
  refine WR.callF rfl rfl cf63 rfl rfl (getVlq hg b rb db dO len cap p u d ha (by omega) hv (by omega) hgb hne hnd) ?_
  rintro _ w1 ⟨rfl, ha', hs⟩
  replace ha := ha'
  clear ha'
  replace hg := hg.same hs (by simp <;> omega)
  replace hR := hR.same hs (by simp <;> omega)
  replace hS := hS.trans hs (by simp <;> omega)
  refine WR.move rfl rfl ?_
  refine WR.extract rfl rfl rfl ?_
  refine WR.extract rfl rfl rfl ?_
  refine WR.assign rfl rfl ?_
  refine WR.assign rfl rfl ?_
  refine WR.nil (WN.seq ?_)
  refine WC.seq (WC.seq (WC.region ?_))
  refine WR.move rfl rfl ?_
  refine WR.notOp rfl rfl ?_
  refine WR.nil (WN.seq ?_)
  refine WC.cond rfl (fun h125 => ?_) (fun h125 => ?_)
  · skip
    exact absurd h125 (by simp)
  · skip
    refine WC.skip (WN.seq ?_)
    refine WC.seq (WC.region ?_)
    refine WR.move rfl rfl ?_
    refine WR.bin rfl rfl (and_odd u (by omega)) rfl ?_
    refine WR.bin rfl rfl rfl rfl ?_
    refine WR.assign rfl rfl ?_
    refine WR.nil (WN.seq ?_)
    refine WC.seq (WC.region ?_)
    refine WR.move rfl rfl ?_
    refine WR.shr rfl rfl (by decide) (fdiv_c (D := 2) rfl (by decide)) rfl ?_
    (refine WR.conv rfl Tryz.underlying33 Tryz.underlying109 (wrap_u32 ?_ ?_) rfl ?_; (omega); (omega))
    refine WR.assign rfl rfl ?_
    refine WR.nil (WN.seq ?_)
    refine WC.seq (WC.seq (WC.region ?_))
    refine WR.move rfl rfl ?_
    refine WR.nil (WN.seq ?_)
    refine WC.cond rfl (fun h131 => ?_) (fun h131 => ?_)
    · skip
      simp only [bne_iff_ne, ne_eq] at h131
      omega
    · skip
      simp only [bne_eq_false_iff_eq] at h131
      refine WC.seq (WC.seq (WC.region ?_))
      refine WR.move rfl rfl ?_
      refine WR.bin rfl rfl rfl rfl ?_
      refine WR.move rfl rfl ?_
      refine WR.take rfl rfl (by first | rfl | assumption | simp_all) ?_
      refine WR.move rfl rfl ?_
      refine WR.take rfl rfl (by first | rfl | assumption | simp_all) ?_
      refine WR.bin rfl rfl rfl rfl ?_
      refine WR.pickF rfl (by first | rfl | assumption | simp_all) rfl rfl ?_
      refine WR.nil (WN.seq ?_)
      refine WC.cond rfl (fun h137 => ?_) (fun h137 => ?_)
      · skip
        simp only [gt_iff_lt, decide_eq_true_eq] at h137
        omega
      · skip
        simp only [gt_iff_lt, decide_eq_false_iff_not, Int.not_lt] at h137
        refine WC.skip (WN.seq ?_)
        refine WC.seq (WC.region ?_)
        refine WR.move rfl rfl ?_
        refine WR.move rfl rfl ?_
        (refine WR.conv rfl Tryz.underlying109 Tryz.underlying21 (wrap_i32 ?_ ?_) rfl ?_; (omega); (omega))
        refine WR.nilCheckP rfl rfl ?_
        refine WR.field rfl fa124_3 rfl ?_
        refine WR.storeK rfl rfl rfl sz21 hR.c3 (hR.fz 3) ?_
        intro w2 hn hs
        replace hR := hR.s3 hn
        replace hg := hg.same hs (by simp <;> omega)
        replace ha := ha.same hs (by simp <;> omega) (by simp <;> omega) (by simp <;> omega)
        replace hS := hS.trans hs (by simp <;> omega)
        clear hn hs
        refine WR.nil (WN.seq ?_)
        refine WC.seq (WC.region ?_)
        refine WR.move rfl rfl ?_
        refine WR.nilCheckP rfl rfl ?_
        refine WR.field rfl fa124_1 rfl ?_
        refine WR.load rfl Tryz.underlying3 rfl hR.c1 rfl ?_
        refine WR.callFS rfl rfl cf64 rfl rfl (bytesForBits ((W : Nat) : Int) _ (by omega) (by omega)) ?_
        rw [show ((((W : Nat) : Int) + 7) / 8) = 3 by omega]
        refine WR.assign rfl rfl ?_
        refine WR.nil (WN.seq ?_)
        refine WC.block (WC.seq (WC.region ?_))
        refine WR.move rfl rfl ?_
        refine WR.bin rfl rfl rfl rfl ?_
        refine WR.assign rfl rfl ?_
        refine WR.nil (WN.seq ?_)
        refine WC.cond rfl (fun h144 => ?_) (fun h144 => ?_)
        · skip
          simp only [gt_iff_lt, decide_eq_true_eq] at h144
          omega
        · skip
          simp only [gt_iff_lt, decide_eq_false_iff_not, Int.not_lt] at h144
          refine WC.seq (WC.region ?_)
          refine WR.move rfl rfl ?_
          refine WR.bin rfl rfl rfl rfl ?_
          refine WR.assign rfl rfl ?_
          refine WR.nil (WN.seq ?_)
          refine WC.cond rfl (fun h148 => ?_) (fun h148 => ?_)
          · skip
            simp only [gt_iff_lt, decide_eq_true_eq] at h148
            refine WC.seq (WC.region ?_)
            refine WR.alloc nx_z32 rfl rfl ?_
            intro w3 hn hs
            obtain ⟨nb, hnb⟩ : ∃ x, x = w2.heap.size := ⟨_, rfl⟩
            have hF : Row w3 nb 109 1 (fun i => (#[.int .u32 0] : Array Value).getD i undef) := by
              rw [hn, hnb]
              exact Row.alloc _ _ _
            rw [← hnb]
            have hSz := hS.size
            have hlR := hR.lt
            obtain ⟨hlb, hlrb, hldb⟩ := ha.lt
            replace hg := hg.same hs (by simp <;> omega)
            replace hR := hR.same hs (by simp <;> omega)
            replace ha := ha.same hs (by simp <;> omega) (by simp <;> omega) (by simp <;> omega)
            replace hS := hS.trans hs (by simp <;> omega)
            clear hn hs
            refine WR.nil (WN.seq ?_)
            refine WC.seq (WC.seq (WC.region ?_))
            refine WR.move rfl rfl ?_
            refine WR.nilCheckP rfl rfl ?_
            refine WR.field rfl fa124_0 rfl ?_
            refine WR.load rfl Tryz.underlying122 rfl hR.c0 rfl ?_
            refine WR.move rfl rfl ?_
            refine WR.callF rfl rfl cf66 rfl rfl (aligned32 hg b rb db dO len cap (p + (Rl.vlq u).length) nb 0 _ 1 d _ ha hF (by decide) (by omega) hgb (by omega) hne hnd (by omega) (by omega) (by omega)) ?_
            rintro _ w4 ⟨rfl, ha', hF', hs⟩
            replace ha := ha'
            replace hF := hF'
            clear ha' hF'
            replace hg := hg.same hs (by simp <;> omega)
            replace hR := hR.same hs (by simp <;> omega)
            replace hS := hS.trans hs (by simp <;> omega)
            refine WR.notOp rfl rfl ?_
            refine WR.nil (WN.seq ?_)
            refine WC.cond rfl (fun h150 => ?_) (fun h150 => ?_)
            · skip
              exact absurd h150 (by simp)
            · skip
              refine WC.skip (WN.seq (WC.region ?_))
              refine WR.move rfl rfl ?_
              refine WR.load rfl Tryz.underlying109 rfl (show _ = some (Value.int .u32 (num (fun i => d (p + (Rl.vlq u).length + i)) 3 : Nat)) from hF.cell (i := 0) (by decide)) rfl ?_
              refine WR.conv rfl Tryz.underlying109 Tryz.underlying33 (wrap_u64 (by omega) (by have h99 := num_lt (d := fun i => d (p + (Rl.vlq u).length + i)) 3 (fun i hi => hsm _ (by omega)); omega)) rfl ?_
              refine WR.nilCheckP rfl rfl ?_
              refine WR.field rfl fa124_2 rfl ?_
              refine WR.storeK rfl rfl rfl sz33 hR.c2 (hR.fz 2) ?_
              intro w5 hn hs
              replace hR := hR.s2 hn
              replace hg := hg.same hs (by simp <;> omega)
              replace ha := ha.same hs (by simp <;> omega) (by simp <;> omega) (by simp <;> omega)
              replace hS := hS.trans hs (by simp <;> omega)
              replace hF := hF.same hs (by simp <;> omega)
              clear hn hs
              refine WR.nil (WN.block ?_)
              refine WN.seq (WC.seq (WC.region ?_))
              refine WR.assign rfl rfl ?_
              refine WR.nil (WN.seq ?_)
              refine WC.retR rfl rfl ?_
              have hcc : (((u : Nat) : Int) / 2) = ((c : Nat) : Int) := by omega
              rw [hcc] at hR
              exact ⟨rfl, hR, ha, hS⟩
          · skip
            simp only [gt_iff_lt, decide_eq_false_iff_not, Int.not_lt] at h148
            omega

theorem next_run {w : World} {aE aU aP : Addr} (hg : Glob w aE aU aP) (bR T b : Nat) (rb : RB) (db dO len cap W cur pos : Nat) (d : Nat → Nat) (rest : List Nat) (hR : RL w bR T b (W : Nat) (cur : Nat) 0 0) (ha : At w b rb db dO len cap d pos) (hD : Rl.DS W d len pos cur 0 0 rest) (hrest : rest ≠ []) (hW1 : 1 ≤ W) (hW2 : W ≤ 20) (hcur : cur < 1048576) (hgb : 6 ≤ b) (hgR : 6 ≤ bR) (hne : b ≠ rb.blk) (hnd : b ≠ db) (hx1 : bR ≠ b) (hx2 : bR ≠ rb.blk) (hx3 : bR ≠ db) :
    Ret Tryz.prog 56 #[.pointer (some ⟨bR, 0, none⟩)] w fun v w' => v = .bool true ∧ (∃ cur rep lit pos : Nat, RL w' bR T b (W : Nat) cur rep lit ∧ At w' b rb db dO len cap d pos ∧ Rl.DS W d len pos cur rep lit rest ∧ rep ≤ 1048576 ∧ lit ≤ 1048576 ∧ cur < 1048576 ∧ 0 < rep + lit) ∧ Same [bR, b] w w' := by
  obtain ⟨r, rs, p, rfl, hf, hfs, hh, rfl⟩ := hD.next hrest
  obtain ⟨hsm, _⟩ := ha.small
  have h1 := hf.one
  by_cases hp : r.packed = true
  · have he : Rl.encR W r = Rl.vlq (2 * r.count + 1) ++ Rl.pk W (Rl.padR r) := by unfold Rl.encR; rw [if_pos hp]
    rw [he, List.append_assoc] at hh
    have hc := (hf.pk hp).1
    refine (nextP hg bR T b rb db dO len cap W cur p (2 * r.count + 1) r.count d hR ha rfl h1 (by omega) (fun i hi => hh.left hi) (by have := hh.1; simp at this; omega) hgb hgR hne hnd hx1 hx2 hx3).mono ?_
    rintro _ w' ⟨rfl, hR', ha', hs⟩
    exact ⟨rfl, ⟨cur, 0, 8 * r.count, _, hR', ha', Rl.DS.packed hsm hf hfs hp hh.right, by omega, by omega, hcur, by omega⟩, hs⟩
  · have hp : r.packed = false := by simpa using hp
    have he : Rl.encR W r = Rl.vlq (2 * r.count) ++ Rl.leb ((W + 7) / 8) (r.vals.getD 0 0) := by unfold Rl.encR; rw [hp]; rfl
    rw [he, List.append_assoc] at hh
    have hc := hf.rp hp
    have hv : r.vals.getD 0 0 < 2 ^ W := by
      obtain ⟨v, hv⟩ := List.length_eq_one_iff.1 hc.2
      have := hf.lt v (by rw [hv]; exact List.mem_singleton.2 rfl)
      rw [hv]; exact this
    have hv2 : 2 ^ W ≤ 2 ^ 20 := Nat.pow_le_pow_right (by decide) hW2
    have hl := hh.right
    have hlen := hl.1
    simp only [List.length_append, Rl.leb_length] at hlen
    have hb : ∀ i, i < (W + 7) / 8 → d (p + (Rl.vlq (2 * r.count)).length + i) = (Rl.leb ((W + 7) / 8) (r.vals.getD 0 0)).getD i 0 := fun i hi => hl.left (by rw [Rl.leb_length]; exact hi)
    have hD' := Rl.DS.repeated hfs hp hl
    have hvN : r.vals.getD 0 0 < 2 ^ (8 * ((W + 7) / 8)) := Nat.lt_of_lt_of_le hv (Nat.pow_le_pow_right (by decide) (by omega))
    have hq : p + (Rl.vlq (2 * r.count)).length ≤ len := by omega
    rcases (show (W + 7) / 8 = 1 ∨ (W + 7) / 8 = 2 ∨ (W + 7) / 8 = 3 by omega) with hn | hn | hn
    · rw [hn] at hb hD' hlen hvN
      refine (nextR1 hg bR T b rb db dO len cap W cur p (2 * r.count) r.count d hR ha rfl h1 (by omega) (fun i hi => hh.left hi) (by omega) (by omega) (by omega) hgb hgR hne hnd hx1 hx2 hx3).mono ?_
      rintro _ w' ⟨rfl, hR', ha', hs⟩
      rw [leb_num hb hvN] at hR'
      exact ⟨rfl, ⟨_, r.count, 0, _, hR', ha', hD', by omega, by omega, by omega, by omega⟩, hs⟩
    · rw [hn] at hb hD' hlen hvN
      refine (nextR2 hg bR T b rb db dO len cap W cur p (2 * r.count) r.count d hR ha rfl h1 (by omega) (fun i hi => hh.left hi) (by omega) (by omega) (by omega) hgb hgR hne hnd hx1 hx2 hx3).mono ?_
      rintro _ w' ⟨rfl, hR', ha', hs⟩
      rw [leb_num hb hvN] at hR'
      exact ⟨rfl, ⟨_, r.count, 0, _, hR', ha', hD', by omega, by omega, by omega, by omega⟩, hs⟩
    · rw [hn] at hb hD' hlen hvN
      refine (nextR3 hg bR T b rb db dO len cap W cur p (2 * r.count) r.count d hR ha rfl h1 (by omega) (fun i hi => hh.left hi) (by omega) (by omega) (by omega) hgb hgR hne hnd hx1 hx2 hx3).mono ?_
      rintro _ w' ⟨rfl, hR', ha', hs⟩
      rw [leb_num hb hvN] at hR'
      exact ⟨rfl, ⟨_, r.count, 0, _, hR', ha', hD', by omega, by omega, by omega, by omega⟩, hs⟩
end Go.Proofs.YthmknddfkmklfaaGreatDoor.Vm
