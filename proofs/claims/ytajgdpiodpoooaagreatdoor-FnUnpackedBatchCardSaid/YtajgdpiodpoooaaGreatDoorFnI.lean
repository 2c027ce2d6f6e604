/- A new BitReader; GetBatch. -/
import Derived.Test.YtajgdpiodpoooaaGreatDoorReader
import Derived.Test.YtajgdpiodpoooaaGreatDoorFnD
namespace Go.Proofs.YtajgdpiodpoooaaGreatDoor.Vm
open Go Mix Go.RowKit Num
set_option maxRecDepth 20000
set_option linter.unusedSimpArgs false
theorem cf119 (us : Array Value) (w : World) : (callFunc 119 us).run Tryz.prog w = .ok (.enter 119 us) w := by kernel_rfl
theorem cf16 (us : Array Value) (w : World) : (callFunc 16 us).run Tryz.prog w = .ok (.enter 16 us) w := by kernel_rfl
theorem cf29 (us : Array Value) (w : World) : (callFunc 29 us).run Tryz.prog w = .ok (.enter 29 us) w := by kernel_rfl
theorem cf30 (us : Array Value) (w : World) : (callFunc 30 us).run Tryz.prog w = .ok (.enter 30 us) w := by kernel_rfl
theorem fa53_6 (b o : Nat) (w : World) : (Instr.fieldAt 53 (.pointer (some ⟨b, o, none⟩)) 6).run Tryz.prog w = .ok (.pointer (some ⟨b, o + 13, none⟩)) w := by kernel_rfl
theorem mtRdr_Seek (p : Addr) (w : World) : (method (Tryz.prog.types.size + Made.depth) 38 (.pointer (some p)) "Seek").run Tryz.prog w = .ok (119, .pointer (some p)) w := by kernel_rfl
theorem minI (x y : Nat) (w : World) :
    Ret Tryz.prog 29 #[.int .i64 (x : Int), .int .i64 (y : Int)] w fun v w' => v = .int .i64 ((min x y : Nat) : Int) ∧ w' = w := by
  refine Ret.enter (vs := [.int .i64 (x : Int), .int .i64 (y : Int)]) Tryz.func29 Tryz.ntmps29 rfl rfl ?_
  refine WC.seq ?_
  refine WC.region ?_
  refine WR.assign rfl rfl ?_
  refine WR.nil ?_
  refine WN.seq ?_
  refine WC.seq ?_
  refine WC.seq ?_
  refine WC.region ?_
  refine WR.move rfl rfl ?_
  refine WR.move rfl rfl ?_
  refine WR.bin rfl rfl rfl rfl ?_
  refine WR.nil ?_
  refine WN.seq ?_
  refine WC.cond rfl (fun h26 => ?_) (fun h26 => ?_)
  · skip
    (try simp only [decide_eq_true_eq, decide_eq_false_iff_not, beq_iff_eq, beq_eq_false_iff_ne, bne_iff_ne, bne_eq_false_iff_eq, gt_iff_lt, ge_iff_le, Int.not_lt, Int.not_le, ne_eq, Bool.not_eq_true, Bool.not_eq_false, Bool.and_eq_true, Bool.and_eq_false_iff, Bool.or_eq_true, Bool.or_eq_false_iff] at h26)
    refine WC.seq ?_
    refine WC.region ?_
    refine WR.move rfl rfl ?_
    refine WR.assign rfl rfl ?_
    refine WR.nil ?_
    refine WN.seq ?_
    refine WC.retR rfl rfl ?_
    rw [show min x y = x by omega]
    exact ⟨rfl, rfl⟩
  · skip
    (try simp only [decide_eq_true_eq, decide_eq_false_iff_not, beq_iff_eq, beq_eq_false_iff_ne, bne_iff_ne, bne_eq_false_iff_eq, gt_iff_lt, ge_iff_le, Int.not_lt, Int.not_le, ne_eq, Bool.not_eq_true, Bool.not_eq_false, Bool.and_eq_true, Bool.and_eq_false_iff, Bool.or_eq_true, Bool.or_eq_false_iff] at h26)
    refine WC.skip ?_
    refine WN.seq ?_
    refine WC.seq ?_
    refine WC.region ?_
    refine WR.move rfl rfl ?_
    refine WR.assign rfl rfl ?_
    refine WR.nil ?_
    refine WN.seq ?_
    refine WC.retR rfl rfl ?_
    rw [show min x y = y by omega]
    exact ⟨rfl, rfl⟩

noncomputable def bx (rb : Nat) (w : World) := (Instr.build 53 #[(0, Value.iface 38 (.pointer (some ⟨rb, 0, none⟩)))]).run Tryz.prog w
def cellsR (r : Result Value) : Array Value := match r with | .ok (.agg c) _ => c | _ => #[]
/-- the cells of a new BitReader, as the model builds them -/
noncomputable def bc (rb : Nat) : Array Value := cellsR (bx rb default)
def okV (i : Nat) (v : Value) : Bool := match v with
  | .int .u8 z => Nat.ble 5 i && Nat.ble i 12 && z == 0
  | .int .u32 z => Nat.ble 13 i && z == 0
  | .int .u64 z => (Nat.beq i 1 || Nat.beq i 3 || Nat.beq i 4) && z == 0
  | .int .i64 z => Nat.beq i 2 && z == 0
  | .iface _ _ => Nat.beq i 0
  | _ => false
def okL : List Value → Nat → Bool
  | [], i => Nat.beq i 1037
  | v :: l, i => okV i v && okL l (i + 1)
theorem bx_run (rb : Nat) (w : World) : bx rb w = .ok (.agg (bc rb)) w := by kernel_rfl
theorem bc0 (rb : Nat) : (bc rb)[0]? = some (Value.iface 38 (.pointer (some ⟨rb, 0, none⟩))) := by kernel_rfl
theorem bcOK (rb : Nat) : okL (bc rb).toList 0 = true := by kernel_rfl
theorem okL_len : ∀ (l : List Value) (i : Nat), okL l i = true → i + l.length = 1037
  | [], i, h => by simpa [okL] using h
  | v :: l, i, h => by
    simp only [okL, Bool.and_eq_true] at h
    have := okL_len l (i + 1) h.2
    simp; omega
theorem okL_get : ∀ (l : List Value) (i j : Nat) (v : Value), okL l i = true → l[j]? = some v → okV (i + j) v = true
  | [], _, _, _, _, hj => by simp at hj
  | v :: l, i, 0, u, h, hj => by
    simp only [okL, Bool.and_eq_true] at h
    simp at hj
    subst hj
    exact h.1
  | v :: l, i, j + 1, u, h, hj => by
    simp only [okL, Bool.and_eq_true] at h
    have := okL_get l (i + 1) j u h.2 (by simpa using hj)
    rwa [show i + (j + 1) = i + 1 + j by omega]
theorem okV_eq {rb i : Nat} {v : Value} (h : okV i v = true) (hi : 1 ≤ i) : v = brF rb 0 ((0 : Nat) : Int) ((0 : Nat) : Int) 0 (fun _ => .int .u8 0) (fun _ => .int .u32 0) i := by
  unfold okV at h
  split at h
  · simp only [Bool.and_eq_true, Nat.ble_eq, beq_iff_eq] at h
    obtain ⟨j, rfl⟩ : ∃ j, i = j + 5 := ⟨i - 5, by omega⟩
    simp only [brF]
    rw [if_pos (by omega), h.2]
  · simp only [Bool.and_eq_true, Nat.ble_eq, beq_iff_eq] at h
    obtain ⟨j, rfl⟩ : ∃ j, i = j + 5 := ⟨i - 5, by omega⟩
    simp only [brF]
    rw [if_neg (by omega), h.2]
  · simp only [Bool.and_eq_true, Bool.or_eq_true, Nat.beq_eq, beq_iff_eq] at h
    obtain ⟨(rfl | rfl) | rfl, rfl⟩ := h <;> rfl
  · simp only [Bool.and_eq_true, Nat.beq_eq, beq_iff_eq] at h
    obtain ⟨rfl, rfl⟩ := h
    rfl
  · simp only [Nat.beq_eq] at h
    omega
  · cases h
theorem bc_size (rb : Nat) : (bc rb).size = 1037 := by
  have := okL_len _ _ (bcOK rb)
  simpa using this
theorem bc_cells (rb i : Nat) (hi : i < 1037) : (bc rb).getD i undef = brF rb 0 ((0 : Nat) : Int) ((0 : Nat) : Int) 0 (fun _ => .int .u8 0) (fun _ => .int .u32 0) i := by
  have hs := bc_size rb
  have hg : (bc rb)[i]? = some ((bc rb).getD i undef) := by simp [hs, hi]
  by_cases h0 : i = 0
  · subst h0
    rw [bc0] at hg
    rw [← Option.some.inj hg]
    rfl
  · have := okL_get _ 0 i _ (bcOK rb) (show (bc rb).toList[i]? = some ((bc rb).getD i undef) by rw [Array.getElem?_toList]; exact hg)
    rw [Nat.zero_add] at this
    exact okV_eq this (by omega)

theorem newBitReader {w : World} (rb db dO len cap : Nat) (p r : Int) (d : Nat → Nat) (hr : Src w rb db dO len cap p r d) :
    Ret Tryz.prog 10 #[.iface 38 (.pointer (some ⟨rb, 0, none⟩))] w fun v w' => ∃ b, w.heap.size ≤ b ∧ v = .pointer (some ⟨b, 0, none⟩) ∧ At w' b rb db dO len cap d 0 ∧ Same [] w w' := by
  have hS := Same.refl [] w
  refine Ret.enter (vs := [.iface 38 (.pointer (some ⟨rb, 0, none⟩))]) Tryz.func10 Tryz.ntmps10 rfl rfl ?_
  refine WC.seq ?_
  refine WC.region ?_
  refine WR.assign rfl rfl ?_
  refine WR.nil ?_
  refine WN.seq ?_
  refine WC.seq ?_
  refine WC.region ?_
  refine WR.move rfl rfl ?_
  refine WR.build rfl rfl (v := .agg (bc rb)) (bx_run rb) rfl rfl ?_
  refine WR.box rfl rfl rfl ?_
  intro w1 hn hs
  have hb : BR w1 w.heap.size rb 0 ((0 : Nat) : Int) ((0 : Nat) : Int) 0 (fun _ => .int .u8 0) (fun _ => .int .u32 0) := by
    rw [hn]
    have hx := Row.alloc w (bc rb) 53
    rw [bc_size] at hx
    exact hx.congr fun i hi => bc_cells rb i hi
  replace hr := hr.same hs (by simp) (by simp)
  replace hS := hs
  clear hn hs
  refine WR.assign rfl rfl ?_
  refine WR.nil ?_
  refine WN.seq ?_
  refine WC.retR rfl rfl ?_
  exact ⟨_, Nat.le_refl _, rfl, ⟨0, 0, 0, 0, _, _, p, r, hb, hr, rfl, by omega, fun h => absurd rfl h⟩, hS⟩

set_option maxHeartbeats 1000000 in
theorem getBatch {w : World} {aE aU aP : Addr} (hg : Glob w aE aU aP) (b rb db dO len cap n L g o dc t N pos : Nat) (d : Nat → Nat) (f : Nat → Value) (ha : At w b rb db dO len cap d pos) (hF : Row w g t N f) (hoL : o + L ≤ N) (hLc : L ≤ dc) (hL : L ≤ 1099511627776) (hn1 : 1 ≤ n) (hn2 : n ≤ 64) (hfit : pos + n * L ≤ 8 * len) (hgb : 7 ≤ b) (hrb : 7 ≤ rb) (hgg : 7 ≤ g) (hne : b ≠ rb) (hnd : b ≠ db) (hrd : rb ≠ db) (hx1 : g ≠ b) (hx2 : g ≠ rb) (hx3 : g ≠ db) :
    Ret Tryz.prog 19 #[.pointer (some ⟨b, 0, none⟩), .int .u64 (n : Int), .slice (some ⟨g, o, none⟩) L dc] w fun v w' => v = .tuple #[.int .i64 (L : Nat), .nilIface] ∧ At w' b rb db dO len cap d (pos + n * L) ∧ (∃ F, Row w' g t N F ∧ Put F f o L L (fun j => Value.int .u64 (bts (num d len) (pos + n * j) n : Nat))) ∧ Same [g, b, rb] w w' := by
  have hS := Same.refl [g, b, rb] w
  obtain ⟨bo, bit, B, V, raw, unp, p, r, hb, hr, hpos, hbit, hB⟩ := ha
  have hlen := hr.len_
  have hput := Put.zero f o L (fun j => Value.int .u64 (bts (num d len) (pos + n * j) n : Nat))
  refine Ret.enter (vs := [.pointer (some ⟨b, 0, none⟩), .int .u64 (n : Int), .slice (some ⟨g, o, none⟩) L dc]) Tryz.func19 Tryz.ntmps19 rfl rfl ?_
  refine WC.seq ?_
  refine WC.region ?_
  refine WR.assign rfl rfl ?_
  refine WR.assign rfl rfl ?_
  refine WR.nil ?_
  refine WN.seq ?_
  refine WC.seq ?_
  refine WC.seq ?_
  refine WC.region ?_
  refine WR.move rfl rfl ?_
  refine WR.bin rfl rfl rfl rfl ?_
  refine WR.nil ?_
  refine WN.seq ?_
  refine WC.cond rfl (fun h534 => ?_) (fun h534 => ?_)
  · skip
    (try simp only [decide_eq_true_eq, decide_eq_false_iff_not, beq_iff_eq, beq_eq_false_iff_ne, bne_iff_ne, bne_eq_false_iff_eq, gt_iff_lt, ge_iff_le, Int.not_lt, Int.not_le, ne_eq, Bool.not_eq_true, Bool.not_eq_false, Bool.and_eq_true, Bool.and_eq_false_iff, Bool.or_eq_true, Bool.or_eq_false_iff] at h534)
    omega
  · skip
    (try simp only [decide_eq_true_eq, decide_eq_false_iff_not, beq_iff_eq, beq_eq_false_iff_ne, bne_iff_ne, bne_eq_false_iff_eq, gt_iff_lt, ge_iff_le, Int.not_lt, Int.not_le, ne_eq, Bool.not_eq_true, Bool.not_eq_false, Bool.and_eq_true, Bool.and_eq_false_iff, Bool.or_eq_true, Bool.or_eq_false_iff] at h534)
    refine WC.skip ?_
    refine WN.seq ?_
    refine WC.seq ?_
    refine WC.region ?_
    refine WR.move rfl rfl ?_
    refine WR.lenS rfl Tryz.underlying24 rfl ?_
    refine WR.assign rfl rfl ?_
    refine WR.nil ?_
    refine WN.seq ?_
    refine WC.seq ?_
    refine WC.region ?_
    refine WR.assign rfl rfl ?_
    refine WR.nil ?_
    refine WN.seq ?_
    refine WC.seq ?_
    refine WC.cut (fun i : Nat => [(0, .pointer (some ⟨b, 0, none⟩)), (1, .int .u64 (n : Nat)), (2, .slice (some ⟨g, o, none⟩) L dc), (8, .int .i64 (L : Nat)), (9, .int .i64 (i : Nat))]) (fun i w' => i ≤ L ∧ Glob w' aE aU aP ∧ Same [g, b, rb] w w' ∧ ∃ F, Row w' g t N F ∧ Put F f o L i (fun j => Value.int .u64 (bts (num d len) (pos + n * j) n : Nat)) ∧ ∃ (bo bit : Nat) (B V : Int) (raw unp : Nat → Value) (p r : Int), BR w' b rb B bo bit V raw unp ∧ Src w' rb db dO len cap p r d ∧ 8 * bo + bit = pos + n * i ∧ bit ≤ 64 ∧ (i < L → bit = 0)) ?_ ?_
    · skip
      refine WC.block ?_
      refine WC.loop (fun i : Nat => [(0, .pointer (some ⟨b, 0, none⟩)), (1, .int .u64 (n : Nat)), (2, .slice (some ⟨g, o, none⟩) L dc), (8, .int .i64 (L : Nat)), (9, .int .i64 (i : Nat))]) (fun m i w' => i + m = L ∧ Glob w' aE aU aP ∧ Same [g, b, rb] w w' ∧ ∃ F, Row w' g t N F ∧ Put F f o L i (fun j => Value.int .u64 (bts (num d len) (pos + n * j) n : Nat)) ∧ ∃ (bo bit : Nat) (B V : Int) (raw unp : Nat → Value) (p r : Int), BR w' b rb B bo bit V raw unp ∧ Src w' rb db dO len cap p r d ∧ 8 * bo + bit = pos + n * i ∧ bit ≤ 64 ∧ (bit ≠ 0 → B = (bts (num d len) (8 * bo) 64 : Nat) ∧ V = (8 * min (len - bo) 8 : Nat))) L 0 ⟨rfl, rfl, rfl, rfl, rfl, trivial⟩ ⟨by omega, hg, hS, f, hF, hput, bo, bit, B, V, raw, unp, p, r, hb, hr, by omega, hbit, hB⟩ ?_
      clear hg hS hF hput hb hr hpos hbit hB
      rintro m i w1 ⟨hm, hg, hS, F, hF, hput, bo, bit, B, V, raw, unp, p, r, hb, hr, hpos, hbit, hB⟩
      rcases Nat.lt_or_ge i L with hi | hi
      · skip
        refine WC.seq ?_
        refine WC.seq ?_
        refine WC.region ?_
        refine WR.move rfl rfl ?_
        refine WR.move rfl rfl ?_
        refine WR.bin rfl rfl rfl rfl ?_
        refine WR.move rfl rfl ?_
        refine WR.take rfl rfl (by first | rfl | assumption | simp_all) ?_
        refine WR.move rfl rfl ?_
        refine WR.take rfl rfl (by first | rfl | assumption | simp_all) ?_
        refine WR.nilCheckP rfl rfl ?_
        refine WR.take rfl rfl (by first | rfl | assumption | simp_all) ?_
        refine WR.field rfl fa53_3 rfl ?_
        refine WR.take rfl rfl (by first | rfl | assumption | simp_all) ?_
        refine WR.load rfl Tryz.underlying44 rfl hb.c3 rfl ?_
        refine WR.take rfl rfl (by first | rfl | assumption | simp_all) ?_
        refine WR.bin rfl rfl rfl rfl ?_
        refine WR.pickT rfl (by first | rfl | assumption | simp_all) rfl rfl ?_
        refine WR.nil ?_
        refine WN.seq ?_
        refine WC.cond rfl (fun h542 => ?_) (fun h542 => ?_)
        · skip
          (try simp only [decide_eq_true_eq, decide_eq_false_iff_not, beq_iff_eq, beq_eq_false_iff_ne, bne_iff_ne, bne_eq_false_iff_eq, gt_iff_lt, ge_iff_le, Int.not_lt, Int.not_le, ne_eq, Bool.not_eq_true, Bool.not_eq_false, Bool.and_eq_true, Bool.and_eq_false_iff, Bool.or_eq_true, Bool.or_eq_false_iff] at h542)
          have hbt : bit ≠ 0 := by omega
          obtain ⟨rfl, rfl⟩ := hB hbt
          have hni := Nat.mul_le_mul_left n (show i + 1 ≤ L by omega)
          rw [Nat.mul_add_one] at hni
          refine WC.skip ?_
          refine WN.seq ?_
          refine WC.seq ?_
          refine WC.block ?_
          refine WC.seq ?_
          refine WC.region ?_
          refine WR.move rfl rfl ?_
          refine WR.move rfl rfl ?_
          refine WR.callF rfl rfl cf16 rfl rfl (next_ hg b rb db dO len cap bo bit n p r d raw unp hb hr (by omega) hn1 hn2 (by omega) hgb hne hnd) ?_
          rintro _ w2 ⟨rfl, ⟨bo2, bit2, raw2, hb', hpos2, hbit1, hbit2⟩, hs⟩
          replace hb := hb'
          clear hb'
          replace hg := hg.same hs (by simp <;> omega)
          replace hr := hr.same hs (by simp <;> omega) (by simp <;> omega)
          replace hF := hF.same hs (by simp <;> omega)
          replace hS := hS.trans hs (by simp)
          refine WR.move rfl rfl ?_
          refine WR.extract rfl rfl rfl ?_
          refine WR.extract rfl rfl rfl ?_
          refine WR.assign rfl rfl ?_
          refine WR.assign rfl rfl ?_
          refine WR.nil ?_
          refine WN.seq ?_
          refine WC.seq ?_
          refine WC.region ?_
          refine WR.move rfl rfl ?_
          refine WR.move rfl rfl ?_
          refine WR.move rfl rfl ?_
          refine WR.idxK (i) rfl rfl Tryz.underlying24 sz28 (by omega) (by omega) rfl ?_
          refine WR.storeK rfl rfl rfl sz28 (hF.cell (by omega)) (hF.fz _) ?_
          intro w3 hn hs
          replace hF := hF.set' hn
          replace hg := hg.same hs (by simp <;> omega)
          replace hr := hr.same hs (by simp <;> omega) (by simp <;> omega)
          replace hb := hb.same hs (by simp <;> omega)
          replace hS := hS.trans hs (by simp)
          clear hn hs
          refine WR.nil ?_
          refine WN.seq ?_
          refine WC.seq ?_
          refine WC.region ?_
          refine WR.move rfl rfl ?_
          refine WR.neqNil rfl rfl Tryz.underlying41 rfl ?_
          refine WR.nil ?_
          refine WN.seq ?_
          refine WC.cond rfl (fun h545 => ?_) (fun h545 => ?_)
          · skip
            cases h545
          · skip
            (try simp only [decide_eq_true_eq, decide_eq_false_iff_not, beq_iff_eq, beq_eq_false_iff_ne, bne_iff_ne, bne_eq_false_iff_eq, gt_iff_lt, ge_iff_le, Int.not_lt, Int.not_le, ne_eq, Bool.not_eq_true, Bool.not_eq_false, Bool.and_eq_true, Bool.and_eq_false_iff, Bool.or_eq_true, Bool.or_eq_false_iff] at h545)
            refine WC.skip ?_
            refine WN.block ?_
            refine WN.seq ?_
            refine WC.region ?_
            refine WR.move rfl rfl ?_
            first
              | (refine WR.bin rfl rfl (ar_add (wrap_i64 ?_ ?_)) rfl ?_; (omega); (omega))
              | refine WR.bin rfl rfl (ar_add rfl) rfl ?_
            refine WR.assign rfl rfl ?_
            refine WR.nil ?_
            exact WN.loop (m - 1) (i + 1) (by omega) ⟨rfl, rfl, rfl, rfl, kint rfl (by omega), trivial⟩ ⟨by omega, hg, hS, _, hF, hput.step hi (by rw [hpos]; rfl), bo2, bit2, _, _, raw2, unp, p, r, hb, hr, by rw [Nat.mul_add_one]; omega, by omega, fun _ => ⟨rfl, rfl⟩⟩
        · skip
          (try simp only [decide_eq_true_eq, decide_eq_false_iff_not, beq_iff_eq, beq_eq_false_iff_ne, bne_iff_ne, bne_eq_false_iff_eq, gt_iff_lt, ge_iff_le, Int.not_lt, Int.not_le, ne_eq, Bool.not_eq_true, Bool.not_eq_false, Bool.and_eq_true, Bool.and_eq_false_iff, Bool.or_eq_true, Bool.or_eq_false_iff] at h542)
          refine WC.exit rfl ?_
          exact WN.loop 0 i (by decide) ⟨rfl, rfl, rfl, rfl, rfl, trivial⟩ ⟨by omega, hg, hS, F, hF, hput, bo, bit, B, V, raw, unp, p, r, hb, hr, hpos, hbit, fun _ => by omega⟩
      · skip
        refine WC.seq ?_
        refine WC.seq ?_
        refine WC.region ?_
        refine WR.move rfl rfl ?_
        refine WR.move rfl rfl ?_
        refine WR.bin rfl rfl rfl rfl ?_
        refine WR.move rfl rfl ?_
        refine WR.pass rfl rfl rfl (by first | rfl | assumption | simp_all) ?_
        refine WR.pass rfl rfl rfl (by first | rfl | assumption | simp_all) ?_
        refine WR.pass rfl rfl rfl (by first | rfl | assumption | simp_all) ?_
        refine WR.pass rfl rfl rfl (by first | rfl | assumption | simp_all) ?_
        refine WR.pass rfl rfl rfl (by first | rfl | assumption | simp_all) ?_
        refine WR.pickF rfl (by first | rfl | assumption | simp_all) rfl rfl ?_
        refine WR.nil ?_
        refine WN.seq ?_
        refine WC.cond rfl (fun h542 => ?_) (fun h542 => ?_)
        · skip
          cases h542
        · skip
          (try simp only [decide_eq_true_eq, decide_eq_false_iff_not, beq_iff_eq, beq_eq_false_iff_ne, bne_iff_ne, bne_eq_false_iff_eq, gt_iff_lt, ge_iff_le, Int.not_lt, Int.not_le, ne_eq, Bool.not_eq_true, Bool.not_eq_false, Bool.and_eq_true, Bool.and_eq_false_iff, Bool.or_eq_true, Bool.or_eq_false_iff] at h542)
          refine WC.exit rfl ?_
          exact WN.loop 0 i (by decide) ⟨rfl, rfl, rfl, rfl, rfl, trivial⟩ ⟨by omega, hg, hS, F, hF, hput, bo, bit, B, V, raw, unp, p, r, hb, hr, hpos, hbit, fun _ => by omega⟩
    · skip
      clear hg hS hF hput hb hr hpos hbit hB
      rintro i w9 ⟨hiL, hg, hS, F, hF, hput, bo, bit, B, V, raw, unp, p, r, hb, hr, hpos, hbit, hz⟩
      refine WN.seq ?_
      refine WC.seq ?_
      refine WC.cut (fun i : Nat => [(0, .pointer (some ⟨b, 0, none⟩)), (1, .int .u64 (n : Nat)), (2, .slice (some ⟨g, o, none⟩) L dc), (8, .int .i64 (L : Nat)), (9, .int .i64 (i : Nat))]) (fun i w' => i ≤ L ∧ Glob w' aE aU aP ∧ Same [g, b, rb] w w' ∧ ∃ F, Row w' g t N F ∧ Put F f o L i (fun j => Value.int .u64 (bts (num d len) (pos + n * j) n : Nat)) ∧ ∃ (bo bit : Nat) (B V : Int) (raw unp : Nat → Value) (p r : Int), BR w' b rb B bo bit V raw unp ∧ Src w' rb db dO len cap p r d ∧ 8 * bo + bit = pos + n * i ∧ bit ≤ 64) ?_ ?_
      · skip
        refine WC.seq ?_
        refine WC.region ?_
        refine WR.move rfl rfl ?_
        refine WR.bin rfl rfl rfl rfl ?_
        refine WR.nil ?_
        refine WN.seq ?_
        refine WC.cond rfl (fun h550 => ?_) (fun h550 => ?_)
        · skip
          (try simp only [decide_eq_true_eq, decide_eq_false_iff_not, beq_iff_eq, beq_eq_false_iff_ne, bne_iff_ne, bne_eq_false_iff_eq, gt_iff_lt, ge_iff_le, Int.not_lt, Int.not_le, ne_eq, Bool.not_eq_true, Bool.not_eq_false, Bool.and_eq_true, Bool.and_eq_false_iff, Bool.or_eq_true, Bool.or_eq_false_iff] at h550)
          have h550n : n ≤ 32 := by omega
          refine WC.seq ?_
          refine WC.seq ?_
          refine WC.mix [] mixed (by kernel_rfl) ?_
          replace hg := hg.same (Same.drew _) (by simp <;> omega)
          replace hr := hr.same (Same.drew _) (by simp <;> omega) (by simp <;> omega)
          replace hb := hb.same (Same.drew _) (by simp <;> omega)
          replace hF := hF.same (Same.drew _) (by simp <;> omega)
          replace hS := hS.trans (Same.drew _) (by simp)
          refine WR.move rfl rfl ?_
          refine WR.nilCheckP rfl rfl ?_
          refine WR.field rfl fa53_0 rfl ?_
          refine WR.load rfl Tryz.underlying48 rfl hb.c0 rfl ?_
          refine WR.move rfl rfl ?_
          refine WR.nilCheckP rfl rfl ?_
          refine WR.field rfl fa53_2 rfl ?_
          refine WR.load rfl Tryz.underlying2 rfl hb.c2 rfl ?_
          refine WR.nilCheckI rfl rfl ?_
          refine WR.move rfl rfl ?_
          refine WR.invoke rfl rfl rfl mtRdr_Seek cf119 rfl rfl (seek rb db dO len cap p r bo hr.rd (by omega)) ?_
          rintro _ w2 ⟨rfl, hr', hs⟩
          replace hr := Src.of_two (hr.two.same hs (by simp <;> omega)) hr' hrb
          clear hr'
          replace hg := hg.same hs (by simp <;> omega)
          replace hb := hb.same hs (by simp <;> omega)
          replace hF := hF.same hs (by simp <;> omega)
          replace hS := hS.trans hs (by simp)
          refine WR.move rfl rfl ?_
          refine WR.extract rfl rfl rfl ?_
          refine WR.extract rfl rfl rfl ?_
          refine WR.assign rfl rfl ?_
          refine WR.assign rfl rfl ?_
          refine WR.nil ?_
          refine WN.seq ?_
          refine WC.seq ?_
          refine WC.region ?_
          refine WR.move rfl rfl ?_
          refine WR.neqNil rfl rfl Tryz.underlying41 rfl ?_
          refine WR.nil ?_
          refine WN.seq ?_
          refine WC.cond rfl (fun h551 => ?_) (fun h551 => ?_)
          · skip
            cases h551
          · skip
            (try simp only [decide_eq_true_eq, decide_eq_false_iff_not, beq_iff_eq, beq_eq_false_iff_ne, bne_iff_ne, bne_eq_false_iff_eq, gt_iff_lt, ge_iff_le, Int.not_lt, Int.not_le, ne_eq, Bool.not_eq_true, Bool.not_eq_false, Bool.and_eq_true, Bool.and_eq_false_iff, Bool.or_eq_true, Bool.or_eq_false_iff] at h551)
            refine WC.skip ?_
            refine WN.seq ?_
            refine WC.block ?_
            refine WC.loop (fun i : Nat => [(0, .pointer (some ⟨b, 0, none⟩)), (1, .int .u64 (n : Nat)), (2, .slice (some ⟨g, o, none⟩) L dc), (8, .int .i64 (L : Nat)), (9, .int .i64 (i : Nat))]) (fun m i w' => i + m = L ∧ Glob w' aE aU aP ∧ Same [g, b, rb] w w' ∧ ∃ F, Row w' g t N F ∧ Put F f o L i (fun j => Value.int .u64 (bts (num d len) (pos + n * j) n : Nat)) ∧ ∃ (bo bit : Nat) (B V : Int) (raw unp : Nat → Value) (p r : Int), BR w' b rb B bo bit V raw unp ∧ Src w' rb db dO len cap p r d ∧ 8 * bo + bit = pos + n * i ∧ bit ≤ 64 ∧ (i < L → bit = 0 ∧ p = bo)) (L - i) i ⟨rfl, rfl, rfl, rfl, rfl, trivial⟩ ⟨by omega, hg, hS, F, hF, hput, bo, bit, B, V, raw, unp, _, _, hb, hr, hpos, hbit, fun h => ⟨hz h, rfl⟩⟩ ?_
            clear hz
            clear hg hS hF hput hb hr hpos hbit
            rintro m i w3 ⟨hm, hg, hS, F, hF, hput, bo, bit, B, V, raw, unp, p, r, hb, hr, hpos, hbit, hz⟩
            refine WC.seq ?_
            refine WC.seq ?_
            refine WC.region ?_
            refine WR.move rfl rfl ?_
            refine WR.move rfl rfl ?_
            refine WR.bin rfl rfl rfl rfl ?_
            refine WR.nil ?_
            refine WN.seq ?_
            refine WC.cond rfl (fun h554 => ?_) (fun h554 => ?_)
            · skip
              (try simp only [decide_eq_true_eq, decide_eq_false_iff_not, beq_iff_eq, beq_eq_false_iff_ne, bne_iff_ne, bne_eq_false_iff_eq, gt_iff_lt, ge_iff_le, Int.not_lt, Int.not_le, ne_eq, Bool.not_eq_true, Bool.not_eq_false, Bool.and_eq_true, Bool.and_eq_false_iff, Bool.or_eq_true, Bool.or_eq_false_iff] at h554)
              obtain ⟨rfl, rfl⟩ := hz (by omega)
              refine WC.skip ?_
              refine WN.seq ?_
              refine WC.block ?_
              refine WC.seq ?_
              refine WC.region ?_
              refine WR.move rfl rfl ?_
              refine WR.move rfl rfl ?_
              (refine WR.bin rfl rfl (ar_sub (z := ((L - i : Nat) : Int)) ?_) rfl ?_; (rw [wrap_i64 (by omega) (by omega)]; omega))
              refine WR.callFS rfl rfl cf29 rfl rfl (minI 1024 (L - i) _) ?_
              obtain ⟨x, hx⟩ : ∃ x, x = min 1024 (L - i) := ⟨_, rfl⟩
              rw [← hx]
              obtain ⟨y, hy⟩ : ∃ y, y = x / 32 := ⟨_, rfl⟩
              have hxy := Nat.mul_le_mul_left n (show i + 32 * y ≤ L by omega)
              rw [Nat.mul_add, Nat.mul_left_comm n 32 y] at hxy
              have hny : 4 * n * y = 4 * (n * y) := Nat.mul_assoc 4 n y
              have hyn : n * y ≤ 32 * 32 := Nat.mul_le_mul h550n (by omega)
              refine WR.assign rfl rfl ?_
              refine WR.nil ?_
              refine WN.seq ?_
              refine WC.seq ?_
              refine WC.mix [] mixed (by kernel_rfl) ?_
              replace hg := hg.same (Same.drew _) (by simp <;> omega)
              replace hr := hr.same (Same.drew _) (by simp <;> omega) (by simp <;> omega)
              replace hb := hb.same (Same.drew _) (by simp <;> omega)
              replace hF := hF.same (Same.drew _) (by simp <;> omega)
              replace hS := hS.trans (Same.drew _) (by simp)
              refine WR.move rfl rfl ?_
              refine WR.nilCheckP rfl rfl ?_
              refine WR.field rfl fa53_0 rfl ?_
              refine WR.load rfl Tryz.underlying48 rfl hb.c0 rfl ?_
              refine WR.move rfl rfl ?_
              refine WR.nilCheckP rfl rfl ?_
              refine WR.field rfl fa53_6 rfl ?_
              refine WR.move rfl rfl ?_
              refine WR.sliceA rfl Tryz.underlying51 sz50 ⟨_, _, rfl, by omega, by omega, show x = Int.toNat _ by omega⟩ rfl rfl ?_
              refine WR.move rfl rfl ?_
              first
                | (refine WR.conv rfl Tryz.underlying44 Tryz.underlying3 (wrap_i64 ?_ ?_) rfl ?_; (omega); (omega))
                | refine WR.conv rfl Tryz.underlying44 Tryz.underlying3 rfl rfl ?_
              refine WR.callF rfl rfl cf30 rfl rfl (unpack32 rb db dO len cap b 13 (x - 0) (1024 - 0) 53 1037 bo n y r d _ hr.rd hr.two hb.raw_of (by omega) (by omega) hn1 h550n (by omega) (by omega) hne hnd hrd hg.size (by omega)) ?_
              rintro _ w4 ⟨rfl, ⟨r2, hr'⟩, ⟨Fu, hu, hu1, hu2⟩, hs⟩
              rw [hny] at hr'
              replace hr := Src.of_two (hr.two.same hs (by simp <;> omega)) hr' hrb
              obtain ⟨unp2, hb2, hun⟩ : ∃ unp2, BR w4 b rb B bo (0 : Nat) V raw unp2 ∧ ∀ j, j < 32 * y → unp2 j = .int .u32 (bts (num d len) (8 * bo + n * j) n : Nat) := ⟨_, BR.unp_row hu (fun j hj => hu2 j (by omega)), fun j hj => by rw [Nat.add_comm j 13]; exact hu1 j hj⟩
              replace hb := hb2
              clear hr' hb2 hu hu1 hu2
              replace hg := hg.same hs (by simp <;> omega)
              replace hF := hF.same hs (by simp <;> omega)
              replace hS := hS.trans hs (by simp)
              refine WR.move rfl rfl ?_
              refine WR.extract rfl rfl rfl ?_
              refine WR.extract rfl rfl rfl ?_
              refine WR.assign rfl rfl ?_
              refine WR.assign rfl rfl ?_
              refine WR.nil ?_
              refine WN.seq ?_
              refine WC.seq ?_
              refine WC.seq ?_
              refine WC.region ?_
              refine WR.assign rfl rfl ?_
              refine WR.nil ?_
              refine WN.seq ?_
              refine WC.block ?_
              refine WC.loop (fun j : Nat => [(17, .int .i64 (j : Nat)), (15, .int .i64 (32 * y : Nat)), (16, .nilIface), (0, .pointer (some ⟨b, 0, none⟩)), (1, .int .u64 (n : Nat)), (2, .slice (some ⟨g, o, none⟩) L dc), (8, .int .i64 (L : Nat)), (9, .int .i64 (i : Nat))]) (fun m j w' => j + m = 32 * y ∧ Glob w' aE aU aP ∧ Same [g, b, rb] w w' ∧ ∃ F, Row w' g t N F ∧ Put F f o L (i + j) (fun j => Value.int .u64 (bts (num d len) (pos + n * j) n : Nat)) ∧ BR w' b rb B bo (0 : Nat) V raw unp2 ∧ Src w' rb db dO len cap (bo + 4 * (n * y) : Nat) (r2 : Int) d) (32 * y) 0 ⟨rfl, rfl, rfl, rfl, rfl, rfl, rfl, rfl, trivial⟩ ⟨by omega, hg, hS, F, hF, hput, hb, hr⟩ ?_
              clear hg hS hF hput hb hr
              rintro m2 j w5 ⟨hm2, hg, hS, F, hF, hput, hb, hr⟩
              refine WC.seq ?_
              refine WC.seq ?_
              refine WC.region ?_
              refine WR.move rfl rfl ?_
              refine WR.move rfl rfl ?_
              refine WR.bin rfl rfl rfl rfl ?_
              refine WR.nil ?_
              refine WN.seq ?_
              refine WC.cond rfl (fun h559 => ?_) (fun h559 => ?_)
              · skip
                (try simp only [decide_eq_true_eq, decide_eq_false_iff_not, beq_iff_eq, beq_eq_false_iff_ne, bne_iff_ne, bne_eq_false_iff_eq, gt_iff_lt, ge_iff_le, Int.not_lt, Int.not_le, ne_eq, Bool.not_eq_true, Bool.not_eq_false, Bool.and_eq_true, Bool.and_eq_false_iff, Bool.or_eq_true, Bool.or_eq_false_iff] at h559)
                refine WC.skip ?_
                refine WN.seq ?_
                refine WC.seq ?_
                refine WC.block ?_
                refine WC.region ?_
                refine WR.move rfl rfl ?_
                refine WR.move rfl rfl ?_
                refine WR.move rfl rfl ?_
                (refine WR.bin rfl rfl (ar_add (z := ((i + j : Nat) : Int)) ?_) rfl ?_; (rw [wrap_i64 (by omega) (by omega)]; omega))
                refine WR.move rfl rfl ?_
                refine WR.move rfl rfl ?_
                refine WR.nilCheckP rfl rfl ?_
                refine WR.field rfl fa53_6 rfl ?_
                refine WR.idxA rfl rfl Tryz.underlying51 sz50 (by omega) (by omega) rfl ?_
                refine WR.load rfl Tryz.underlying50 rfl (by rw [show 0 + 13 + Int.toNat (j : Int) * 1 = 13 + j by omega]; exact (hb.cu (by omega)).trans (congrArg some (hun j (by omega)))) rfl ?_
                refine WR.conv rfl Tryz.underlying50 Tryz.underlying28 (wrap_u64 (Int.natCast_nonneg _) (by have := bts_lt (num d len) (8 * bo + n * j) n; have := Nat.pow_le_pow_right (show 0 < 2 by decide) h550n; omega)) rfl ?_
                refine WR.idxK (i + j) rfl rfl Tryz.underlying24 sz28 (by omega) (by omega) rfl ?_
                refine WR.storeK rfl rfl rfl sz28 (hF.cell (by omega)) (hF.fz _) ?_
                intro w6 hn hs
                replace hF := hF.set' hn
                replace hg := hg.same hs (by simp <;> omega)
                replace hr := hr.same hs (by simp <;> omega) (by simp <;> omega)
                replace hb := hb.same hs (by simp <;> omega)
                replace hS := hS.trans hs (by simp)
                clear hn hs
                refine WR.nil ?_
                refine WN.block ?_
                refine WN.seq ?_
                refine WC.region ?_
                refine WR.move rfl rfl ?_
                first
                  | (refine WR.bin rfl rfl (ar_add (wrap_i64 ?_ ?_)) rfl ?_; (omega); (omega))
                  | refine WR.bin rfl rfl (ar_add rfl) rfl ?_
                refine WR.assign rfl rfl ?_
                refine WR.nil ?_
                exact WN.loop (m2 - 1) (j + 1) (by omega) ⟨kint rfl (by omega), rfl, rfl, rfl, rfl, rfl, rfl, rfl, trivial⟩ ⟨by omega, hg, hS, _, hF, hput.step (by omega) (by rw [show 8 * bo + n * j = pos + n * (i + j) by rw [Nat.mul_add]; omega]), hb, hr⟩
              · skip
                (try simp only [decide_eq_true_eq, decide_eq_false_iff_not, beq_iff_eq, beq_eq_false_iff_ne, bne_iff_ne, bne_eq_false_iff_eq, gt_iff_lt, ge_iff_le, Int.not_lt, Int.not_le, ne_eq, Bool.not_eq_true, Bool.not_eq_false, Bool.and_eq_true, Bool.and_eq_false_iff, Bool.or_eq_true, Bool.or_eq_false_iff] at h559)
                obtain rfl : j = 32 * y := by omega
                refine WC.exit rfl ?_
                refine WN.seq ?_
                refine WC.seq ?_
                refine WC.region ?_
                refine WR.move rfl rfl ?_
                refine WR.move rfl rfl ?_
                (refine WR.bin rfl rfl (ar_add (z := ((i + 32 * y : Nat) : Int)) ?_) rfl ?_; (rw [wrap_i64 (by omega) (by omega)]; omega))
                refine WR.assign rfl rfl ?_
                refine WR.nil ?_
                refine WN.seq ?_
                refine WC.seq ?_
                refine WC.region ?_
                refine WR.move rfl rfl ?_
                refine WR.nilCheckP rfl rfl ?_
                refine WR.field rfl fa53_2 rfl ?_
                refine WR.load rfl Tryz.underlying2 rfl hb.c2 rfl ?_
                refine WR.move rfl rfl ?_
                refine WR.move rfl rfl ?_
                first
                  | (refine WR.conv rfl Tryz.underlying44 Tryz.underlying3 (wrap_i64 ?_ ?_) rfl ?_; (omega); (omega))
                  | refine WR.conv rfl Tryz.underlying44 Tryz.underlying3 rfl rfl ?_
                (refine WR.bin rfl rfl (ar_mul (z := ((32 * (n * y) : Nat) : Int)) ?_) rfl ?_; (rw [← Int.natCast_mul, show 32 * y * n = 32 * (n * y) by rw [Nat.mul_assoc, Nat.mul_comm y n]]; exact wrap_i64 (by omega) (by omega)))
                refine WR.bin rfl rfl (ar_quo (z := ((4 * (n * y) : Nat) : Int)) (by decide) (by rw [tdiv_pos (by omega), wrap_i64 (by omega) (by omega)]; omega)) rfl ?_
                (refine WR.bin rfl rfl (ar_add (z := ((bo + 4 * (n * y) : Nat) : Int)) ?_) rfl ?_; (rw [wrap_i64 (by omega) (by omega)]; omega))
                refine WR.nilCheckP rfl rfl ?_
                refine WR.field rfl fa53_2 rfl ?_
                refine WR.storeK rfl rfl rfl sz2 hb.c2 (hb.fz 2) ?_
                intro w6 hn hs
                replace hb := hb.s2 hn
                replace hg := hg.same hs (by simp <;> omega)
                replace hr := hr.same hs (by simp <;> omega) (by simp <;> omega)
                replace hF := hF.same hs (by simp <;> omega)
                replace hS := hS.trans hs (by simp)
                clear hn hs
                refine WR.nil ?_
                refine WN.seq ?_
                refine WC.seq ?_
                refine WC.seq ?_
                refine WC.region ?_
                refine WR.move rfl rfl ?_
                refine WR.neqNil rfl rfl Tryz.underlying41 rfl ?_
                refine WR.nil ?_
                refine WN.seq ?_
                refine WC.cond rfl (fun h564 => ?_) (fun h564 => ?_)
                · skip
                  cases h564
                · skip
                  (try simp only [decide_eq_true_eq, decide_eq_false_iff_not, beq_iff_eq, beq_eq_false_iff_ne, bne_iff_ne, bne_eq_false_iff_eq, gt_iff_lt, ge_iff_le, Int.not_lt, Int.not_le, ne_eq, Bool.not_eq_true, Bool.not_eq_false, Bool.and_eq_true, Bool.and_eq_false_iff, Bool.or_eq_true, Bool.or_eq_false_iff] at h564)
                  refine WC.skip ?_
                  refine WN.seq ?_
                  refine WC.seq ?_
                  refine WC.region ?_
                  refine WR.move rfl rfl ?_
                  refine WR.bin rfl rfl rfl rfl ?_
                  refine WR.nil ?_
                  refine WN.seq ?_
                  refine WC.cond rfl (fun h567 => ?_) (fun h567 => ?_)
                  · skip
                    (try simp only [decide_eq_true_eq, decide_eq_false_iff_not, beq_iff_eq, beq_eq_false_iff_ne, bne_iff_ne, bne_eq_false_iff_eq, gt_iff_lt, ge_iff_le, Int.not_lt, Int.not_le, ne_eq, Bool.not_eq_true, Bool.not_eq_false, Bool.and_eq_true, Bool.and_eq_false_iff, Bool.or_eq_true, Bool.or_eq_false_iff] at h567)
                    refine WC.exit rfl ?_
                    obtain rfl : y = 0 := by omega
                    exact WN.loop 0 (i + 32 * 0) (by decide) ⟨rfl, rfl, rfl, rfl, rfl, trivial⟩ ⟨by omega, hg, hS, F, hF, hput, bo + 4 * (n * 0), 0, _, _, raw, unp2, _, _, hb, hr, by rw [Nat.mul_add n, Nat.mul_left_comm n 32 0]; omega, by omega⟩
                  · skip
                    (try simp only [decide_eq_true_eq, decide_eq_false_iff_not, beq_iff_eq, beq_eq_false_iff_ne, bne_iff_ne, bne_eq_false_iff_eq, gt_iff_lt, ge_iff_le, Int.not_lt, Int.not_le, ne_eq, Bool.not_eq_true, Bool.not_eq_false, Bool.and_eq_true, Bool.and_eq_false_iff, Bool.or_eq_true, Bool.or_eq_false_iff] at h567)
                    refine WC.skip ?_
                    refine WN.block ?_
                    exact WN.loop (L - (i + 32 * y)) (i + 32 * y) (by omega) ⟨rfl, rfl, rfl, rfl, rfl, trivial⟩ ⟨by omega, hg, hS, F, hF, hput, bo + 4 * (n * y), 0, _, _, raw, unp2, _, _, hb, hr, by rw [Nat.mul_add n, Nat.mul_left_comm n 32 y]; omega, by omega, fun _ => ⟨rfl, rfl⟩⟩
            · skip
              (try simp only [decide_eq_true_eq, decide_eq_false_iff_not, beq_iff_eq, beq_eq_false_iff_ne, bne_iff_ne, bne_eq_false_iff_eq, gt_iff_lt, ge_iff_le, Int.not_lt, Int.not_le, ne_eq, Bool.not_eq_true, Bool.not_eq_false, Bool.and_eq_true, Bool.and_eq_false_iff, Bool.or_eq_true, Bool.or_eq_false_iff] at h554)
              refine WC.exit rfl ?_
              exact WN.loop 0 i (by decide) ⟨rfl, rfl, rfl, rfl, rfl, trivial⟩ ⟨by omega, hg, hS, F, hF, hput, bo, bit, B, V, raw, unp, p, r, hb, hr, hpos, hbit⟩
        · skip
          (try simp only [decide_eq_true_eq, decide_eq_false_iff_not, beq_iff_eq, beq_eq_false_iff_ne, bne_iff_ne, bne_eq_false_iff_eq, gt_iff_lt, ge_iff_le, Int.not_lt, Int.not_le, ne_eq, Bool.not_eq_true, Bool.not_eq_false, Bool.and_eq_true, Bool.and_eq_false_iff, Bool.or_eq_true, Bool.or_eq_false_iff] at h550)
          refine WC.skip ?_
          exact WN.loop 0 i (by decide) ⟨rfl, rfl, rfl, rfl, rfl, trivial⟩ ⟨by omega, hg, hS, F, hF, hput, bo, bit, B, V, raw, unp, p, r, hb, hr, hpos, hbit⟩
      · skip
        clear hg hS hF hput hb hr hpos hbit hz
        rintro i w9 ⟨hiL, hg, hS, F, hF, hput, bo, bit, B, V, raw, unp, p, r, hb, hr, hpos, hbit⟩
        have hni0 := Nat.mul_le_mul_left n hiL
        refine WN.seq ?_
        refine WC.seq ?_
        refine WC.seq ?_
        refine WC.region ?_
        refine WR.move rfl rfl ?_
        refine WR.callF rfl rfl cf18 rfl rfl (fillbuffer hg b rb db dO len cap _ _ _ _ p r d _ _ hb hr (by omega) (by omega) hgb hne hnd) ?_
        rintro _ w2 ⟨rfl, ⟨raw2, hb'⟩, hs⟩
        replace hb := hb'
        clear hb'
        simp only [Int.toNat_natCast] at hb
        replace hg := hg.same hs (by simp <;> omega)
        replace hr := hr.same hs (by simp <;> omega) (by simp <;> omega)
        replace hF := hF.same hs (by simp <;> omega)
        replace hS := hS.trans hs (by simp)
        refine WR.assign rfl rfl ?_
        refine WR.nil ?_
        refine WN.seq ?_
        refine WC.seq ?_
        refine WC.region ?_
        refine WR.move rfl rfl ?_
        refine WR.neqNil rfl rfl Tryz.underlying41 rfl ?_
        refine WR.nil ?_
        refine WN.seq ?_
        refine WC.cond rfl (fun h573 => ?_) (fun h573 => ?_)
        · skip
          cases h573
        · skip
          (try simp only [decide_eq_true_eq, decide_eq_false_iff_not, beq_iff_eq, beq_eq_false_iff_ne, bne_iff_ne, bne_eq_false_iff_eq, gt_iff_lt, ge_iff_le, Int.not_lt, Int.not_le, ne_eq, Bool.not_eq_true, Bool.not_eq_false, Bool.and_eq_true, Bool.and_eq_false_iff, Bool.or_eq_true, Bool.or_eq_false_iff] at h573)
          refine WC.skip ?_
          refine WN.seq ?_
          refine WC.seq ?_
          refine WC.block ?_
          refine WC.loop (fun i : Nat => [(0, .pointer (some ⟨b, 0, none⟩)), (1, .int .u64 (n : Nat)), (2, .slice (some ⟨g, o, none⟩) L dc), (8, .int .i64 (L : Nat)), (9, .int .i64 (i : Nat))]) (fun m i w' => i + m = L ∧ Glob w' aE aU aP ∧ Same [g, b, rb] w w' ∧ ∃ F, Row w' g t N F ∧ Put F f o L i (fun j => Value.int .u64 (bts (num d len) (pos + n * j) n : Nat)) ∧ ∃ (bo bit : Nat) (raw unp : Nat → Value) (p r : Int), BR w' b rb (bts (num d len) (8 * bo) 64 : Nat) bo bit (8 * min (len - bo) 8 : Nat) raw unp ∧ Src w' rb db dO len cap p r d ∧ 8 * bo + bit = pos + n * i ∧ bit ≤ 64) (L - i) i ⟨rfl, rfl, rfl, rfl, rfl, trivial⟩ ⟨by omega, hg, hS, F, hF, hput, bo, bit, raw2, unp, p, r, hb, hr, hpos, hbit⟩ ?_
          clear hg hS hF hput hb hr hpos hbit hni0 hiL
          rintro m i w3 ⟨hm, hg, hS, F, hF, hput, bo, bit, raw, unp, p, r, hb, hr, hpos, hbit⟩
          refine WC.seq ?_
          refine WC.seq ?_
          refine WC.region ?_
          refine WR.move rfl rfl ?_
          refine WR.move rfl rfl ?_
          refine WR.bin rfl rfl rfl rfl ?_
          refine WR.nil ?_
          refine WN.seq ?_
          refine WC.cond rfl (fun h577 => ?_) (fun h577 => ?_)
          · skip
            (try simp only [decide_eq_true_eq, decide_eq_false_iff_not, beq_iff_eq, beq_eq_false_iff_ne, bne_iff_ne, bne_eq_false_iff_eq, gt_iff_lt, ge_iff_le, Int.not_lt, Int.not_le, ne_eq, Bool.not_eq_true, Bool.not_eq_false, Bool.and_eq_true, Bool.and_eq_false_iff, Bool.or_eq_true, Bool.or_eq_false_iff] at h577)
            have hni := Nat.mul_le_mul_left n (show i + 1 ≤ L by omega)
            rw [Nat.mul_add_one] at hni
            refine WC.skip ?_
            refine WN.seq ?_
            refine WC.seq ?_
            refine WC.block ?_
            refine WC.seq ?_
            refine WC.region ?_
            refine WR.move rfl rfl ?_
            refine WR.move rfl rfl ?_
            refine WR.callF rfl rfl cf16 rfl rfl (next_ hg b rb db dO len cap bo bit n p r d raw unp hb hr (by omega) hn1 hn2 (by omega) hgb hne hnd) ?_
            rintro _ w4 ⟨rfl, ⟨bo2, bit2, raw2, hb', hpos2, hbit1, hbit2⟩, hs⟩
            replace hb := hb'
            clear hb'
            replace hg := hg.same hs (by simp <;> omega)
            replace hr := hr.same hs (by simp <;> omega) (by simp <;> omega)
            replace hF := hF.same hs (by simp <;> omega)
            replace hS := hS.trans hs (by simp)
            refine WR.move rfl rfl ?_
            refine WR.extract rfl rfl rfl ?_
            refine WR.extract rfl rfl rfl ?_
            refine WR.assign rfl rfl ?_
            refine WR.assign rfl rfl ?_
            refine WR.nil ?_
            refine WN.seq ?_
            refine WC.seq ?_
            refine WC.region ?_
            refine WR.move rfl rfl ?_
            refine WR.move rfl rfl ?_
            refine WR.move rfl rfl ?_
            refine WR.idxK (i) rfl rfl Tryz.underlying24 sz28 (by omega) (by omega) rfl ?_
            refine WR.storeK rfl rfl rfl sz28 (hF.cell (by omega)) (hF.fz _) ?_
            intro w5 hn hs
            replace hF := hF.set' hn
            replace hg := hg.same hs (by simp <;> omega)
            replace hr := hr.same hs (by simp <;> omega) (by simp <;> omega)
            replace hb := hb.same hs (by simp <;> omega)
            replace hS := hS.trans hs (by simp)
            clear hn hs
            refine WR.nil ?_
            refine WN.seq ?_
            refine WC.seq ?_
            refine WC.region ?_
            refine WR.move rfl rfl ?_
            refine WR.neqNil rfl rfl Tryz.underlying41 rfl ?_
            refine WR.nil ?_
            refine WN.seq ?_
            refine WC.cond rfl (fun h580 => ?_) (fun h580 => ?_)
            · skip
              cases h580
            · skip
              (try simp only [decide_eq_true_eq, decide_eq_false_iff_not, beq_iff_eq, beq_eq_false_iff_ne, bne_iff_ne, bne_eq_false_iff_eq, gt_iff_lt, ge_iff_le, Int.not_lt, Int.not_le, ne_eq, Bool.not_eq_true, Bool.not_eq_false, Bool.and_eq_true, Bool.and_eq_false_iff, Bool.or_eq_true, Bool.or_eq_false_iff] at h580)
              refine WC.skip ?_
              refine WN.block ?_
              refine WN.seq ?_
              refine WC.region ?_
              refine WR.move rfl rfl ?_
              first
                | (refine WR.bin rfl rfl (ar_add (wrap_i64 ?_ ?_)) rfl ?_; (omega); (omega))
                | refine WR.bin rfl rfl (ar_add rfl) rfl ?_
              refine WR.assign rfl rfl ?_
              refine WR.nil ?_
              exact WN.loop (m - 1) (i + 1) (by omega) ⟨rfl, rfl, rfl, rfl, kint rfl (by omega), trivial⟩ ⟨by omega, hg, hS, _, hF, hput.step (by omega) (by rw [hpos]; rfl), bo2, bit2, raw2, unp, p, r, hb, hr, by rw [Nat.mul_add_one]; omega, by omega⟩
          · skip
            (try simp only [decide_eq_true_eq, decide_eq_false_iff_not, beq_iff_eq, beq_eq_false_iff_ne, bne_iff_ne, bne_eq_false_iff_eq, gt_iff_lt, ge_iff_le, Int.not_lt, Int.not_le, ne_eq, Bool.not_eq_true, Bool.not_eq_false, Bool.and_eq_true, Bool.and_eq_false_iff, Bool.or_eq_true, Bool.or_eq_false_iff] at h577)
            obtain rfl : i = L := by omega
            refine WC.exit rfl ?_
            refine WN.seq ?_
            refine WC.seq ?_
            refine WC.region ?_
            refine WR.move rfl rfl ?_
            refine WR.assign rfl rfl ?_
            refine WR.assign rfl rfl ?_
            refine WR.nil ?_
            refine WN.seq ?_
            refine WC.retR rfl rfl ?_
            exact ⟨rfl, ⟨bo, bit, _, _, raw, unp, p, r, hb, hr, hpos, hbit, fun _ => ⟨rfl, rfl⟩⟩, ⟨F, hF, hput⟩, hS⟩

end Go.Proofs.YtajgdpiodpoooaaGreatDoor.Vm
