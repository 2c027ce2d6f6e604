/- The unpack functions with loops. -/
import Derived.Test.YthmknddfkmklfaaGreatDoorUnpL
namespace Go.Proofs.YthmknddfkmklfaaGreatDoor.Vm
open Go Mix Go.RowKit Num
set_option maxRecDepth 20000
set_option linter.unusedSimpArgs false
set_option maxHeartbeats 400000 in
theorem unpk1 (p : UP) {w : World} (h : UIn p 1 w) :
    Ret Tryz.prog 84 #[.iface 120 (.pointer (some ⟨p.rb, p.rb.off, none⟩)), .slice (some ⟨p.g, p.o, none⟩) p.dl p.dc] w (unpR p 1 w) := by
  refine Ret.enter (vs := [.iface 120 (.pointer (some ⟨p.rb, p.rb.off, none⟩)), .slice (some ⟨p.g, p.o, none⟩) p.dl p.dc]) Tryz.func84 Tryz.ntmps84 rfl rfl ?_
  refine WC.seq (WC.region ?_)
  refine WR.alloc zvU rfl rfl ?_
  intro w1 hn _
  refine WR.nil ?_
  replace h := US.start h hn
  refine WN.weak (L3 p w.heap.size) ⟨rfl, rfl, rfl, trivial⟩ ?_
  clear hn
  revert h; generalize w.heap.size = b; intro h
  refine WN.seq (WC.seq ?_)
  refine WC.weak (L3 p b) ⟨rfl, rfl, rfl, trivial⟩ ?_
  refine unpD 0 4 h (by decide) rfl rfl rfl rfl fun w1 h => WN.seq (WC.seq ?_)
  refine WC.region ?_
  refine WR.move rfl rfl ?_
  refine WR.slice rfl Tryz.underlying156 sz109 ⟨_, _, rfl, by omega, by have := h.fit; omega, rfl⟩ rfl rfl ?_
  refine WR.lenS rfl Tryz.underlying156 rfl ?_
  refine WR.move rfl rfl ?_
  refine WR.nil (WN.seq (WC.block ?_))
  have hfit := h.fit
  refine WC.loop (fun j : Nat => (11, .int .i64 ((j : Nat) : Int)) :: (10, .int .i64 32) :: L3 p b) (fun m j w' => j + m = 32 ∧ US p 1 w b w' j 4 (bts p.E 0 32) 0) 32 0 ⟨rfl, rfl, rfl, rfl, rfl, trivial⟩ ⟨rfl, h⟩ ?_
  clear h hfit
  rintro m j w1 ⟨hm, h⟩
  refine WC.seq (WC.region ?_)
  refine WR.bin rfl rfl rfl rfl ?_
  refine WR.nil (WN.seq (WC.seq ?_))
  refine WC.cond rfl (fun h42 => ?_) (fun h42 => ?_)
  · skip
    simp only [decide_eq_true_eq] at h42
    refine WC.skip (WN.seq ?_)
    refine WC.seq (WC.block ?_)
    refine WC.seq (WC.region ?_)
    refine WR.move rfl rfl ?_
    refine WR.assign rfl rfl ?_
    refine WR.nil (WN.seq (WC.region ?_))
    have hfit := h.fit
    obtain ⟨F, hF, -, hc2, -⟩ := h.row
    refine WR.move rfl rfl ?_
    refine WR.move rfl rfl ?_
    refine WR.load rfl Tryz.underlying109 rfl (h.word.cell (i := 0) (by decide)) rfl ?_
    refine WR.move rfl rfl ?_
    refine WR.shr (z := ((bts p.E (0) 32 / 2 ^ (j) : Nat) : Int)) rfl rfl (by omega) (shr32 (s := j) (by omega) (by omega)) rfl ?_
    refine WR.bin (v := .int .u32 ((bts p.E (1 * (j)) 1 : Nat) : Int)) rfl rfl ?_ rfl ?_
    · have hlt := bts_lt p.E (0) 32
      rw [u_and1 (Nat.lt_of_le_of_lt (Nat.div_le_self _ _) hlt), show (2 : Nat) = 2 ^ 1 from rfl, u_mid (by omega), show (0) + j = (1 * (j)) by omega]
    refine WR.idxK (j) rfl rfl Tryz.underlying156 sz109 (by omega) (by omega) rfl ?_
    refine WR.storeK rfl rfl rfl sz109 (hF.cell (by omega)) (hF.fz _) ?_
    intro w1 hn _
    refine WR.nil ?_
    clear hc2
    replace h := h.set hn rfl (by omega)
    clear hn hF F hfit
    replace h := h.next (by decide)
    refine WN.block (WN.seq (WC.region ?_))
    (refine WR.bin rfl rfl (ar_add (wrap_i64 ?_ ?_)) rfl ?_; (omega); (omega))
    refine WR.move rfl rfl ?_
    refine WR.nil ?_
    exact WN.loop (m - 1) (j + 1) (by omega) ⟨kint rfl (by omega), rfl, rfl, rfl, rfl, trivial⟩ ⟨by omega, h⟩
  · skip
    simp only [decide_eq_false_iff_not, Int.not_lt] at h42
    obtain rfl : j = 32 := by omega
    refine WC.exit rfl ?_
    refine WN.endR rfl rfl ?_
    exact h.done

set_option maxHeartbeats 400000 in
theorem unpk4 (p : UP) {w : World} (h : UIn p 4 w) :
    Ret Tryz.prog 87 #[.iface 120 (.pointer (some ⟨p.rb, p.rb.off, none⟩)), .slice (some ⟨p.g, p.o, none⟩) p.dl p.dc] w (unpR p 4 w) := by
  refine Ret.enter (vs := [.iface 120 (.pointer (some ⟨p.rb, p.rb.off, none⟩)), .slice (some ⟨p.g, p.o, none⟩) p.dl p.dc]) Tryz.func87 Tryz.ntmps87 rfl rfl ?_
  refine WC.seq (WC.region ?_)
  refine WR.alloc zvU rfl rfl ?_
  intro w1 hn _
  refine WR.nil ?_
  replace h := US.start h hn
  refine WN.weak (L3 p w.heap.size) ⟨rfl, rfl, rfl, trivial⟩ ?_
  clear hn
  revert h; generalize w.heap.size = b; intro h
  refine WN.seq (WC.seq ?_)
  refine WC.weak (L3 p b) ⟨rfl, rfl, rfl, trivial⟩ ?_
  refine unpD 0 4 h (by decide) rfl rfl rfl rfl fun w1 h => WN.seq (WC.seq ?_)
  refine WC.seq (WC.region ?_)
  refine WR.assign rfl rfl ?_
  refine WR.nil (WN.seq (WC.block ?_))
  refine WC.loop (fun j : Nat => (5, .int .i64 ((4 * j : Nat) : Int)) :: L3 p b) (fun m j w' => j + m = 7 ∧ US p 4 w b w' (0 + j) 4 (bts p.E 0 32) 0) 7 0 ⟨rfl, rfl, rfl, rfl, trivial⟩ ⟨rfl, h⟩ ?_
  clear h
  rintro m j w1 ⟨hm, h⟩
  refine WC.seq (WC.seq (WC.region ?_))
  refine WR.move rfl rfl ?_
  refine WR.bin rfl rfl rfl rfl ?_
  refine WR.nil (WN.seq ?_)
  refine WC.cond rfl (fun h129 => ?_) (fun h129 => ?_)
  · skip
    simp only [decide_eq_true_eq] at h129
    refine WC.skip (WN.seq ?_)
    refine WC.seq (WC.block (WC.region ?_))
    have hfit := h.fit
    obtain ⟨F, hF, -, hc2, -⟩ := h.row
    refine WR.move rfl rfl ?_
    refine WR.move rfl rfl ?_
    refine WR.bin rfl rfl (ar_quo (z := ((j : Nat) : Int)) (by decide) (by rw [tdiv_pos (by omega), wrap_i64 (by omega) (by omega)]; omega)) rfl ?_
    refine WR.load rfl Tryz.underlying109 rfl (h.word.cell (i := 0) (by decide)) rfl ?_
    refine WR.move rfl rfl ?_
    refine WR.shr (z := ((bts p.E (0) 32 / 2 ^ (4 * j) : Nat) : Int)) rfl rfl (by omega) (shr32 (s := 4 * j) (by omega) (by omega)) rfl ?_
    refine WR.bin rfl rfl (ar_rem (z := ((bts p.E (4 * (0 + j)) 4 : Nat) : Int)) (by decide) (u_val rfl (by omega) (by omega))) rfl ?_
    refine WR.idxK (0 + j) rfl rfl Tryz.underlying156 sz109 (by omega) (by omega) rfl ?_
    refine WR.storeK rfl rfl rfl sz109 (hF.cell (by omega)) (hF.fz _) ?_
    intro w1 hn _
    refine WR.nil ?_
    clear hc2
    replace h := h.set hn rfl (by omega)
    clear hn hF F hfit
    replace h := h.next (by decide)
    refine WN.block (WN.seq (WC.region ?_))
    refine WR.move rfl rfl ?_
    (refine WR.bin rfl rfl (ar_add (wrap_i64 ?_ ?_)) rfl ?_; (omega); (omega))
    refine WR.assign rfl rfl ?_
    refine WR.nil ?_
    exact WN.loop (m - 1) (j + 1) (by omega) ⟨kint rfl (by omega), rfl, rfl, rfl, trivial⟩ ⟨by omega, h⟩
  · skip
    simp only [decide_eq_false_iff_not, Int.not_lt] at h129
    obtain rfl : j = 7 := by omega
    refine WC.exit rfl ?_
    refine WN.seq (WC.seq ?_)
    refine WC.weak (L3 p b) ⟨rfl, rfl, rfl, trivial⟩ ?_
    refine unpB 28 4 h rfl rfl (by decide) rfl (by decide) (by decide) rfl rfl ?_
    intro w1 h
    replace h := h.next (by decide)
    refine WN.seq (WC.seq ?_)
    refine WC.weak (L3 p b) ⟨rfl, rfl, rfl, trivial⟩ ?_
    refine unpD 32 8 h (by decide) rfl rfl rfl rfl fun w1 h => WN.seq (WC.seq ?_)
    refine WC.seq (WC.region ?_)
    refine WR.assign rfl rfl ?_
    refine WR.nil (WN.seq (WC.block ?_))
    refine WC.loop (fun j : Nat => (6, .int .i64 ((4 * j : Nat) : Int)) :: L3 p b) (fun m j w' => j + m = 7 ∧ US p 4 w b w' (8 + j) 8 (bts p.E 32 32) 0) 7 0 ⟨rfl, rfl, rfl, rfl, trivial⟩ ⟨rfl, h⟩ ?_
    clear h
    rintro m j w2 ⟨hm, h⟩
    refine WC.seq (WC.seq (WC.region ?_))
    refine WR.move rfl rfl ?_
    refine WR.bin rfl rfl rfl rfl ?_
    refine WR.nil (WN.seq ?_)
    refine WC.cond rfl (fun h134 => ?_) (fun h134 => ?_)
    · skip
      simp only [decide_eq_true_eq] at h134
      refine WC.skip (WN.seq ?_)
      refine WC.seq (WC.block (WC.region ?_))
      have hfit := h.fit
      obtain ⟨F, hF, -, hc2, -⟩ := h.row
      refine WR.move rfl rfl ?_
      refine WR.move rfl rfl ?_
      refine WR.bin rfl rfl (ar_quo (z := ((j : Nat) : Int)) (by decide) (by rw [tdiv_pos (by omega), wrap_i64 (by omega) (by omega)]; omega)) rfl ?_
      (refine WR.bin rfl rfl (ar_add (wrap_i64 ?_ ?_)) rfl ?_; (omega); (omega))
      refine WR.load rfl Tryz.underlying109 rfl (h.word.cell (i := 0) (by decide)) rfl ?_
      refine WR.move rfl rfl ?_
      refine WR.shr (z := ((bts p.E (32) 32 / 2 ^ (4 * j) : Nat) : Int)) rfl rfl (by omega) (shr32 (s := 4 * j) (by omega) (by omega)) rfl ?_
      refine WR.bin rfl rfl (ar_rem (z := ((bts p.E (4 * (8 + j)) 4 : Nat) : Int)) (by decide) (u_val rfl (by omega) (by omega))) rfl ?_
      refine WR.idxK (8 + j) rfl rfl Tryz.underlying156 sz109 (by omega) (by omega) rfl ?_
      refine WR.storeK rfl rfl rfl sz109 (hF.cell (by omega)) (hF.fz _) ?_
      intro w1 hn _
      refine WR.nil ?_
      clear hc2
      replace h := h.set hn rfl (by omega)
      clear hn hF F hfit
      replace h := h.next (by decide)
      refine WN.block (WN.seq (WC.region ?_))
      refine WR.move rfl rfl ?_
      (refine WR.bin rfl rfl (ar_add (wrap_i64 ?_ ?_)) rfl ?_; (omega); (omega))
      refine WR.assign rfl rfl ?_
      refine WR.nil ?_
      exact WN.loop (m - 1) (j + 1) (by omega) ⟨kint rfl (by omega), rfl, rfl, rfl, trivial⟩ ⟨by omega, h⟩
    · skip
      simp only [decide_eq_false_iff_not, Int.not_lt] at h134
      obtain rfl : j = 7 := by omega
      refine WC.exit rfl ?_
      refine WN.seq (WC.seq ?_)
      refine WC.weak (L3 p b) ⟨rfl, rfl, rfl, trivial⟩ ?_
      refine unpB 28 4 h rfl rfl (by decide) rfl (by decide) (by decide) rfl rfl ?_
      intro w1 h
      replace h := h.next (by decide)
      refine WN.seq (WC.seq ?_)
      refine WC.weak (L3 p b) ⟨rfl, rfl, rfl, trivial⟩ ?_
      refine unpD 64 12 h (by decide) rfl rfl rfl rfl fun w1 h => WN.seq (WC.seq ?_)
      refine WC.seq (WC.region ?_)
      refine WR.assign rfl rfl ?_
      refine WR.nil (WN.seq (WC.block ?_))
      refine WC.loop (fun j : Nat => (7, .int .i64 ((4 * j : Nat) : Int)) :: L3 p b) (fun m j w' => j + m = 7 ∧ US p 4 w b w' (16 + j) 12 (bts p.E 64 32) 0) 7 0 ⟨rfl, rfl, rfl, rfl, trivial⟩ ⟨rfl, h⟩ ?_
      clear h
      rintro m j w3 ⟨hm, h⟩
      refine WC.seq (WC.seq (WC.region ?_))
      refine WR.move rfl rfl ?_
      refine WR.bin rfl rfl rfl rfl ?_
      refine WR.nil (WN.seq ?_)
      refine WC.cond rfl (fun h139 => ?_) (fun h139 => ?_)
      · skip
        simp only [decide_eq_true_eq] at h139
        refine WC.skip (WN.seq ?_)
        refine WC.seq (WC.block (WC.region ?_))
        have hfit := h.fit
        obtain ⟨F, hF, -, hc2, -⟩ := h.row
        refine WR.move rfl rfl ?_
        refine WR.move rfl rfl ?_
        refine WR.bin rfl rfl (ar_quo (z := ((j : Nat) : Int)) (by decide) (by rw [tdiv_pos (by omega), wrap_i64 (by omega) (by omega)]; omega)) rfl ?_
        (refine WR.bin rfl rfl (ar_add (wrap_i64 ?_ ?_)) rfl ?_; (omega); (omega))
        refine WR.load rfl Tryz.underlying109 rfl (h.word.cell (i := 0) (by decide)) rfl ?_
        refine WR.move rfl rfl ?_
        refine WR.shr (z := ((bts p.E (64) 32 / 2 ^ (4 * j) : Nat) : Int)) rfl rfl (by omega) (shr32 (s := 4 * j) (by omega) (by omega)) rfl ?_
        refine WR.bin rfl rfl (ar_rem (z := ((bts p.E (4 * (16 + j)) 4 : Nat) : Int)) (by decide) (u_val rfl (by omega) (by omega))) rfl ?_
        refine WR.idxK (16 + j) rfl rfl Tryz.underlying156 sz109 (by omega) (by omega) rfl ?_
        refine WR.storeK rfl rfl rfl sz109 (hF.cell (by omega)) (hF.fz _) ?_
        intro w1 hn _
        refine WR.nil ?_
        clear hc2
        replace h := h.set hn rfl (by omega)
        clear hn hF F hfit
        replace h := h.next (by decide)
        refine WN.block (WN.seq (WC.region ?_))
        refine WR.move rfl rfl ?_
        (refine WR.bin rfl rfl (ar_add (wrap_i64 ?_ ?_)) rfl ?_; (omega); (omega))
        refine WR.assign rfl rfl ?_
        refine WR.nil ?_
        exact WN.loop (m - 1) (j + 1) (by omega) ⟨kint rfl (by omega), rfl, rfl, rfl, trivial⟩ ⟨by omega, h⟩
      · skip
        simp only [decide_eq_false_iff_not, Int.not_lt] at h139
        obtain rfl : j = 7 := by omega
        refine WC.exit rfl ?_
        refine WN.seq (WC.seq ?_)
        refine WC.weak (L3 p b) ⟨rfl, rfl, rfl, trivial⟩ ?_
        refine unpB 28 4 h rfl rfl (by decide) rfl (by decide) (by decide) rfl rfl ?_
        intro w1 h
        replace h := h.next (by decide)
        refine WN.seq (WC.seq ?_)
        refine WC.weak (L3 p b) ⟨rfl, rfl, rfl, trivial⟩ ?_
        refine unpD 96 16 h (by decide) rfl rfl rfl rfl fun w1 h => WN.seq (WC.seq ?_)
        refine WC.seq (WC.region ?_)
        refine WR.assign rfl rfl ?_
        refine WR.nil (WN.seq (WC.block ?_))
        refine WC.loop (fun j : Nat => (8, .int .i64 ((4 * j : Nat) : Int)) :: L3 p b) (fun m j w' => j + m = 7 ∧ US p 4 w b w' (24 + j) 16 (bts p.E 96 32) 0) 7 0 ⟨rfl, rfl, rfl, rfl, trivial⟩ ⟨rfl, h⟩ ?_
        clear h
        rintro m j w4 ⟨hm, h⟩
        refine WC.seq (WC.seq (WC.region ?_))
        refine WR.move rfl rfl ?_
        refine WR.bin rfl rfl rfl rfl ?_
        refine WR.nil (WN.seq ?_)
        refine WC.cond rfl (fun h144 => ?_) (fun h144 => ?_)
        · skip
          simp only [decide_eq_true_eq] at h144
          refine WC.skip (WN.seq ?_)
          refine WC.seq (WC.block (WC.region ?_))
          have hfit := h.fit
          obtain ⟨F, hF, -, hc2, -⟩ := h.row
          refine WR.move rfl rfl ?_
          refine WR.move rfl rfl ?_
          refine WR.bin rfl rfl (ar_quo (z := ((j : Nat) : Int)) (by decide) (by rw [tdiv_pos (by omega), wrap_i64 (by omega) (by omega)]; omega)) rfl ?_
          (refine WR.bin rfl rfl (ar_add (wrap_i64 ?_ ?_)) rfl ?_; (omega); (omega))
          refine WR.load rfl Tryz.underlying109 rfl (h.word.cell (i := 0) (by decide)) rfl ?_
          refine WR.move rfl rfl ?_
          refine WR.shr (z := ((bts p.E (96) 32 / 2 ^ (4 * j) : Nat) : Int)) rfl rfl (by omega) (shr32 (s := 4 * j) (by omega) (by omega)) rfl ?_
          refine WR.bin rfl rfl (ar_rem (z := ((bts p.E (4 * (24 + j)) 4 : Nat) : Int)) (by decide) (u_val rfl (by omega) (by omega))) rfl ?_
          refine WR.idxK (24 + j) rfl rfl Tryz.underlying156 sz109 (by omega) (by omega) rfl ?_
          refine WR.storeK rfl rfl rfl sz109 (hF.cell (by omega)) (hF.fz _) ?_
          intro w1 hn _
          refine WR.nil ?_
          clear hc2
          replace h := h.set hn rfl (by omega)
          clear hn hF F hfit
          replace h := h.next (by decide)
          refine WN.block (WN.seq (WC.region ?_))
          refine WR.move rfl rfl ?_
          (refine WR.bin rfl rfl (ar_add (wrap_i64 ?_ ?_)) rfl ?_; (omega); (omega))
          refine WR.assign rfl rfl ?_
          refine WR.nil ?_
          exact WN.loop (m - 1) (j + 1) (by omega) ⟨kint rfl (by omega), rfl, rfl, rfl, trivial⟩ ⟨by omega, h⟩
        · skip
          simp only [decide_eq_false_iff_not, Int.not_lt] at h144
          obtain rfl : j = 7 := by omega
          refine WC.exit rfl ?_
          refine WN.seq ?_
          refine WC.weak (L3 p b) ⟨rfl, rfl, rfl, trivial⟩ ?_
          refine unpB 28 4 h rfl rfl (by decide) rfl (by decide) (by decide) rfl rfl ?_
          intro w1 h
          replace h := h.next (by decide)
          refine WN.endR rfl rfl ?_
          exact h.done

set_option maxHeartbeats 400000 in
theorem unpk8 (p : UP) {w : World} (h : UIn p 8 w) :
    Ret Tryz.prog 91 #[.iface 120 (.pointer (some ⟨p.rb, p.rb.off, none⟩)), .slice (some ⟨p.g, p.o, none⟩) p.dl p.dc] w (unpR p 8 w) := by
  refine Ret.enter (vs := [.iface 120 (.pointer (some ⟨p.rb, p.rb.off, none⟩)), .slice (some ⟨p.g, p.o, none⟩) p.dl p.dc]) Tryz.func91 Tryz.ntmps91 rfl rfl ?_
  refine WC.seq (WC.region ?_)
  refine WR.alloc zvU rfl rfl ?_
  intro w1 hn _
  refine WR.nil ?_
  replace h := US.start h hn
  refine WN.weak (L3 p w.heap.size) ⟨rfl, rfl, rfl, trivial⟩ ?_
  clear hn
  revert h; generalize w.heap.size = b; intro h
  refine WN.seq (WC.seq ?_)
  refine WC.weak (L3 p b) ⟨rfl, rfl, rfl, trivial⟩ ?_
  refine unpD 0 4 h (by decide) rfl rfl rfl rfl fun w1 h => WN.seq (WC.seq ?_)
  refine WC.seq (WC.region ?_)
  refine WR.assign rfl rfl ?_
  refine WR.nil (WN.seq (WC.block ?_))
  refine WC.loop (fun j : Nat => (5, .int .i64 ((8 * j : Nat) : Int)) :: L3 p b) (fun m j w' => j + m = 3 ∧ US p 8 w b w' (0 + j) 4 (bts p.E 0 32) 0) 3 0 ⟨rfl, rfl, rfl, rfl, trivial⟩ ⟨rfl, h⟩ ?_
  clear h
  rintro m j w1 ⟨hm, h⟩
  refine WC.seq (WC.seq (WC.region ?_))
  refine WR.move rfl rfl ?_
  refine WR.bin rfl rfl rfl rfl ?_
  refine WR.nil (WN.seq ?_)
  refine WC.cond rfl (fun h293 => ?_) (fun h293 => ?_)
  · skip
    simp only [decide_eq_true_eq] at h293
    refine WC.skip (WN.seq ?_)
    refine WC.seq (WC.block (WC.region ?_))
    have hfit := h.fit
    obtain ⟨F, hF, -, hc2, -⟩ := h.row
    refine WR.move rfl rfl ?_
    refine WR.move rfl rfl ?_
    refine WR.bin rfl rfl (ar_quo (z := ((j : Nat) : Int)) (by decide) (by rw [tdiv_pos (by omega), wrap_i64 (by omega) (by omega)]; omega)) rfl ?_
    (refine WR.bin rfl rfl (ar_add (wrap_i64 ?_ ?_)) rfl ?_; (omega); (omega))
    refine WR.load rfl Tryz.underlying109 rfl (h.word.cell (i := 0) (by decide)) rfl ?_
    refine WR.move rfl rfl ?_
    refine WR.shr (z := ((bts p.E (0) 32 / 2 ^ (8 * j) : Nat) : Int)) rfl rfl (by omega) (shr32 (s := 8 * j) (by omega) (by omega)) rfl ?_
    refine WR.bin rfl rfl (ar_rem (z := ((bts p.E (8 * (0 + j)) 8 : Nat) : Int)) (by decide) (u_val rfl (by omega) (by omega))) rfl ?_
    refine WR.idxK (0 + j) rfl rfl Tryz.underlying156 sz109 (by omega) (by omega) rfl ?_
    refine WR.storeK rfl rfl rfl sz109 (hF.cell (by omega)) (hF.fz _) ?_
    intro w1 hn _
    refine WR.nil ?_
    clear hc2
    replace h := h.set hn rfl (by omega)
    clear hn hF F hfit
    replace h := h.next (by decide)
    refine WN.block (WN.seq (WC.region ?_))
    refine WR.move rfl rfl ?_
    (refine WR.bin rfl rfl (ar_add (wrap_i64 ?_ ?_)) rfl ?_; (omega); (omega))
    refine WR.assign rfl rfl ?_
    refine WR.nil ?_
    exact WN.loop (m - 1) (j + 1) (by omega) ⟨kint rfl (by omega), rfl, rfl, rfl, trivial⟩ ⟨by omega, h⟩
  · skip
    simp only [decide_eq_false_iff_not, Int.not_lt] at h293
    obtain rfl : j = 3 := by omega
    refine WC.exit rfl ?_
    refine WN.seq (WC.seq ?_)
    refine WC.weak (L3 p b) ⟨rfl, rfl, rfl, trivial⟩ ?_
    refine unpB 24 8 h rfl rfl (by decide) rfl (by decide) (by decide) rfl rfl ?_
    intro w1 h
    replace h := h.next (by decide)
    refine WN.seq (WC.seq ?_)
    refine WC.weak (L3 p b) ⟨rfl, rfl, rfl, trivial⟩ ?_
    refine unpD 32 8 h (by decide) rfl rfl rfl rfl fun w1 h => WN.seq (WC.seq ?_)
    refine WC.seq (WC.region ?_)
    refine WR.assign rfl rfl ?_
    refine WR.nil (WN.seq (WC.block ?_))
    refine WC.loop (fun j : Nat => (6, .int .i64 ((8 * j : Nat) : Int)) :: L3 p b) (fun m j w' => j + m = 3 ∧ US p 8 w b w' (4 + j) 8 (bts p.E 32 32) 0) 3 0 ⟨rfl, rfl, rfl, rfl, trivial⟩ ⟨rfl, h⟩ ?_
    clear h
    rintro m j w2 ⟨hm, h⟩
    refine WC.seq (WC.seq (WC.region ?_))
    refine WR.move rfl rfl ?_
    refine WR.bin rfl rfl rfl rfl ?_
    refine WR.nil (WN.seq ?_)
    refine WC.cond rfl (fun h298 => ?_) (fun h298 => ?_)
    · skip
      simp only [decide_eq_true_eq] at h298
      refine WC.skip (WN.seq ?_)
      refine WC.seq (WC.block (WC.region ?_))
      have hfit := h.fit
      obtain ⟨F, hF, -, hc2, -⟩ := h.row
      refine WR.move rfl rfl ?_
      refine WR.move rfl rfl ?_
      refine WR.bin rfl rfl (ar_quo (z := ((j : Nat) : Int)) (by decide) (by rw [tdiv_pos (by omega), wrap_i64 (by omega) (by omega)]; omega)) rfl ?_
      (refine WR.bin rfl rfl (ar_add (wrap_i64 ?_ ?_)) rfl ?_; (omega); (omega))
      refine WR.load rfl Tryz.underlying109 rfl (h.word.cell (i := 0) (by decide)) rfl ?_
      refine WR.move rfl rfl ?_
      refine WR.shr (z := ((bts p.E (32) 32 / 2 ^ (8 * j) : Nat) : Int)) rfl rfl (by omega) (shr32 (s := 8 * j) (by omega) (by omega)) rfl ?_
      refine WR.bin rfl rfl (ar_rem (z := ((bts p.E (8 * (4 + j)) 8 : Nat) : Int)) (by decide) (u_val rfl (by omega) (by omega))) rfl ?_
      refine WR.idxK (4 + j) rfl rfl Tryz.underlying156 sz109 (by omega) (by omega) rfl ?_
      refine WR.storeK rfl rfl rfl sz109 (hF.cell (by omega)) (hF.fz _) ?_
      intro w1 hn _
      refine WR.nil ?_
      clear hc2
      replace h := h.set hn rfl (by omega)
      clear hn hF F hfit
      replace h := h.next (by decide)
      refine WN.block (WN.seq (WC.region ?_))
      refine WR.move rfl rfl ?_
      (refine WR.bin rfl rfl (ar_add (wrap_i64 ?_ ?_)) rfl ?_; (omega); (omega))
      refine WR.assign rfl rfl ?_
      refine WR.nil ?_
      exact WN.loop (m - 1) (j + 1) (by omega) ⟨kint rfl (by omega), rfl, rfl, rfl, trivial⟩ ⟨by omega, h⟩
    · skip
      simp only [decide_eq_false_iff_not, Int.not_lt] at h298
      obtain rfl : j = 3 := by omega
      refine WC.exit rfl ?_
      refine WN.seq (WC.seq ?_)
      refine WC.weak (L3 p b) ⟨rfl, rfl, rfl, trivial⟩ ?_
      refine unpB 24 8 h rfl rfl (by decide) rfl (by decide) (by decide) rfl rfl ?_
      intro w1 h
      replace h := h.next (by decide)
      refine WN.seq (WC.seq ?_)
      refine WC.weak (L3 p b) ⟨rfl, rfl, rfl, trivial⟩ ?_
      refine unpD 64 12 h (by decide) rfl rfl rfl rfl fun w1 h => WN.seq (WC.seq ?_)
      refine WC.seq (WC.region ?_)
      refine WR.assign rfl rfl ?_
      refine WR.nil (WN.seq (WC.block ?_))
      refine WC.loop (fun j : Nat => (7, .int .i64 ((8 * j : Nat) : Int)) :: L3 p b) (fun m j w' => j + m = 3 ∧ US p 8 w b w' (8 + j) 12 (bts p.E 64 32) 0) 3 0 ⟨rfl, rfl, rfl, rfl, trivial⟩ ⟨rfl, h⟩ ?_
      clear h
      rintro m j w3 ⟨hm, h⟩
      refine WC.seq (WC.seq (WC.region ?_))
      refine WR.move rfl rfl ?_
      refine WR.bin rfl rfl rfl rfl ?_
      refine WR.nil (WN.seq ?_)
      refine WC.cond rfl (fun h303 => ?_) (fun h303 => ?_)
      · skip
        simp only [decide_eq_true_eq] at h303
        refine WC.skip (WN.seq ?_)
        refine WC.seq (WC.block (WC.region ?_))
        have hfit := h.fit
        obtain ⟨F, hF, -, hc2, -⟩ := h.row
        refine WR.move rfl rfl ?_
        refine WR.move rfl rfl ?_
        refine WR.bin rfl rfl (ar_quo (z := ((j : Nat) : Int)) (by decide) (by rw [tdiv_pos (by omega), wrap_i64 (by omega) (by omega)]; omega)) rfl ?_
        (refine WR.bin rfl rfl (ar_add (wrap_i64 ?_ ?_)) rfl ?_; (omega); (omega))
        refine WR.load rfl Tryz.underlying109 rfl (h.word.cell (i := 0) (by decide)) rfl ?_
        refine WR.move rfl rfl ?_
        refine WR.shr (z := ((bts p.E (64) 32 / 2 ^ (8 * j) : Nat) : Int)) rfl rfl (by omega) (shr32 (s := 8 * j) (by omega) (by omega)) rfl ?_
        refine WR.bin rfl rfl (ar_rem (z := ((bts p.E (8 * (8 + j)) 8 : Nat) : Int)) (by decide) (u_val rfl (by omega) (by omega))) rfl ?_
        refine WR.idxK (8 + j) rfl rfl Tryz.underlying156 sz109 (by omega) (by omega) rfl ?_
        refine WR.storeK rfl rfl rfl sz109 (hF.cell (by omega)) (hF.fz _) ?_
        intro w1 hn _
        refine WR.nil ?_
        clear hc2
        replace h := h.set hn rfl (by omega)
        clear hn hF F hfit
        replace h := h.next (by decide)
        refine WN.block (WN.seq (WC.region ?_))
        refine WR.move rfl rfl ?_
        (refine WR.bin rfl rfl (ar_add (wrap_i64 ?_ ?_)) rfl ?_; (omega); (omega))
        refine WR.assign rfl rfl ?_
        refine WR.nil ?_
        exact WN.loop (m - 1) (j + 1) (by omega) ⟨kint rfl (by omega), rfl, rfl, rfl, trivial⟩ ⟨by omega, h⟩
      · skip
        simp only [decide_eq_false_iff_not, Int.not_lt] at h303
        obtain rfl : j = 3 := by omega
        refine WC.exit rfl ?_
        refine WN.seq (WC.seq ?_)
        refine WC.weak (L3 p b) ⟨rfl, rfl, rfl, trivial⟩ ?_
        refine unpB 24 8 h rfl rfl (by decide) rfl (by decide) (by decide) rfl rfl ?_
        intro w1 h
        replace h := h.next (by decide)
        refine WN.seq (WC.seq ?_)
        refine WC.weak (L3 p b) ⟨rfl, rfl, rfl, trivial⟩ ?_
        refine unpD 96 16 h (by decide) rfl rfl rfl rfl fun w1 h => WN.seq (WC.seq ?_)
        refine WC.seq (WC.region ?_)
        refine WR.assign rfl rfl ?_
        refine WR.nil (WN.seq (WC.block ?_))
        refine WC.loop (fun j : Nat => (8, .int .i64 ((8 * j : Nat) : Int)) :: L3 p b) (fun m j w' => j + m = 3 ∧ US p 8 w b w' (12 + j) 16 (bts p.E 96 32) 0) 3 0 ⟨rfl, rfl, rfl, rfl, trivial⟩ ⟨rfl, h⟩ ?_
        clear h
        rintro m j w4 ⟨hm, h⟩
        refine WC.seq (WC.seq (WC.region ?_))
        refine WR.move rfl rfl ?_
        refine WR.bin rfl rfl rfl rfl ?_
        refine WR.nil (WN.seq ?_)
        refine WC.cond rfl (fun h308 => ?_) (fun h308 => ?_)
        · skip
          simp only [decide_eq_true_eq] at h308
          refine WC.skip (WN.seq ?_)
          refine WC.seq (WC.block (WC.region ?_))
          have hfit := h.fit
          obtain ⟨F, hF, -, hc2, -⟩ := h.row
          refine WR.move rfl rfl ?_
          refine WR.move rfl rfl ?_
          refine WR.bin rfl rfl (ar_quo (z := ((j : Nat) : Int)) (by decide) (by rw [tdiv_pos (by omega), wrap_i64 (by omega) (by omega)]; omega)) rfl ?_
          (refine WR.bin rfl rfl (ar_add (wrap_i64 ?_ ?_)) rfl ?_; (omega); (omega))
          refine WR.load rfl Tryz.underlying109 rfl (h.word.cell (i := 0) (by decide)) rfl ?_
          refine WR.move rfl rfl ?_
          refine WR.shr (z := ((bts p.E (96) 32 / 2 ^ (8 * j) : Nat) : Int)) rfl rfl (by omega) (shr32 (s := 8 * j) (by omega) (by omega)) rfl ?_
          refine WR.bin rfl rfl (ar_rem (z := ((bts p.E (8 * (12 + j)) 8 : Nat) : Int)) (by decide) (u_val rfl (by omega) (by omega))) rfl ?_
          refine WR.idxK (12 + j) rfl rfl Tryz.underlying156 sz109 (by omega) (by omega) rfl ?_
          refine WR.storeK rfl rfl rfl sz109 (hF.cell (by omega)) (hF.fz _) ?_
          intro w1 hn _
          refine WR.nil ?_
          clear hc2
          replace h := h.set hn rfl (by omega)
          clear hn hF F hfit
          replace h := h.next (by decide)
          refine WN.block (WN.seq (WC.region ?_))
          refine WR.move rfl rfl ?_
          (refine WR.bin rfl rfl (ar_add (wrap_i64 ?_ ?_)) rfl ?_; (omega); (omega))
          refine WR.assign rfl rfl ?_
          refine WR.nil ?_
          exact WN.loop (m - 1) (j + 1) (by omega) ⟨kint rfl (by omega), rfl, rfl, rfl, trivial⟩ ⟨by omega, h⟩
        · skip
          simp only [decide_eq_false_iff_not, Int.not_lt] at h308
          obtain rfl : j = 3 := by omega
          refine WC.exit rfl ?_
          refine WN.seq (WC.seq ?_)
          refine WC.weak (L3 p b) ⟨rfl, rfl, rfl, trivial⟩ ?_
          refine unpB 24 8 h rfl rfl (by decide) rfl (by decide) (by decide) rfl rfl ?_
          intro w1 h
          replace h := h.next (by decide)
          refine WN.seq (WC.seq ?_)
          refine WC.weak (L3 p b) ⟨rfl, rfl, rfl, trivial⟩ ?_
          refine unpD 128 20 h (by decide) rfl rfl rfl rfl fun w1 h => WN.seq (WC.seq ?_)
          refine WC.seq (WC.region ?_)
          refine WR.assign rfl rfl ?_
          refine WR.nil (WN.seq (WC.block ?_))
          refine WC.loop (fun j : Nat => (9, .int .i64 ((8 * j : Nat) : Int)) :: L3 p b) (fun m j w' => j + m = 3 ∧ US p 8 w b w' (16 + j) 20 (bts p.E 128 32) 0) 3 0 ⟨rfl, rfl, rfl, rfl, trivial⟩ ⟨rfl, h⟩ ?_
          clear h
          rintro m j w5 ⟨hm, h⟩
          refine WC.seq (WC.seq (WC.region ?_))
          refine WR.move rfl rfl ?_
          refine WR.bin rfl rfl rfl rfl ?_
          refine WR.nil (WN.seq ?_)
          refine WC.cond rfl (fun h313 => ?_) (fun h313 => ?_)
          · skip
            simp only [decide_eq_true_eq] at h313
            refine WC.skip (WN.seq ?_)
            refine WC.seq (WC.block (WC.region ?_))
            have hfit := h.fit
            obtain ⟨F, hF, -, hc2, -⟩ := h.row
            refine WR.move rfl rfl ?_
            refine WR.move rfl rfl ?_
            refine WR.bin rfl rfl (ar_quo (z := ((j : Nat) : Int)) (by decide) (by rw [tdiv_pos (by omega), wrap_i64 (by omega) (by omega)]; omega)) rfl ?_
            (refine WR.bin rfl rfl (ar_add (wrap_i64 ?_ ?_)) rfl ?_; (omega); (omega))
            refine WR.load rfl Tryz.underlying109 rfl (h.word.cell (i := 0) (by decide)) rfl ?_
            refine WR.move rfl rfl ?_
            refine WR.shr (z := ((bts p.E (128) 32 / 2 ^ (8 * j) : Nat) : Int)) rfl rfl (by omega) (shr32 (s := 8 * j) (by omega) (by omega)) rfl ?_
            refine WR.bin rfl rfl (ar_rem (z := ((bts p.E (8 * (16 + j)) 8 : Nat) : Int)) (by decide) (u_val rfl (by omega) (by omega))) rfl ?_
            refine WR.idxK (16 + j) rfl rfl Tryz.underlying156 sz109 (by omega) (by omega) rfl ?_
            refine WR.storeK rfl rfl rfl sz109 (hF.cell (by omega)) (hF.fz _) ?_
            intro w1 hn _
            refine WR.nil ?_
            clear hc2
            replace h := h.set hn rfl (by omega)
            clear hn hF F hfit
            replace h := h.next (by decide)
            refine WN.block (WN.seq (WC.region ?_))
            refine WR.move rfl rfl ?_
            (refine WR.bin rfl rfl (ar_add (wrap_i64 ?_ ?_)) rfl ?_; (omega); (omega))
            refine WR.assign rfl rfl ?_
            refine WR.nil ?_
            exact WN.loop (m - 1) (j + 1) (by omega) ⟨kint rfl (by omega), rfl, rfl, rfl, trivial⟩ ⟨by omega, h⟩
          · skip
            simp only [decide_eq_false_iff_not, Int.not_lt] at h313
            obtain rfl : j = 3 := by omega
            refine WC.exit rfl ?_
            refine WN.seq (WC.seq ?_)
            refine WC.weak (L3 p b) ⟨rfl, rfl, rfl, trivial⟩ ?_
            refine unpB 24 8 h rfl rfl (by decide) rfl (by decide) (by decide) rfl rfl ?_
            intro w1 h
            replace h := h.next (by decide)
            refine WN.seq (WC.seq ?_)
            refine WC.weak (L3 p b) ⟨rfl, rfl, rfl, trivial⟩ ?_
            refine unpD 160 24 h (by decide) rfl rfl rfl rfl fun w1 h => WN.seq (WC.seq ?_)
            refine WC.seq (WC.region ?_)
            refine WR.assign rfl rfl ?_
            refine WR.nil (WN.seq (WC.block ?_))
            refine WC.loop (fun j : Nat => (10, .int .i64 ((8 * j : Nat) : Int)) :: L3 p b) (fun m j w' => j + m = 3 ∧ US p 8 w b w' (20 + j) 24 (bts p.E 160 32) 0) 3 0 ⟨rfl, rfl, rfl, rfl, trivial⟩ ⟨rfl, h⟩ ?_
            clear h
            rintro m j w6 ⟨hm, h⟩
            refine WC.seq (WC.seq (WC.region ?_))
            refine WR.move rfl rfl ?_
            refine WR.bin rfl rfl rfl rfl ?_
            refine WR.nil (WN.seq ?_)
            refine WC.cond rfl (fun h318 => ?_) (fun h318 => ?_)
            · skip
              simp only [decide_eq_true_eq] at h318
              refine WC.skip (WN.seq ?_)
              refine WC.seq (WC.block (WC.region ?_))
              have hfit := h.fit
              obtain ⟨F, hF, -, hc2, -⟩ := h.row
              refine WR.move rfl rfl ?_
              refine WR.move rfl rfl ?_
              refine WR.bin rfl rfl (ar_quo (z := ((j : Nat) : Int)) (by decide) (by rw [tdiv_pos (by omega), wrap_i64 (by omega) (by omega)]; omega)) rfl ?_
              (refine WR.bin rfl rfl (ar_add (wrap_i64 ?_ ?_)) rfl ?_; (omega); (omega))
              refine WR.load rfl Tryz.underlying109 rfl (h.word.cell (i := 0) (by decide)) rfl ?_
              refine WR.move rfl rfl ?_
              refine WR.shr (z := ((bts p.E (160) 32 / 2 ^ (8 * j) : Nat) : Int)) rfl rfl (by omega) (shr32 (s := 8 * j) (by omega) (by omega)) rfl ?_
              refine WR.bin rfl rfl (ar_rem (z := ((bts p.E (8 * (20 + j)) 8 : Nat) : Int)) (by decide) (u_val rfl (by omega) (by omega))) rfl ?_
              refine WR.idxK (20 + j) rfl rfl Tryz.underlying156 sz109 (by omega) (by omega) rfl ?_
              refine WR.storeK rfl rfl rfl sz109 (hF.cell (by omega)) (hF.fz _) ?_
              intro w1 hn _
              refine WR.nil ?_
              clear hc2
              replace h := h.set hn rfl (by omega)
              clear hn hF F hfit
              replace h := h.next (by decide)
              refine WN.block (WN.seq (WC.region ?_))
              refine WR.move rfl rfl ?_
              (refine WR.bin rfl rfl (ar_add (wrap_i64 ?_ ?_)) rfl ?_; (omega); (omega))
              refine WR.assign rfl rfl ?_
              refine WR.nil ?_
              exact WN.loop (m - 1) (j + 1) (by omega) ⟨kint rfl (by omega), rfl, rfl, rfl, trivial⟩ ⟨by omega, h⟩
            · skip
              simp only [decide_eq_false_iff_not, Int.not_lt] at h318
              obtain rfl : j = 3 := by omega
              refine WC.exit rfl ?_
              refine WN.seq (WC.seq ?_)
              refine WC.weak (L3 p b) ⟨rfl, rfl, rfl, trivial⟩ ?_
              refine unpB 24 8 h rfl rfl (by decide) rfl (by decide) (by decide) rfl rfl ?_
              intro w1 h
              replace h := h.next (by decide)
              refine WN.seq (WC.seq ?_)
              refine WC.weak (L3 p b) ⟨rfl, rfl, rfl, trivial⟩ ?_
              refine unpD 192 28 h (by decide) rfl rfl rfl rfl fun w1 h => WN.seq (WC.seq ?_)
              refine WC.seq (WC.region ?_)
              refine WR.assign rfl rfl ?_
              refine WR.nil (WN.seq (WC.block ?_))
              refine WC.loop (fun j : Nat => (11, .int .i64 ((8 * j : Nat) : Int)) :: L3 p b) (fun m j w' => j + m = 3 ∧ US p 8 w b w' (24 + j) 28 (bts p.E 192 32) 0) 3 0 ⟨rfl, rfl, rfl, rfl, trivial⟩ ⟨rfl, h⟩ ?_
              clear h
              rintro m j w7 ⟨hm, h⟩
              refine WC.seq (WC.seq (WC.region ?_))
              refine WR.move rfl rfl ?_
              refine WR.bin rfl rfl rfl rfl ?_
              refine WR.nil (WN.seq ?_)
              refine WC.cond rfl (fun h323 => ?_) (fun h323 => ?_)
              · skip
                simp only [decide_eq_true_eq] at h323
                refine WC.skip (WN.seq ?_)
                refine WC.seq (WC.block (WC.region ?_))
                have hfit := h.fit
                obtain ⟨F, hF, -, hc2, -⟩ := h.row
                refine WR.move rfl rfl ?_
                refine WR.move rfl rfl ?_
                refine WR.bin rfl rfl (ar_quo (z := ((j : Nat) : Int)) (by decide) (by rw [tdiv_pos (by omega), wrap_i64 (by omega) (by omega)]; omega)) rfl ?_
                (refine WR.bin rfl rfl (ar_add (wrap_i64 ?_ ?_)) rfl ?_; (omega); (omega))
                refine WR.load rfl Tryz.underlying109 rfl (h.word.cell (i := 0) (by decide)) rfl ?_
                refine WR.move rfl rfl ?_
                refine WR.shr (z := ((bts p.E (192) 32 / 2 ^ (8 * j) : Nat) : Int)) rfl rfl (by omega) (shr32 (s := 8 * j) (by omega) (by omega)) rfl ?_
                refine WR.bin rfl rfl (ar_rem (z := ((bts p.E (8 * (24 + j)) 8 : Nat) : Int)) (by decide) (u_val rfl (by omega) (by omega))) rfl ?_
                refine WR.idxK (24 + j) rfl rfl Tryz.underlying156 sz109 (by omega) (by omega) rfl ?_
                refine WR.storeK rfl rfl rfl sz109 (hF.cell (by omega)) (hF.fz _) ?_
                intro w1 hn _
                refine WR.nil ?_
                clear hc2
                replace h := h.set hn rfl (by omega)
                clear hn hF F hfit
                replace h := h.next (by decide)
                refine WN.block (WN.seq (WC.region ?_))
                refine WR.move rfl rfl ?_
                (refine WR.bin rfl rfl (ar_add (wrap_i64 ?_ ?_)) rfl ?_; (omega); (omega))
                refine WR.assign rfl rfl ?_
                refine WR.nil ?_
                exact WN.loop (m - 1) (j + 1) (by omega) ⟨kint rfl (by omega), rfl, rfl, rfl, trivial⟩ ⟨by omega, h⟩
              · skip
                simp only [decide_eq_false_iff_not, Int.not_lt] at h323
                obtain rfl : j = 3 := by omega
                refine WC.exit rfl ?_
                refine WN.seq (WC.seq ?_)
                refine WC.weak (L3 p b) ⟨rfl, rfl, rfl, trivial⟩ ?_
                refine unpB 24 8 h rfl rfl (by decide) rfl (by decide) (by decide) rfl rfl ?_
                intro w1 h
                replace h := h.next (by decide)
                refine WN.seq (WC.seq ?_)
                refine WC.weak (L3 p b) ⟨rfl, rfl, rfl, trivial⟩ ?_
                refine unpD 224 32 h (by decide) rfl rfl rfl rfl fun w1 h => WN.seq (WC.seq ?_)
                refine WC.seq (WC.region ?_)
                refine WR.assign rfl rfl ?_
                refine WR.nil (WN.seq (WC.block ?_))
                refine WC.loop (fun j : Nat => (12, .int .i64 ((8 * j : Nat) : Int)) :: L3 p b) (fun m j w' => j + m = 3 ∧ US p 8 w b w' (28 + j) 32 (bts p.E 224 32) 0) 3 0 ⟨rfl, rfl, rfl, rfl, trivial⟩ ⟨rfl, h⟩ ?_
                clear h
                rintro m j w8 ⟨hm, h⟩
                refine WC.seq (WC.seq (WC.region ?_))
                refine WR.move rfl rfl ?_
                refine WR.bin rfl rfl rfl rfl ?_
                refine WR.nil (WN.seq ?_)
                refine WC.cond rfl (fun h328 => ?_) (fun h328 => ?_)
                · skip
                  simp only [decide_eq_true_eq] at h328
                  refine WC.skip (WN.seq ?_)
                  refine WC.seq (WC.block (WC.region ?_))
                  have hfit := h.fit
                  obtain ⟨F, hF, -, hc2, -⟩ := h.row
                  refine WR.move rfl rfl ?_
                  refine WR.move rfl rfl ?_
                  refine WR.bin rfl rfl (ar_quo (z := ((j : Nat) : Int)) (by decide) (by rw [tdiv_pos (by omega), wrap_i64 (by omega) (by omega)]; omega)) rfl ?_
                  (refine WR.bin rfl rfl (ar_add (wrap_i64 ?_ ?_)) rfl ?_; (omega); (omega))
                  refine WR.load rfl Tryz.underlying109 rfl (h.word.cell (i := 0) (by decide)) rfl ?_
                  refine WR.move rfl rfl ?_
                  refine WR.shr (z := ((bts p.E (224) 32 / 2 ^ (8 * j) : Nat) : Int)) rfl rfl (by omega) (shr32 (s := 8 * j) (by omega) (by omega)) rfl ?_
                  refine WR.bin rfl rfl (ar_rem (z := ((bts p.E (8 * (28 + j)) 8 : Nat) : Int)) (by decide) (u_val rfl (by omega) (by omega))) rfl ?_
                  refine WR.idxK (28 + j) rfl rfl Tryz.underlying156 sz109 (by omega) (by omega) rfl ?_
                  refine WR.storeK rfl rfl rfl sz109 (hF.cell (by omega)) (hF.fz _) ?_
                  intro w1 hn _
                  refine WR.nil ?_
                  clear hc2
                  replace h := h.set hn rfl (by omega)
                  clear hn hF F hfit
                  replace h := h.next (by decide)
                  refine WN.block (WN.seq (WC.region ?_))
                  refine WR.move rfl rfl ?_
                  (refine WR.bin rfl rfl (ar_add (wrap_i64 ?_ ?_)) rfl ?_; (omega); (omega))
                  refine WR.assign rfl rfl ?_
                  refine WR.nil ?_
                  exact WN.loop (m - 1) (j + 1) (by omega) ⟨kint rfl (by omega), rfl, rfl, rfl, trivial⟩ ⟨by omega, h⟩
                · skip
                  simp only [decide_eq_false_iff_not, Int.not_lt] at h328
                  obtain rfl : j = 3 := by omega
                  refine WC.exit rfl ?_
                  refine WN.seq ?_
                  refine WC.weak (L3 p b) ⟨rfl, rfl, rfl, trivial⟩ ?_
                  refine unpB 24 8 h rfl rfl (by decide) rfl (by decide) (by decide) rfl rfl ?_
                  intro w1 h
                  replace h := h.next (by decide)
                  refine WN.endR rfl rfl ?_
                  exact h.done

set_option maxHeartbeats 400000 in
theorem unpk16 (p : UP) {w : World} (h : UIn p 16 w) :
    Ret Tryz.prog 99 #[.iface 120 (.pointer (some ⟨p.rb, p.rb.off, none⟩)), .slice (some ⟨p.g, p.o, none⟩) p.dl p.dc] w (unpR p 16 w) := by
  refine Ret.enter (vs := [.iface 120 (.pointer (some ⟨p.rb, p.rb.off, none⟩)), .slice (some ⟨p.g, p.o, none⟩) p.dl p.dc]) Tryz.func99 Tryz.ntmps99 rfl rfl ?_
  refine WC.seq (WC.region ?_)
  refine WR.alloc zvU rfl rfl ?_
  intro w1 hn _
  refine WR.nil ?_
  replace h := US.start h hn
  refine WN.weak (L3 p w.heap.size) ⟨rfl, rfl, rfl, trivial⟩ ?_
  clear hn
  revert h; generalize w.heap.size = b; intro h
  refine WN.seq (WC.seq (WC.region ?_))
  refine WR.assign rfl rfl ?_
  refine WR.nil (WN.seq (WC.block ?_))
  refine WC.loop (fun j : Nat => (5, .int .i64 ((j : Nat) : Int)) :: L3 p b) (fun m j w' => j + m = 16 ∧ ∃ W, US p 16 w b w' (2 * j) (4 * j) W 0) 16 0 ⟨rfl, rfl, rfl, rfl, trivial⟩ ⟨rfl, _, h⟩ ?_
  clear h
  rintro m j w1 ⟨hm, _, h⟩
  refine WC.seq (WC.seq (WC.region ?_))
  refine WR.move rfl rfl ?_
  refine WR.bin rfl rfl rfl rfl ?_
  refine WR.nil (WN.seq ?_)
  refine WC.cond rfl (fun h744 => ?_) (fun h744 => ?_)
  · skip
    simp only [decide_eq_true_eq] at h744
    refine WC.skip (WN.seq ?_)
    refine WC.seq (WC.block ?_)
    refine WC.seq (WC.region ?_)
    have hfit := h.fit
    refine WR.move rfl rfl ?_
    refine WR.callF rfl rfl cf119 rfl rfl (h.read (by omega)) ?_
    rintro _ w1 ⟨rfl, h⟩
    refine WR.nil ?_
    clear hfit
    refine WN.seq (WC.seq (WC.region ?_))
    have hfit := h.fit
    obtain ⟨F, hF, -, hc2, -⟩ := h.row
    refine WR.move rfl rfl ?_
    refine WR.move rfl rfl ?_
    (refine WR.bin rfl rfl (ar_mul (wrap_i64 ?_ ?_)) rfl ?_; (omega); (omega))
    refine WR.load rfl Tryz.underlying109 rfl (h.word.cell (i := 0) (by decide)) rfl ?_
    refine WR.shr (z := ((bts p.E (8 * (4 * j)) 32 / 2 ^ (0) : Nat) : Int)) rfl rfl (by omega) (shr32 (s := 0) (by omega) (by omega)) rfl ?_
    refine WR.bin rfl rfl (ar_rem (z := ((bts p.E (16 * (2 * j)) 16 : Nat) : Int)) (by decide) (u_val rfl (by omega) (by omega))) rfl ?_
    refine WR.idxK (2 * j) rfl rfl Tryz.underlying156 sz109 (by omega) (by omega) rfl ?_
    refine WR.storeK rfl rfl rfl sz109 (hF.cell (by omega)) (hF.fz _) ?_
    intro w1 hn _
    refine WR.nil ?_
    clear hc2
    replace h := h.set hn rfl (by omega)
    clear hn hF F hfit
    replace h := h.next (by decide)
    refine WN.seq (WC.region ?_)
    have hfit := h.fit
    obtain ⟨F, hF, -, hc2, -⟩ := h.row
    refine WR.move rfl rfl ?_
    refine WR.move rfl rfl ?_
    (refine WR.bin rfl rfl (ar_mul (wrap_i64 ?_ ?_)) rfl ?_; (omega); (omega))
    (refine WR.bin rfl rfl (ar_add (wrap_i64 ?_ ?_)) rfl ?_; (omega); (omega))
    refine WR.load rfl Tryz.underlying109 rfl (h.word.cell (i := 0) (by decide)) rfl ?_
    refine WR.shr (z := ((bts p.E (16 * (2 * j + 1)) 16 : Nat) : Int)) rfl rfl (by omega) (u_top (P := 8 * (4 * j)) (s := 16) (by omega) (by omega) (by omega)) rfl ?_
    refine WR.idxK (2 * j + 1) rfl rfl Tryz.underlying156 sz109 (by omega) (by omega) rfl ?_
    refine WR.storeK rfl rfl rfl sz109 (hF.cell (by omega)) (hF.fz _) ?_
    intro w1 hn _
    refine WR.nil ?_
    clear hc2
    replace h := h.set hn rfl (by omega)
    clear hn hF F hfit
    replace h := h.next (by decide)
    refine WN.block (WN.seq (WC.region ?_))
    refine WR.move rfl rfl ?_
    (refine WR.bin rfl rfl (ar_add (wrap_i64 ?_ ?_)) rfl ?_; (omega); (omega))
    refine WR.assign rfl rfl ?_
    refine WR.nil ?_
    exact WN.loop (m - 1) (j + 1) (by omega) ⟨kint rfl (by omega), rfl, rfl, rfl, trivial⟩ ⟨by omega, _, h⟩
  · skip
    simp only [decide_eq_false_iff_not, Int.not_lt] at h744
    obtain rfl : j = 16 := by omega
    refine WC.exit rfl ?_
    refine WN.endR rfl rfl ?_
    exact h.done

set_option maxHeartbeats 400000 in
theorem unpk24 (p : UP) {w : World} (h : UIn p 24 w) :
    Ret Tryz.prog 107 #[.iface 120 (.pointer (some ⟨p.rb, p.rb.off, none⟩)), .slice (some ⟨p.g, p.o, none⟩) p.dl p.dc] w (unpR p 24 w) := by
  refine Ret.enter (vs := [.iface 120 (.pointer (some ⟨p.rb, p.rb.off, none⟩)), .slice (some ⟨p.g, p.o, none⟩) p.dl p.dc]) Tryz.func107 Tryz.ntmps107 rfl rfl ?_
  refine WC.seq (WC.region ?_)
  refine WR.alloc zvU rfl rfl ?_
  intro w1 hn _
  refine WR.nil ?_
  replace h := US.start h hn
  refine WN.weak (L3 p w.heap.size) ⟨rfl, rfl, rfl, trivial⟩ ?_
  clear hn
  revert h; generalize w.heap.size = b; intro h
  refine WN.seq (WC.seq (WC.region ?_))
  refine WR.assign rfl rfl ?_
  refine WR.nil (WN.seq (WC.block ?_))
  refine WC.loop (fun j : Nat => (5, .int .i64 ((j : Nat) : Int)) :: L3 p b) (fun m j w' => j + m = 8 ∧ ∃ W, US p 24 w b w' (4 * j) (12 * j) W 0) 8 0 ⟨rfl, rfl, rfl, rfl, trivial⟩ ⟨rfl, _, h⟩ ?_
  clear h
  rintro m j w1 ⟨hm, _, h⟩
  refine WC.seq (WC.seq (WC.region ?_))
  refine WR.move rfl rfl ?_
  refine WR.bin rfl rfl rfl rfl ?_
  refine WR.nil (WN.seq ?_)
  refine WC.cond rfl (fun h1273 => ?_) (fun h1273 => ?_)
  · skip
    simp only [decide_eq_true_eq] at h1273
    refine WC.skip (WN.seq ?_)
    refine WC.seq (WC.block ?_)
    refine WC.seq (WC.region ?_)
    refine WR.move rfl rfl ?_
    (refine WR.bin rfl rfl (ar_mul (wrap_i64 ?_ ?_)) rfl ?_; (omega); (omega))
    refine WR.assign rfl rfl ?_
    refine WR.nil (WN.seq ?_)
    refine WC.seq (WC.region ?_)
    have hfit := h.fit
    refine WR.move rfl rfl ?_
    refine WR.callF rfl rfl cf119 rfl rfl (h.read (by omega)) ?_
    rintro _ w1 ⟨rfl, h⟩
    refine WR.nil ?_
    clear hfit
    refine WN.seq (WC.seq (WC.region ?_))
    have hfit := h.fit
    obtain ⟨F, hF, -, hc2, -⟩ := h.row
    refine WR.move rfl rfl ?_
    refine WR.move rfl rfl ?_
    refine WR.load rfl Tryz.underlying109 rfl (h.word.cell (i := 0) (by decide)) rfl ?_
    refine WR.shr (z := ((bts p.E (8 * (12 * j + 0)) 32 / 2 ^ (0) : Nat) : Int)) rfl rfl (by omega) (shr32 (s := 0) (by omega) (by omega)) rfl ?_
    refine WR.bin rfl rfl (ar_rem (z := ((bts p.E (24 * (4 * j)) 24 : Nat) : Int)) (by decide) (u_val rfl (by omega) (by omega))) rfl ?_
    refine WR.idxK (4 * j) rfl rfl Tryz.underlying156 sz109 (by omega) (by omega) rfl ?_
    refine WR.storeK rfl rfl rfl sz109 (hF.cell (by omega)) (hF.fz _) ?_
    intro w1 hn _
    refine WR.nil ?_
    clear hc2
    replace h := h.set hn rfl (by omega)
    clear hn hF F hfit
    replace h := h.next (by decide)
    refine WN.seq (WC.seq (WC.region ?_))
    have hfit := h.fit
    obtain ⟨F, hF, -, hc2, -⟩ := h.row
    refine WR.move rfl rfl ?_
    refine WR.move rfl rfl ?_
    (refine WR.bin rfl rfl (ar_add (wrap_i64 ?_ ?_)) rfl ?_; (omega); (omega))
    refine WR.load rfl Tryz.underlying109 rfl (h.word.cell (i := 0) (by decide)) rfl ?_
    refine WR.shr (z := ((bts p.E (24 * (4 * j + 1)) 8 : Nat) : Int)) rfl rfl (by omega) (u_top (P := 8 * (12 * j + 0)) (s := 24) (by omega) (by omega) (by omega)) rfl ?_
    refine WR.idxK (4 * j + 1) rfl rfl Tryz.underlying156 sz109 (by omega) (by omega) rfl ?_
    refine WR.storeK rfl rfl rfl sz109 (hF.cell (by omega)) (hF.fz _) ?_
    intro w1 hn _
    refine WR.nil ?_
    clear hc2
    replace h := h.set hn rfl (by omega)
    clear hn hF F hfit
    refine WN.seq (WC.seq (WC.region ?_))
    have hfit := h.fit
    refine WR.move rfl rfl ?_
    refine WR.callF rfl rfl cf119 rfl rfl (h.read (by omega)) ?_
    rintro _ w1 ⟨rfl, h⟩
    refine WR.nil ?_
    clear hfit
    refine WN.seq (WC.seq ?_)
    refine WC.mix [] mixed (by kernel_rfl) ?_
    replace h := h.drew
    have hfit := h.fit
    obtain ⟨F, hF, -, hc2, -⟩ := h.row
    refine WR.move rfl rfl ?_
    refine WR.move rfl rfl ?_
    (refine WR.bin rfl rfl (ar_add (wrap_i64 ?_ ?_)) rfl ?_; (omega); (omega))
    refine WR.idxK (4 * j + 1) rfl rfl Tryz.underlying156 sz109 (by omega) (by omega) rfl ?_
    refine WR.load (v := .int .u32 (bts p.E (24 * (4 * j + 1)) 8 : Nat)) rfl Tryz.underlying109 rfl (by rw [hF.cell (by omega)]; exact congrArg some (hc2 (by decide))) rfl ?_
    refine WR.load rfl Tryz.underlying109 rfl (h.word.cell (i := 0) (by decide)) rfl ?_
    refine WR.bin rfl rfl (ar_rem (z := ((bts p.E (8 * (12 * j + 4)) 16 : Nat) : Int)) (by decide) (u_rem rfl (by decide))) rfl ?_
    refine WR.shl rfl rfl (by decide) (u_shl (c := 8) rfl (by decide)) rfl ?_
    refine WR.bin rfl rfl (u_or (N := 24) (by omega) (by decide) (by decide)) rfl ?_
    refine WR.idxK (4 * j + 1) rfl rfl Tryz.underlying156 sz109 (by omega) (by omega) rfl ?_
    refine WR.storeK rfl rfl rfl sz109 (hF.cell (by omega)) (hF.fz _) ?_
    intro w1 hn _
    refine WR.nil ?_
    clear hc2
    replace h := h.set hn rfl (by omega)
    clear hn hF F hfit
    replace h := h.next (by decide)
    refine WN.seq (WC.seq (WC.region ?_))
    have hfit := h.fit
    obtain ⟨F, hF, -, hc2, -⟩ := h.row
    refine WR.move rfl rfl ?_
    refine WR.move rfl rfl ?_
    (refine WR.bin rfl rfl (ar_add (wrap_i64 ?_ ?_)) rfl ?_; (omega); (omega))
    refine WR.load rfl Tryz.underlying109 rfl (h.word.cell (i := 0) (by decide)) rfl ?_
    refine WR.shr (z := ((bts p.E (24 * (4 * j + 2)) 16 : Nat) : Int)) rfl rfl (by omega) (u_top (P := 8 * (12 * j + 4)) (s := 16) (by omega) (by omega) (by omega)) rfl ?_
    refine WR.idxK (4 * j + 2) rfl rfl Tryz.underlying156 sz109 (by omega) (by omega) rfl ?_
    refine WR.storeK rfl rfl rfl sz109 (hF.cell (by omega)) (hF.fz _) ?_
    intro w1 hn _
    refine WR.nil ?_
    clear hc2
    replace h := h.set hn rfl (by omega)
    clear hn hF F hfit
    refine WN.seq (WC.seq (WC.region ?_))
    have hfit := h.fit
    refine WR.move rfl rfl ?_
    refine WR.callF rfl rfl cf119 rfl rfl (h.read (by omega)) ?_
    rintro _ w1 ⟨rfl, h⟩
    refine WR.nil ?_
    clear hfit
    refine WN.seq (WC.seq ?_)
    refine WC.mix [] mixed (by kernel_rfl) ?_
    replace h := h.drew
    have hfit := h.fit
    obtain ⟨F, hF, -, hc2, -⟩ := h.row
    refine WR.move rfl rfl ?_
    refine WR.move rfl rfl ?_
    (refine WR.bin rfl rfl (ar_add (wrap_i64 ?_ ?_)) rfl ?_; (omega); (omega))
    refine WR.idxK (4 * j + 2) rfl rfl Tryz.underlying156 sz109 (by omega) (by omega) rfl ?_
    refine WR.load (v := .int .u32 (bts p.E (24 * (4 * j + 2)) 16 : Nat)) rfl Tryz.underlying109 rfl (by rw [hF.cell (by omega)]; exact congrArg some (hc2 (by decide))) rfl ?_
    refine WR.load rfl Tryz.underlying109 rfl (h.word.cell (i := 0) (by decide)) rfl ?_
    refine WR.bin rfl rfl (ar_rem (z := ((bts p.E (8 * (12 * j + 8)) 8 : Nat) : Int)) (by decide) (u_rem rfl (by decide))) rfl ?_
    refine WR.shl rfl rfl (by decide) (u_shl (c := 16) rfl (by decide)) rfl ?_
    refine WR.bin rfl rfl (u_or (N := 24) (by omega) (by decide) (by decide)) rfl ?_
    refine WR.idxK (4 * j + 2) rfl rfl Tryz.underlying156 sz109 (by omega) (by omega) rfl ?_
    refine WR.storeK rfl rfl rfl sz109 (hF.cell (by omega)) (hF.fz _) ?_
    intro w1 hn _
    refine WR.nil ?_
    clear hc2
    replace h := h.set hn rfl (by omega)
    clear hn hF F hfit
    replace h := h.next (by decide)
    refine WN.seq (WC.region ?_)
    have hfit := h.fit
    obtain ⟨F, hF, -, hc2, -⟩ := h.row
    refine WR.move rfl rfl ?_
    refine WR.move rfl rfl ?_
    (refine WR.bin rfl rfl (ar_add (wrap_i64 ?_ ?_)) rfl ?_; (omega); (omega))
    refine WR.load rfl Tryz.underlying109 rfl (h.word.cell (i := 0) (by decide)) rfl ?_
    refine WR.shr (z := ((bts p.E (24 * (4 * j + 3)) 24 : Nat) : Int)) rfl rfl (by omega) (u_top (P := 8 * (12 * j + 8)) (s := 8) (by omega) (by omega) (by omega)) rfl ?_
    refine WR.idxK (4 * j + 3) rfl rfl Tryz.underlying156 sz109 (by omega) (by omega) rfl ?_
    refine WR.storeK rfl rfl rfl sz109 (hF.cell (by omega)) (hF.fz _) ?_
    intro w1 hn _
    refine WR.nil ?_
    clear hc2
    replace h := h.set hn rfl (by omega)
    clear hn hF F hfit
    replace h := h.next (by decide)
    refine WN.block (WN.seq (WC.region ?_))
    refine WR.move rfl rfl ?_
    (refine WR.bin rfl rfl (ar_add (wrap_i64 ?_ ?_)) rfl ?_; (omega); (omega))
    refine WR.assign rfl rfl ?_
    refine WR.nil ?_
    exact WN.loop (m - 1) (j + 1) (by omega) ⟨kint rfl (by omega), rfl, rfl, rfl, trivial⟩ ⟨by omega, _, h⟩
  · skip
    simp only [decide_eq_false_iff_not, Int.not_lt] at h1273
    obtain rfl : j = 8 := by omega
    refine WC.exit rfl ?_
    refine WN.endR rfl rfl ?_
    exact h.done

set_option maxHeartbeats 400000 in
theorem unpk28 (p : UP) {w : World} (h : UIn p 28 w) :
    Ret Tryz.prog 111 #[.iface 120 (.pointer (some ⟨p.rb, p.rb.off, none⟩)), .slice (some ⟨p.g, p.o, none⟩) p.dl p.dc] w (unpR p 28 w) := by
  refine Ret.enter (vs := [.iface 120 (.pointer (some ⟨p.rb, p.rb.off, none⟩)), .slice (some ⟨p.g, p.o, none⟩) p.dl p.dc]) Tryz.func111 Tryz.ntmps111 rfl rfl ?_
  refine WC.seq (WC.region ?_)
  refine WR.alloc zvU rfl rfl ?_
  intro w1 hn _
  refine WR.nil ?_
  replace h := US.start h hn
  refine WN.weak (L3 p w.heap.size) ⟨rfl, rfl, rfl, trivial⟩ ?_
  clear hn
  revert h; generalize w.heap.size = b; intro h
  refine WN.seq (WC.seq (WC.region ?_))
  refine WR.assign rfl rfl ?_
  refine WR.nil (WN.seq (WC.block ?_))
  refine WC.loop (fun j : Nat => (5, .int .i64 ((j : Nat) : Int)) :: L3 p b) (fun m j w' => j + m = 4 ∧ ∃ W, US p 28 w b w' (8 * j) (28 * j) W 0) 4 0 ⟨rfl, rfl, rfl, rfl, trivial⟩ ⟨rfl, _, h⟩ ?_
  clear h
  rintro m j w1 ⟨hm, _, h⟩
  refine WC.seq (WC.seq (WC.region ?_))
  refine WR.move rfl rfl ?_
  refine WR.bin rfl rfl rfl rfl ?_
  refine WR.nil (WN.seq ?_)
  refine WC.cond rfl (fun h1550 => ?_) (fun h1550 => ?_)
  · skip
    simp only [decide_eq_true_eq] at h1550
    refine WC.skip (WN.seq ?_)
    refine WC.seq (WC.block ?_)
    refine WC.seq (WC.region ?_)
    refine WR.move rfl rfl ?_
    (refine WR.bin rfl rfl (ar_mul (wrap_i64 ?_ ?_)) rfl ?_; (omega); (omega))
    refine WR.assign rfl rfl ?_
    refine WR.nil (WN.seq ?_)
    refine WC.seq (WC.region ?_)
    have hfit := h.fit
    refine WR.move rfl rfl ?_
    refine WR.callF rfl rfl cf119 rfl rfl (h.read (by omega)) ?_
    rintro _ w1 ⟨rfl, h⟩
    refine WR.nil ?_
    clear hfit
    refine WN.seq (WC.seq (WC.region ?_))
    have hfit := h.fit
    obtain ⟨F, hF, -, hc2, -⟩ := h.row
    refine WR.move rfl rfl ?_
    refine WR.move rfl rfl ?_
    refine WR.load rfl Tryz.underlying109 rfl (h.word.cell (i := 0) (by decide)) rfl ?_
    refine WR.shr (z := ((bts p.E (8 * (28 * j + 0)) 32 / 2 ^ (0) : Nat) : Int)) rfl rfl (by omega) (shr32 (s := 0) (by omega) (by omega)) rfl ?_
    refine WR.bin rfl rfl (ar_rem (z := ((bts p.E (28 * (8 * j)) 28 : Nat) : Int)) (by decide) (u_val rfl (by omega) (by omega))) rfl ?_
    refine WR.idxK (8 * j) rfl rfl Tryz.underlying156 sz109 (by omega) (by omega) rfl ?_
    refine WR.storeK rfl rfl rfl sz109 (hF.cell (by omega)) (hF.fz _) ?_
    intro w1 hn _
    refine WR.nil ?_
    clear hc2
    replace h := h.set hn rfl (by omega)
    clear hn hF F hfit
    replace h := h.next (by decide)
    refine WN.seq (WC.seq (WC.region ?_))
    have hfit := h.fit
    obtain ⟨F, hF, -, hc2, -⟩ := h.row
    refine WR.move rfl rfl ?_
    refine WR.move rfl rfl ?_
    (refine WR.bin rfl rfl (ar_add (wrap_i64 ?_ ?_)) rfl ?_; (omega); (omega))
    refine WR.load rfl Tryz.underlying109 rfl (h.word.cell (i := 0) (by decide)) rfl ?_
    refine WR.shr (z := ((bts p.E (28 * (8 * j + 1)) 4 : Nat) : Int)) rfl rfl (by omega) (u_top (P := 8 * (28 * j + 0)) (s := 28) (by omega) (by omega) (by omega)) rfl ?_
    refine WR.idxK (8 * j + 1) rfl rfl Tryz.underlying156 sz109 (by omega) (by omega) rfl ?_
    refine WR.storeK rfl rfl rfl sz109 (hF.cell (by omega)) (hF.fz _) ?_
    intro w1 hn _
    refine WR.nil ?_
    clear hc2
    replace h := h.set hn rfl (by omega)
    clear hn hF F hfit
    refine WN.seq (WC.seq (WC.region ?_))
    have hfit := h.fit
    refine WR.move rfl rfl ?_
    refine WR.callF rfl rfl cf119 rfl rfl (h.read (by omega)) ?_
    rintro _ w1 ⟨rfl, h⟩
    refine WR.nil ?_
    clear hfit
    refine WN.seq (WC.seq ?_)
    refine WC.mix [] mixed (by kernel_rfl) ?_
    replace h := h.drew
    have hfit := h.fit
    obtain ⟨F, hF, -, hc2, -⟩ := h.row
    refine WR.move rfl rfl ?_
    refine WR.move rfl rfl ?_
    (refine WR.bin rfl rfl (ar_add (wrap_i64 ?_ ?_)) rfl ?_; (omega); (omega))
    refine WR.idxK (8 * j + 1) rfl rfl Tryz.underlying156 sz109 (by omega) (by omega) rfl ?_
    refine WR.load (v := .int .u32 (bts p.E (28 * (8 * j + 1)) 4 : Nat)) rfl Tryz.underlying109 rfl (by rw [hF.cell (by omega)]; exact congrArg some (hc2 (by decide))) rfl ?_
    refine WR.load rfl Tryz.underlying109 rfl (h.word.cell (i := 0) (by decide)) rfl ?_
    refine WR.bin rfl rfl (ar_rem (z := ((bts p.E (8 * (28 * j + 4)) 24 : Nat) : Int)) (by decide) (u_rem rfl (by decide))) rfl ?_
    refine WR.shl rfl rfl (by decide) (u_shl (c := 4) rfl (by decide)) rfl ?_
    refine WR.bin rfl rfl (u_or (N := 28) (by omega) (by decide) (by decide)) rfl ?_
    refine WR.idxK (8 * j + 1) rfl rfl Tryz.underlying156 sz109 (by omega) (by omega) rfl ?_
    refine WR.storeK rfl rfl rfl sz109 (hF.cell (by omega)) (hF.fz _) ?_
    intro w1 hn _
    refine WR.nil ?_
    clear hc2
    replace h := h.set hn rfl (by omega)
    clear hn hF F hfit
    replace h := h.next (by decide)
    refine WN.seq (WC.seq (WC.region ?_))
    have hfit := h.fit
    obtain ⟨F, hF, -, hc2, -⟩ := h.row
    refine WR.move rfl rfl ?_
    refine WR.move rfl rfl ?_
    (refine WR.bin rfl rfl (ar_add (wrap_i64 ?_ ?_)) rfl ?_; (omega); (omega))
    refine WR.load rfl Tryz.underlying109 rfl (h.word.cell (i := 0) (by decide)) rfl ?_
    refine WR.shr (z := ((bts p.E (28 * (8 * j + 2)) 8 : Nat) : Int)) rfl rfl (by omega) (u_top (P := 8 * (28 * j + 4)) (s := 24) (by omega) (by omega) (by omega)) rfl ?_
    refine WR.idxK (8 * j + 2) rfl rfl Tryz.underlying156 sz109 (by omega) (by omega) rfl ?_
    refine WR.storeK rfl rfl rfl sz109 (hF.cell (by omega)) (hF.fz _) ?_
    intro w1 hn _
    refine WR.nil ?_
    clear hc2
    replace h := h.set hn rfl (by omega)
    clear hn hF F hfit
    refine WN.seq (WC.seq (WC.region ?_))
    have hfit := h.fit
    refine WR.move rfl rfl ?_
    refine WR.callF rfl rfl cf119 rfl rfl (h.read (by omega)) ?_
    rintro _ w1 ⟨rfl, h⟩
    refine WR.nil ?_
    clear hfit
    refine WN.seq (WC.seq ?_)
    refine WC.mix [] mixed (by kernel_rfl) ?_
    replace h := h.drew
    have hfit := h.fit
    obtain ⟨F, hF, -, hc2, -⟩ := h.row
    refine WR.move rfl rfl ?_
    refine WR.move rfl rfl ?_
    (refine WR.bin rfl rfl (ar_add (wrap_i64 ?_ ?_)) rfl ?_; (omega); (omega))
    refine WR.idxK (8 * j + 2) rfl rfl Tryz.underlying156 sz109 (by omega) (by omega) rfl ?_
    refine WR.load (v := .int .u32 (bts p.E (28 * (8 * j + 2)) 8 : Nat)) rfl Tryz.underlying109 rfl (by rw [hF.cell (by omega)]; exact congrArg some (hc2 (by decide))) rfl ?_
    refine WR.load rfl Tryz.underlying109 rfl (h.word.cell (i := 0) (by decide)) rfl ?_
    refine WR.bin rfl rfl (ar_rem (z := ((bts p.E (8 * (28 * j + 8)) 20 : Nat) : Int)) (by decide) (u_rem rfl (by decide))) rfl ?_
    refine WR.shl rfl rfl (by decide) (u_shl (c := 8) rfl (by decide)) rfl ?_
    refine WR.bin rfl rfl (u_or (N := 28) (by omega) (by decide) (by decide)) rfl ?_
    refine WR.idxK (8 * j + 2) rfl rfl Tryz.underlying156 sz109 (by omega) (by omega) rfl ?_
    refine WR.storeK rfl rfl rfl sz109 (hF.cell (by omega)) (hF.fz _) ?_
    intro w1 hn _
    refine WR.nil ?_
    clear hc2
    replace h := h.set hn rfl (by omega)
    clear hn hF F hfit
    replace h := h.next (by decide)
    refine WN.seq (WC.seq (WC.region ?_))
    have hfit := h.fit
    obtain ⟨F, hF, -, hc2, -⟩ := h.row
    refine WR.move rfl rfl ?_
    refine WR.move rfl rfl ?_
    (refine WR.bin rfl rfl (ar_add (wrap_i64 ?_ ?_)) rfl ?_; (omega); (omega))
    refine WR.load rfl Tryz.underlying109 rfl (h.word.cell (i := 0) (by decide)) rfl ?_
    refine WR.shr (z := ((bts p.E (28 * (8 * j + 3)) 12 : Nat) : Int)) rfl rfl (by omega) (u_top (P := 8 * (28 * j + 8)) (s := 20) (by omega) (by omega) (by omega)) rfl ?_
    refine WR.idxK (8 * j + 3) rfl rfl Tryz.underlying156 sz109 (by omega) (by omega) rfl ?_
    refine WR.storeK rfl rfl rfl sz109 (hF.cell (by omega)) (hF.fz _) ?_
    intro w1 hn _
    refine WR.nil ?_
    clear hc2
    replace h := h.set hn rfl (by omega)
    clear hn hF F hfit
    refine WN.seq (WC.seq (WC.region ?_))
    have hfit := h.fit
    refine WR.move rfl rfl ?_
    refine WR.callF rfl rfl cf119 rfl rfl (h.read (by omega)) ?_
    rintro _ w1 ⟨rfl, h⟩
    refine WR.nil ?_
    clear hfit
    refine WN.seq (WC.seq ?_)
    refine WC.mix [] mixed (by kernel_rfl) ?_
    replace h := h.drew
    have hfit := h.fit
    obtain ⟨F, hF, -, hc2, -⟩ := h.row
    refine WR.move rfl rfl ?_
    refine WR.move rfl rfl ?_
    (refine WR.bin rfl rfl (ar_add (wrap_i64 ?_ ?_)) rfl ?_; (omega); (omega))
    refine WR.idxK (8 * j + 3) rfl rfl Tryz.underlying156 sz109 (by omega) (by omega) rfl ?_
    refine WR.load (v := .int .u32 (bts p.E (28 * (8 * j + 3)) 12 : Nat)) rfl Tryz.underlying109 rfl (by rw [hF.cell (by omega)]; exact congrArg some (hc2 (by decide))) rfl ?_
    refine WR.load rfl Tryz.underlying109 rfl (h.word.cell (i := 0) (by decide)) rfl ?_
    refine WR.bin rfl rfl (ar_rem (z := ((bts p.E (8 * (28 * j + 12)) 16 : Nat) : Int)) (by decide) (u_rem rfl (by decide))) rfl ?_
    refine WR.shl rfl rfl (by decide) (u_shl (c := 12) rfl (by decide)) rfl ?_
    refine WR.bin rfl rfl (u_or (N := 28) (by omega) (by decide) (by decide)) rfl ?_
    refine WR.idxK (8 * j + 3) rfl rfl Tryz.underlying156 sz109 (by omega) (by omega) rfl ?_
    refine WR.storeK rfl rfl rfl sz109 (hF.cell (by omega)) (hF.fz _) ?_
    intro w1 hn _
    refine WR.nil ?_
    clear hc2
    replace h := h.set hn rfl (by omega)
    clear hn hF F hfit
    replace h := h.next (by decide)
    refine WN.seq (WC.seq (WC.region ?_))
    have hfit := h.fit
    obtain ⟨F, hF, -, hc2, -⟩ := h.row
    refine WR.move rfl rfl ?_
    refine WR.move rfl rfl ?_
    (refine WR.bin rfl rfl (ar_add (wrap_i64 ?_ ?_)) rfl ?_; (omega); (omega))
    refine WR.load rfl Tryz.underlying109 rfl (h.word.cell (i := 0) (by decide)) rfl ?_
    refine WR.shr (z := ((bts p.E (28 * (8 * j + 4)) 16 : Nat) : Int)) rfl rfl (by omega) (u_top (P := 8 * (28 * j + 12)) (s := 16) (by omega) (by omega) (by omega)) rfl ?_
    refine WR.idxK (8 * j + 4) rfl rfl Tryz.underlying156 sz109 (by omega) (by omega) rfl ?_
    refine WR.storeK rfl rfl rfl sz109 (hF.cell (by omega)) (hF.fz _) ?_
    intro w1 hn _
    refine WR.nil ?_
    clear hc2
    replace h := h.set hn rfl (by omega)
    clear hn hF F hfit
    refine WN.seq (WC.seq (WC.region ?_))
    have hfit := h.fit
    refine WR.move rfl rfl ?_
    refine WR.callF rfl rfl cf119 rfl rfl (h.read (by omega)) ?_
    rintro _ w1 ⟨rfl, h⟩
    refine WR.nil ?_
    clear hfit
    refine WN.seq (WC.seq ?_)
    refine WC.mix [] mixed (by kernel_rfl) ?_
    replace h := h.drew
    have hfit := h.fit
    obtain ⟨F, hF, -, hc2, -⟩ := h.row
    refine WR.move rfl rfl ?_
    refine WR.move rfl rfl ?_
    (refine WR.bin rfl rfl (ar_add (wrap_i64 ?_ ?_)) rfl ?_; (omega); (omega))
    refine WR.idxK (8 * j + 4) rfl rfl Tryz.underlying156 sz109 (by omega) (by omega) rfl ?_
    refine WR.load (v := .int .u32 (bts p.E (28 * (8 * j + 4)) 16 : Nat)) rfl Tryz.underlying109 rfl (by rw [hF.cell (by omega)]; exact congrArg some (hc2 (by decide))) rfl ?_
    refine WR.load rfl Tryz.underlying109 rfl (h.word.cell (i := 0) (by decide)) rfl ?_
    refine WR.bin rfl rfl (ar_rem (z := ((bts p.E (8 * (28 * j + 16)) 12 : Nat) : Int)) (by decide) (u_rem rfl (by decide))) rfl ?_
    refine WR.shl rfl rfl (by decide) (u_shl (c := 16) rfl (by decide)) rfl ?_
    refine WR.bin rfl rfl (u_or (N := 28) (by omega) (by decide) (by decide)) rfl ?_
    refine WR.idxK (8 * j + 4) rfl rfl Tryz.underlying156 sz109 (by omega) (by omega) rfl ?_
    refine WR.storeK rfl rfl rfl sz109 (hF.cell (by omega)) (hF.fz _) ?_
    intro w1 hn _
    refine WR.nil ?_
    clear hc2
    replace h := h.set hn rfl (by omega)
    clear hn hF F hfit
    replace h := h.next (by decide)
    refine WN.seq (WC.seq (WC.region ?_))
    have hfit := h.fit
    obtain ⟨F, hF, -, hc2, -⟩ := h.row
    refine WR.move rfl rfl ?_
    refine WR.move rfl rfl ?_
    (refine WR.bin rfl rfl (ar_add (wrap_i64 ?_ ?_)) rfl ?_; (omega); (omega))
    refine WR.load rfl Tryz.underlying109 rfl (h.word.cell (i := 0) (by decide)) rfl ?_
    refine WR.shr (z := ((bts p.E (28 * (8 * j + 5)) 20 : Nat) : Int)) rfl rfl (by omega) (u_top (P := 8 * (28 * j + 16)) (s := 12) (by omega) (by omega) (by omega)) rfl ?_
    refine WR.idxK (8 * j + 5) rfl rfl Tryz.underlying156 sz109 (by omega) (by omega) rfl ?_
    refine WR.storeK rfl rfl rfl sz109 (hF.cell (by omega)) (hF.fz _) ?_
    intro w1 hn _
    refine WR.nil ?_
    clear hc2
    replace h := h.set hn rfl (by omega)
    clear hn hF F hfit
    refine WN.seq (WC.seq (WC.region ?_))
    have hfit := h.fit
    refine WR.move rfl rfl ?_
    refine WR.callF rfl rfl cf119 rfl rfl (h.read (by omega)) ?_
    rintro _ w1 ⟨rfl, h⟩
    refine WR.nil ?_
    clear hfit
    refine WN.seq (WC.seq ?_)
    refine WC.mix [] mixed (by kernel_rfl) ?_
    replace h := h.drew
    have hfit := h.fit
    obtain ⟨F, hF, -, hc2, -⟩ := h.row
    refine WR.move rfl rfl ?_
    refine WR.move rfl rfl ?_
    (refine WR.bin rfl rfl (ar_add (wrap_i64 ?_ ?_)) rfl ?_; (omega); (omega))
    refine WR.idxK (8 * j + 5) rfl rfl Tryz.underlying156 sz109 (by omega) (by omega) rfl ?_
    refine WR.load (v := .int .u32 (bts p.E (28 * (8 * j + 5)) 20 : Nat)) rfl Tryz.underlying109 rfl (by rw [hF.cell (by omega)]; exact congrArg some (hc2 (by decide))) rfl ?_
    refine WR.load rfl Tryz.underlying109 rfl (h.word.cell (i := 0) (by decide)) rfl ?_
    refine WR.bin rfl rfl (ar_rem (z := ((bts p.E (8 * (28 * j + 20)) 8 : Nat) : Int)) (by decide) (u_rem rfl (by decide))) rfl ?_
    refine WR.shl rfl rfl (by decide) (u_shl (c := 20) rfl (by decide)) rfl ?_
    refine WR.bin rfl rfl (u_or (N := 28) (by omega) (by decide) (by decide)) rfl ?_
    refine WR.idxK (8 * j + 5) rfl rfl Tryz.underlying156 sz109 (by omega) (by omega) rfl ?_
    refine WR.storeK rfl rfl rfl sz109 (hF.cell (by omega)) (hF.fz _) ?_
    intro w1 hn _
    refine WR.nil ?_
    clear hc2
    replace h := h.set hn rfl (by omega)
    clear hn hF F hfit
    replace h := h.next (by decide)
    refine WN.seq (WC.seq (WC.region ?_))
    have hfit := h.fit
    obtain ⟨F, hF, -, hc2, -⟩ := h.row
    refine WR.move rfl rfl ?_
    refine WR.move rfl rfl ?_
    (refine WR.bin rfl rfl (ar_add (wrap_i64 ?_ ?_)) rfl ?_; (omega); (omega))
    refine WR.load rfl Tryz.underlying109 rfl (h.word.cell (i := 0) (by decide)) rfl ?_
    refine WR.shr (z := ((bts p.E (28 * (8 * j + 6)) 24 : Nat) : Int)) rfl rfl (by omega) (u_top (P := 8 * (28 * j + 20)) (s := 8) (by omega) (by omega) (by omega)) rfl ?_
    refine WR.idxK (8 * j + 6) rfl rfl Tryz.underlying156 sz109 (by omega) (by omega) rfl ?_
    refine WR.storeK rfl rfl rfl sz109 (hF.cell (by omega)) (hF.fz _) ?_
    intro w1 hn _
    refine WR.nil ?_
    clear hc2
    replace h := h.set hn rfl (by omega)
    clear hn hF F hfit
    refine WN.seq (WC.seq (WC.region ?_))
    have hfit := h.fit
    refine WR.move rfl rfl ?_
    refine WR.callF rfl rfl cf119 rfl rfl (h.read (by omega)) ?_
    rintro _ w1 ⟨rfl, h⟩
    refine WR.nil ?_
    clear hfit
    refine WN.seq (WC.seq ?_)
    refine WC.mix [] mixed (by kernel_rfl) ?_
    replace h := h.drew
    have hfit := h.fit
    obtain ⟨F, hF, -, hc2, -⟩ := h.row
    refine WR.move rfl rfl ?_
    refine WR.move rfl rfl ?_
    (refine WR.bin rfl rfl (ar_add (wrap_i64 ?_ ?_)) rfl ?_; (omega); (omega))
    refine WR.idxK (8 * j + 6) rfl rfl Tryz.underlying156 sz109 (by omega) (by omega) rfl ?_
    refine WR.load (v := .int .u32 (bts p.E (28 * (8 * j + 6)) 24 : Nat)) rfl Tryz.underlying109 rfl (by rw [hF.cell (by omega)]; exact congrArg some (hc2 (by decide))) rfl ?_
    refine WR.load rfl Tryz.underlying109 rfl (h.word.cell (i := 0) (by decide)) rfl ?_
    refine WR.bin rfl rfl (ar_rem (z := ((bts p.E (8 * (28 * j + 24)) 4 : Nat) : Int)) (by decide) (u_rem rfl (by decide))) rfl ?_
    refine WR.shl rfl rfl (by decide) (u_shl (c := 24) rfl (by decide)) rfl ?_
    refine WR.bin rfl rfl (u_or (N := 28) (by omega) (by decide) (by decide)) rfl ?_
    refine WR.idxK (8 * j + 6) rfl rfl Tryz.underlying156 sz109 (by omega) (by omega) rfl ?_
    refine WR.storeK rfl rfl rfl sz109 (hF.cell (by omega)) (hF.fz _) ?_
    intro w1 hn _
    refine WR.nil ?_
    clear hc2
    replace h := h.set hn rfl (by omega)
    clear hn hF F hfit
    replace h := h.next (by decide)
    refine WN.seq (WC.region ?_)
    have hfit := h.fit
    obtain ⟨F, hF, -, hc2, -⟩ := h.row
    refine WR.move rfl rfl ?_
    refine WR.move rfl rfl ?_
    (refine WR.bin rfl rfl (ar_add (wrap_i64 ?_ ?_)) rfl ?_; (omega); (omega))
    refine WR.load rfl Tryz.underlying109 rfl (h.word.cell (i := 0) (by decide)) rfl ?_
    refine WR.shr (z := ((bts p.E (28 * (8 * j + 7)) 28 : Nat) : Int)) rfl rfl (by omega) (u_top (P := 8 * (28 * j + 24)) (s := 4) (by omega) (by omega) (by omega)) rfl ?_
    refine WR.idxK (8 * j + 7) rfl rfl Tryz.underlying156 sz109 (by omega) (by omega) rfl ?_
    refine WR.storeK rfl rfl rfl sz109 (hF.cell (by omega)) (hF.fz _) ?_
    intro w1 hn _
    refine WR.nil ?_
    clear hc2
    replace h := h.set hn rfl (by omega)
    clear hn hF F hfit
    replace h := h.next (by decide)
    refine WN.block (WN.seq (WC.region ?_))
    refine WR.move rfl rfl ?_
    (refine WR.bin rfl rfl (ar_add (wrap_i64 ?_ ?_)) rfl ?_; (omega); (omega))
    refine WR.assign rfl rfl ?_
    refine WR.nil ?_
    exact WN.loop (m - 1) (j + 1) (by omega) ⟨kint rfl (by omega), rfl, rfl, rfl, trivial⟩ ⟨by omega, _, h⟩
  · skip
    simp only [decide_eq_false_iff_not, Int.not_lt] at h1550
    obtain rfl : j = 4 := by omega
    refine WC.exit rfl ?_
    refine WN.endR rfl rfl ?_
    exact h.done

set_option maxHeartbeats 400000 in
theorem unpk32 (p : UP) {w : World} (h : UIn p 32 w) :
    Ret Tryz.prog 115 #[.iface 120 (.pointer (some ⟨p.rb, p.rb.off, none⟩)), .slice (some ⟨p.g, p.o, none⟩) p.dl p.dc] w (unpR p 32 w) := by
  obtain ⟨⟨r, hr⟩, hd, hF, hfit, hne⟩ := h
  refine Ret.enter (vs := [.iface 120 (.pointer (some ⟨p.rb, p.rb.off, none⟩)), .slice (some ⟨p.g, p.o, none⟩) p.dl p.dc]) Tryz.func115 Tryz.ntmps115 rfl rfl ?_
  refine WC.seq (WC.region ?_)
  refine WR.move rfl rfl ?_
  refine WR.slice rfl Tryz.underlying156 sz109 ⟨_, _, rfl, by omega, by omega, rfl⟩ rfl rfl ?_
  refine WR.lenS rfl Tryz.underlying156 rfl ?_
  refine WR.move rfl rfl ?_
  refine WR.nil (WN.seq (WC.block ?_))
  refine WC.loop (fun j : Nat => [(8, .int .i64 ((j : Nat) : Int)), (7, .int .i64 32), (0, .iface 120 (.pointer (some ⟨p.rb, p.rb.off, none⟩))), (1, .slice (some ⟨p.g, p.o, none⟩) p.dl p.dc)]) (fun m j w' => j + m = 32 ∧ (∃ r, RD w' p.rb p.db p.dO p.len p.cap (4 * j : Nat) r) ∧ Src2 w' p.rb p.db p.dO p.len p.cap p.d ∧ (∃ F, Row w' p.g p.t p.n F ∧ (∀ i, i < j → F (p.o + i) = .int .u32 (bts p.E (32 * i) 32 : Nat)) ∧ (∀ i, i < p.o ∨ p.o + 32 ≤ i → F i = p.f i)) ∧ Same [p.g, p.rb.blk] w w' ∧ 6 ≤ w'.heap.size) 32 0 ⟨rfl, rfl, rfl, rfl, trivial⟩ ⟨rfl, ⟨r, hr⟩, hd, ⟨p.f, hF, fun i hi => by omega, fun _ _ => rfl⟩, Same.refl _ _, hfit.2.2.2.2⟩ ?_
  clear hr hd hF
  rintro m j w1 ⟨hm, ⟨r, hr⟩, hd, ⟨F, hF, hF1, hF2⟩, hS, hgl⟩
  refine WC.seq (WC.region ?_)
  refine WR.bin rfl rfl rfl rfl ?_
  refine WR.nil (WN.seq (WC.seq ?_))
  refine WC.cond rfl (fun h1862 => ?_) (fun h1862 => ?_)
  · skip
    simp only [decide_eq_true_eq] at h1862
    refine WC.skip (WN.seq ?_)
    refine WC.seq (WC.block ?_)
    refine WC.seq (WC.region ?_)
    refine WR.move rfl rfl ?_
    refine WR.assign rfl rfl ?_
    refine WR.nil (WN.seq (WC.region ?_))
    refine WR.move rfl rfl ?_
    refine WR.move rfl rfl ?_
    refine WR.move rfl rfl ?_
    refine WR.idxK (j) rfl rfl Tryz.underlying156 sz109 (by omega) (by omega) rfl ?_
    refine WR.callF rfl rfl cf119 rfl rfl (readLittle p.rb p.db p.dO p.len p.cap p.g (p.o + j) p.t p.n (4 * j) r p.d F hr hd hF (by omega) (by omega) hne.1 hne.2.1 hne.2.2 hgl) ?_
    rintro _ w2 ⟨rfl, hr', hF', hs⟩
    replace hd := hd.same hs (by simp [Ne.symm hne.2.1, Ne.symm hne.2.2])
    replace hS := hS.trans hs (by simp)
    replace hgl := Nat.le_trans hgl hs.size
    replace hr := hr'
    have hrow : ∃ F, Row w2 p.g p.t p.n F ∧ (∀ i, i < j + 1 → F (p.o + i) = .int .u32 (bts p.E (32 * i) 32 : Nat)) ∧ (∀ i, i < p.o ∨ p.o + 32 ≤ i → F i = p.f i) := by
      refine ⟨_, hF', fun i hi => ?_, fun i hi => ?_⟩
      · unfold upd
        by_cases hij : i = j
        · subst hij
          rw [if_pos rfl, show 8 * (4 * i) = 32 * i by omega]
          rfl
        · rw [if_neg (by omega)]
          exact hF1 i (by omega)
      · unfold upd
        rw [if_neg (by omega)]
        exact hF2 i hi
    refine WR.nil (WN.block ?_)
    refine WN.seq (WC.region ?_)
    (refine WR.bin rfl rfl (ar_add (wrap_i64 ?_ ?_)) rfl ?_; (omega); (omega))
    refine WR.move rfl rfl ?_
    refine WR.nil ?_
    exact WN.loop (m - 1) (j + 1) (by omega) ⟨kint rfl (by omega), rfl, rfl, rfl, trivial⟩ ⟨by omega, ⟨_, hr⟩, hd, hrow, hS, hgl⟩
  · skip
    simp only [decide_eq_false_iff_not, Int.not_lt] at h1862
    obtain rfl : j = 32 := by omega
    refine WC.exit rfl ?_
    refine WN.endR rfl rfl ?_
    exact ⟨rfl, F, hF, hF1, hF2, hS⟩

end Go.Proofs.YthmknddfkmklfaaGreatDoor.Vm
