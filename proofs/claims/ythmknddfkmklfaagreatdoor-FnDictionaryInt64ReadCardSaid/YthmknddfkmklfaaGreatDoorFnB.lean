/- The reader under the bit reader: what ReadAt, Read, Seek and the conversion of eight bytes do. -/
import Derived.Test.YthmknddfkmklfaaGreatDoorFacts
import Derived.Test.YthmknddfkmklfaaGreatDoorStructs
import Derived.Test.YthmknddfkmklfaaGreatDoorNum
namespace Go.Proofs.YthmknddfkmklfaaGreatDoor.Vm
open Go Mix Go.RowKit Num
set_option maxRecDepth 20000
set_option linter.unusedSimpArgs false
def byt (d : Nat → Nat) : Nat → Value := fun i => .int .u8 (d i)
/-- what a reader answers beside the number: nil, or that the end was met -/
def eofV (aE : Addr) (b : Bool) : Value := bif b then .iface 127 (.pointer (some aE)) else .nilIface
theorem notNil_eof (aE : Addr) (b : Bool) : notNil (eofV aE b) = some b := by cases b <;> rfl
theorem rng_zero (f : Nat → Value) : (List.range 0).map f = [] := rfl
theorem ovr_nil (f : Nat → Value) (o : Nat) : ovr f o [] = f := by funext i; unfold ovr; rw [if_neg (by simp)]
theorem readAt {w : World} {aE aU aP : Addr} (hg : Glob w aE aU aP) (rb : RB) (db dO len cap g o dl dc t n : Nat) (p r off : Int) (d : Nat → Nat) (f : Nat → Value) (hgg : 6 ≤ g) (hr : RD w rb db dO len cap p r) (hd : Rd w db (dO - 1) len (byt d)) (hnz : 0 < len → 0 < dO) (hb : Row w g t n f) (hcap : len ≤ cap) (hfit : o + dl ≤ n) (hlen : len ≤ 4611686018427387904) (hdl : 0 < dl) (hdl2 : dl ≤ 4611686018427387904) (h0 : 0 ≤ off) :
    Ret Tryz.prog 148 #[.pointer (some ⟨rb, rb.off, none⟩), .slice (some ⟨g, o, none⟩) dl dc, .int .i64 off] w fun v w' => ∃ k : Nat, k = min (len - off.toNat) dl ∧ v = .tuple #[.int .i64 k, eofV aE (decide (k < dl))] ∧ Row w' g t n (ovr f o ((List.range k).map fun i => byt d (off.toNat + i))) ∧ Same [g] w w' := by
  refine Ret.enter (vs := [.pointer (some ⟨rb, rb.off, none⟩), .slice (some ⟨g, o, none⟩) dl dc, .int .i64 off]) Tryz.func148 Tryz.ntmps148 rfl rfl ?_
  refine WC.seq (WC.region ?_)
  refine WR.assign rfl rfl ?_
  refine WR.assign rfl rfl ?_
  refine WR.nil (WN.seq ?_)
  refine WC.seq (WC.seq (WC.region ?_))
  refine WR.move rfl rfl ?_
  refine WR.bin rfl rfl rfl rfl ?_
  refine WR.nil (WN.seq ?_)
  refine WC.cond rfl (fun h52 => ?_) (fun h52 => ?_)
  · skip
    simp only [decide_eq_true_eq] at h52
    omega
  · skip
    simp only [decide_eq_false_iff_not, Int.not_lt] at h52
    refine WC.skip (WN.seq ?_)
    refine WC.seq (WC.seq (WC.region ?_))
    refine WR.move rfl rfl ?_
    refine WR.move rfl rfl ?_
    refine WR.nilCheckP rfl rfl ?_
    refine WR.field rfl fa73_0 rfl ?_
    refine WR.load rfl Tryz.underlying28 rfl hr.c0 rfl ?_
    refine WR.lenS rfl Tryz.underlying28 rfl ?_
    refine WR.bin rfl rfl rfl rfl ?_
    refine WR.nil (WN.seq ?_)
    refine WC.cond rfl (fun h55 => ?_) (fun h55 => ?_)
    · skip
      simp only [ge_iff_le, decide_eq_true_eq] at h55
      (try omega)
      refine WC.seq ?_
      refine WC.mix [] mixed (by kernel_rfl) ?_
      replace hg := hg.same (Same.drew _) (by simp <;> omega)
      refine WR.load rfl Tryz.underlying54 rfl hg.eof rfl ?_
      refine WR.assign rfl rfl ?_
      refine WR.assign rfl rfl ?_
      refine WR.nil (WN.seq ?_)
      refine WC.retR rfl rfl ?_
      refine ⟨0, by omega, ?_, ?_, ?_⟩
      · rw [show decide (0 < dl) = true by simpa using hdl]; rfl
      · rw [rng_zero, ovr_nil]; exact hb
      · exact (Same.drew _).more (by simp)
    · skip
      simp only [ge_iff_le, decide_eq_false_iff_not, Int.not_le] at h55
      obtain ⟨dO, rfl⟩ : ∃ x, dO = x + 1 := ⟨dO - 1, by have := hnz (by omega); omega⟩
      simp only [Nat.add_sub_cancel] at hd
      have hsrc : Rd w db (if cap = off.toNat then dO else dO + off.toNat * 1) (min (len - off.toNat) dl) (fun i => byt d (off.toNat + i)) := by
        rw [if_neg (by omega)]
        intro i hi
        have := hd (off.toNat + i) (by omega)
        rwa [show dO + off.toNat * 1 + i = dO + (off.toNat + i) by omega]
      refine WC.skip (WN.seq ?_)
      refine WC.seq (WC.region ?_)
      refine WR.move rfl rfl ?_
      refine WR.move rfl rfl ?_
      refine WR.nilCheckP rfl rfl ?_
      refine WR.field rfl fa73_0 rfl ?_
      refine WR.load rfl Tryz.underlying28 rfl hr.c0 rfl ?_
      refine WR.move rfl rfl ?_
      refine WR.slice rfl Tryz.underlying28 sz5 rfl ⟨_, _, rfl, by omega, by omega, rfl⟩ rfl ?_
      refine WR.copyK (k := min (len - off.toNat) dl) rfl rfl Tryz.underlying28 sz5 (by simp [Nat.min_def]) hb (by omega) hsrc (fun _ _ => rfl) rfl rfl ?_
      intro w1 hn hs
      replace hb := hn
      replace hg := hg.same hs (by simp <;> omega)
      have hS := hs
      clear hn hs
      refine WR.assign rfl rfl ?_
      refine WR.nil (WN.seq ?_)
      refine WC.seq (WC.seq (WC.region ?_))
      refine WR.move rfl rfl ?_
      refine WR.move rfl rfl ?_
      refine WR.lenS rfl Tryz.underlying28 rfl ?_
      refine WR.bin rfl rfl rfl rfl ?_
      refine WR.nil (WN.seq ?_)
      refine WC.cond rfl (fun h59 => ?_) (fun h59 => ?_)
      · skip
        simp only [decide_eq_true_eq] at h59
        refine WC.region ?_
        refine WR.load rfl Tryz.underlying54 rfl hg.eof rfl ?_
        refine WR.assign rfl rfl ?_
        refine WR.nil (WN.seq ?_)
        refine WC.retR rfl rfl ?_
        refine ⟨_, rfl, ?_, hb, hS⟩
        first
          | (rw [show decide (min (len - off.toNat) dl < dl) = false by simp; omega]; rfl)
          | (rw [show decide (min (len - off.toNat) dl < dl) = true by simp; omega]; rfl)
      · skip
        simp only [decide_eq_false_iff_not, Int.not_lt] at h59
        refine WC.skip (WN.seq ?_)
        refine WC.retR rfl rfl ?_
        refine ⟨_, rfl, ?_, hb, hS⟩
        (rw [show decide (min (len - off.toNat) dl < dl) = false by simp; omega]; rfl)

theorem uint64 {w : World} (g o dc : Nat) (e : Nat → Nat) (z : Value) (hd : Rd w g o 8 (byt e)) (he : ∀ i, i < 8 → e i < 256) (hlt : g < w.heap.size) :
    Ret Tryz.prog 77 #[z, .slice (some ⟨g, o, none⟩) 8 dc] w fun v w' => v = .int .u64 (num e 8) ∧ Same [] w w' := by
  have hS := Same.refl [] w
  have e0 := he 0 (by decide)
  have e1 := he 1 (by decide)
  have e2 := he 2 (by decide)
  have e3 := he 3 (by decide)
  have e4 := he 4 (by decide)
  have e5 := he 5 (by decide)
  have e6 := he 6 (by decide)
  have e7 := he 7 (by decide)
  refine Ret.enter (vs := [z, .slice (some ⟨g, o, none⟩) 8 dc]) Tryz.func77 Tryz.ntmps77 rfl rfl ?_
  refine WC.seq (WC.region ?_)
  refine WR.box rfl rfl rfl ?_
  intro w1 hn hs
  replace hd := hd.same hs (by simp) hlt
  replace hlt := Nat.lt_of_lt_of_le hlt hs.size
  replace hS := hS.trans hs (by simp)
  clear hn hs
  refine WR.assign rfl rfl ?_
  refine WR.nil (WN.seq ?_)
  refine WC.seq (WC.region ?_)
  refine WR.move rfl rfl ?_
  refine WR.idx rfl rfl Tryz.underlying28 sz5 (by decide) (by decide) rfl ?_
  refine WR.load rfl Tryz.underlying5 rfl (hd 7 (by decide)) rfl ?_
  refine WR.nil (WN.seq (WC.seq ?_))
  refine WC.mix [] mixed (by kernel_rfl) ?_
  replace hd := hd.same (Same.drew _) (by simp) hlt
  replace hlt := Nat.lt_of_lt_of_le hlt (Same.drew _).size
  replace hS := hS.trans (Same.drew _) (by simp)
  refine WR.move rfl rfl ?_
  refine WR.idx rfl rfl Tryz.underlying28 sz5 (by decide) (by decide) rfl ?_
  refine WR.load rfl Tryz.underlying5 rfl (hd 0 (by decide)) rfl ?_
  (refine WR.conv rfl Tryz.underlying5 Tryz.underlying33 (wrap_u64 ?_ ?_) rfl ?_; (omega); (omega))
  refine WR.move rfl rfl ?_
  refine WR.idx rfl rfl Tryz.underlying28 sz5 (by decide) (by decide) rfl ?_
  refine WR.load rfl Tryz.underlying5 rfl (hd 1 (by decide)) rfl ?_
  (refine WR.conv rfl Tryz.underlying5 Tryz.underlying33 (wrap_u64 ?_ ?_) rfl ?_; (omega); (omega))
  (refine WR.shl rfl rfl (by decide) (shl_c (D := 256) rfl (wrap_u64 ?_ ?_)) rfl ?_; (omega); (omega))
  refine WR.bin rfl rfl (ar_or (D := 256) 8 rfl ?_ ?_ ?_ ?_) rfl ?_; (omega); (omega); (omega); (omega)
  refine WR.move rfl rfl ?_
  refine WR.idx rfl rfl Tryz.underlying28 sz5 (by decide) (by decide) rfl ?_
  refine WR.load rfl Tryz.underlying5 rfl (hd 2 (by decide)) rfl ?_
  (refine WR.conv rfl Tryz.underlying5 Tryz.underlying33 (wrap_u64 ?_ ?_) rfl ?_; (omega); (omega))
  (refine WR.shl rfl rfl (by decide) (shl_c (D := 65536) rfl (wrap_u64 ?_ ?_)) rfl ?_; (omega); (omega))
  refine WR.bin rfl rfl (ar_or (D := 65536) 16 rfl ?_ ?_ ?_ ?_) rfl ?_; (omega); (omega); (omega); (omega)
  refine WR.move rfl rfl ?_
  refine WR.idx rfl rfl Tryz.underlying28 sz5 (by decide) (by decide) rfl ?_
  refine WR.load rfl Tryz.underlying5 rfl (hd 3 (by decide)) rfl ?_
  (refine WR.conv rfl Tryz.underlying5 Tryz.underlying33 (wrap_u64 ?_ ?_) rfl ?_; (omega); (omega))
  (refine WR.shl rfl rfl (by decide) (shl_c (D := 16777216) rfl (wrap_u64 ?_ ?_)) rfl ?_; (omega); (omega))
  refine WR.bin rfl rfl (ar_or (D := 16777216) 24 rfl ?_ ?_ ?_ ?_) rfl ?_; (omega); (omega); (omega); (omega)
  refine WR.move rfl rfl ?_
  refine WR.idx rfl rfl Tryz.underlying28 sz5 (by decide) (by decide) rfl ?_
  refine WR.load rfl Tryz.underlying5 rfl (hd 4 (by decide)) rfl ?_
  (refine WR.conv rfl Tryz.underlying5 Tryz.underlying33 (wrap_u64 ?_ ?_) rfl ?_; (omega); (omega))
  (refine WR.shl rfl rfl (by decide) (shl_c (D := 4294967296) rfl (wrap_u64 ?_ ?_)) rfl ?_; (omega); (omega))
  refine WR.bin rfl rfl (ar_or (D := 4294967296) 32 rfl ?_ ?_ ?_ ?_) rfl ?_; (omega); (omega); (omega); (omega)
  refine WR.move rfl rfl ?_
  refine WR.idx rfl rfl Tryz.underlying28 sz5 (by decide) (by decide) rfl ?_
  refine WR.load rfl Tryz.underlying5 rfl (hd 5 (by decide)) rfl ?_
  (refine WR.conv rfl Tryz.underlying5 Tryz.underlying33 (wrap_u64 ?_ ?_) rfl ?_; (omega); (omega))
  (refine WR.shl rfl rfl (by decide) (shl_c (D := 1099511627776) rfl (wrap_u64 ?_ ?_)) rfl ?_; (omega); (omega))
  refine WR.bin rfl rfl (ar_or (D := 1099511627776) 40 rfl ?_ ?_ ?_ ?_) rfl ?_; (omega); (omega); (omega); (omega)
  refine WR.move rfl rfl ?_
  refine WR.idx rfl rfl Tryz.underlying28 sz5 (by decide) (by decide) rfl ?_
  refine WR.load rfl Tryz.underlying5 rfl (hd 6 (by decide)) rfl ?_
  (refine WR.conv rfl Tryz.underlying5 Tryz.underlying33 (wrap_u64 ?_ ?_) rfl ?_; (omega); (omega))
  (refine WR.shl rfl rfl (by decide) (shl_c (D := 281474976710656) rfl (wrap_u64 ?_ ?_)) rfl ?_; (omega); (omega))
  refine WR.bin rfl rfl (ar_or (D := 281474976710656) 48 rfl ?_ ?_ ?_ ?_) rfl ?_; (omega); (omega); (omega); (omega)
  refine WR.move rfl rfl ?_
  refine WR.idx rfl rfl Tryz.underlying28 sz5 (by decide) (by decide) rfl ?_
  refine WR.load rfl Tryz.underlying5 rfl (hd 7 (by decide)) rfl ?_
  (refine WR.conv rfl Tryz.underlying5 Tryz.underlying33 (wrap_u64 ?_ ?_) rfl ?_; (omega); (omega))
  (refine WR.shl rfl rfl (by decide) (shl_c (D := 72057594037927936) rfl (wrap_u64 ?_ ?_)) rfl ?_; (omega); (omega))
  refine WR.bin rfl rfl (ar_or (D := 72057594037927936) 56 rfl ?_ ?_ ?_ ?_) rfl ?_; (omega); (omega); (omega); (omega)
  refine WR.assign rfl rfl ?_
  refine WR.nil (WN.seq ?_)
  refine WC.retR rfl rfl ?_
  refine ⟨?_, hS⟩
  refine congrArg (Value.int IntKind.u64) ?_
  exact num8i e
end Go.Proofs.YthmknddfkmklfaaGreatDoor.Vm
