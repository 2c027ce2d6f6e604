/- The reader's Read and Seek; io.ReadFull over it where enough is there. -/
import Derived.Test.YthmknddfkmklfaaGreatDoorFnC
namespace Go.Proofs.YthmknddfkmklfaaGreatDoor.Vm
open Go Mix Go.RowKit Num
set_option maxRecDepth 20000
set_option linter.unusedSimpArgs false
/-- the reader's row apart from its data -/
structure Src2 (w : World) (rb : RB) (db dO len cap : Nat) (d : Nat → Nat) : Prop where
  data : Rd w db (dO - 1) len (byt d)
  small : ∀ i, i < len → d i < 256
  cap_ : len ≤ cap
  len_ : len ≤ 1099511627776
  lt : db < w.heap.size
  nz : 0 < len → 0 < dO
theorem Src2.same {w w' : World} {S : List Nat} {rb : RB} {db dO len cap : Nat} {d : Nat → Nat} (h : Src2 w rb db dO len cap d) (hs : Same S w w') (h2 : db ∉ S) : Src2 w' rb db dO len cap d :=
  ⟨h.data.same hs h2 h.lt, h.small, h.cap_, h.len_, Nat.lt_of_lt_of_le h.lt hs.size, h.nz⟩
theorem Src.two {w : World} {rb : RB} {db dO len cap : Nat} {p r : Int} {d : Nat → Nat} (h : Src w rb db dO len cap p r d) : Src2 w rb db dO len cap d := ⟨h.data, h.small, h.cap_, h.len_, h.lt, h.nz⟩
theorem Src.of_two {w : World} {rb : RB} {db dO len cap : Nat} {p r : Int} {d : Nat → Nat} (h : Src2 w rb db dO len cap d) (hr : RD w rb db dO len cap p r) (ht : 6 ≤ rb.blk) : Src w rb db dO len cap p r d := ⟨hr, h.data, h.small, h.cap_, h.len_, h.lt, ht, h.nz⟩
theorem seek {w : World} (rb : RB) (db dO len cap : Nat) (p r x : Int) (hr : RD w rb db dO len cap p r) (h0 : 0 ≤ x) :
    Ret Tryz.prog 150 #[.pointer (some ⟨rb, rb.off, none⟩), .int .i64 x, .int .i64 0] w fun v w' => v = .tuple #[.int .i64 x, .nilIface] ∧ RD w' rb db dO len cap x (-1) ∧ Same [rb.blk] w w' := by
  have hS := Same.refl [rb.blk] w
  refine Ret.enter (vs := [.pointer (some ⟨rb, rb.off, none⟩), .int .i64 x, .int .i64 0]) Tryz.func150 Tryz.ntmps150 rfl rfl ?_
  refine WC.seq (WC.region ?_)
  refine WR.assign rfl rfl ?_
  refine WR.assign rfl rfl ?_
  refine WR.nil (WN.seq ?_)
  refine WC.seq (WC.region ?_)
  refine WR.move rfl rfl ?_
  refine WR.nilCheckP rfl rfl ?_
  refine WR.field rfl fa73_2 rfl ?_
  refine WR.storeK rfl rfl rfl sz3 hr.c2 (hr.fz 2) ?_
  intro w1 hn hs
  replace hr := hr.s2 hn
  replace hS := hS.trans hs (by simp)
  clear hn hs
  refine WR.nil (WN.seq ?_)
  refine WC.seq (WC.region ?_)
  refine WR.assign rfl rfl ?_
  refine WR.nil (WN.seq ?_)
  refine WC.seq (WC.seq (WC.region ?_))
  refine WR.move rfl rfl ?_
  refine WR.nil (WN.seq ?_)
  refine WC.block (WC.seq (WC.region ?_))
  refine WR.bin rfl rfl rfl rfl ?_
  refine WR.assign rfl rfl ?_
  refine WR.nil (WN.seq ?_)
  refine WC.cond rfl (fun h120 => ?_) (fun h120 => ?_)
  · skip
    simp only [beq_iff_eq] at h120
    refine WC.region ?_
    refine WR.move rfl rfl ?_
    refine WR.assign rfl rfl ?_
    refine WR.nil (WN.block ?_)
    refine WN.seq (WC.seq ?_)
    refine WC.seq (WC.region ?_)
    refine WR.move rfl rfl ?_
    refine WR.bin rfl rfl rfl rfl ?_
    refine WR.nil (WN.seq ?_)
    refine WC.cond rfl (fun h129 => ?_) (fun h129 => ?_)
    · skip
      simp only [decide_eq_true_eq] at h129
      omega
    · skip
      simp only [decide_eq_false_iff_not, Int.not_lt] at h129
      refine WC.skip (WN.seq ?_)
      refine WC.seq (WC.region ?_)
      refine WR.move rfl rfl ?_
      refine WR.move rfl rfl ?_
      refine WR.nilCheckP rfl rfl ?_
      refine WR.field rfl fa73_1 rfl ?_
      refine WR.storeK rfl rfl rfl sz2 hr.c1 (hr.fz 1) ?_
      intro w2 hn hs
      replace hr := hr.s1 hn
      replace hS := hS.trans hs (by simp)
      clear hn hs
      refine WR.nil (WN.seq ?_)
      refine WC.seq (WC.region ?_)
      refine WR.move rfl rfl ?_
      refine WR.assign rfl rfl ?_
      refine WR.assign rfl rfl ?_
      refine WR.nil (WN.seq ?_)
      refine WC.retR rfl rfl ?_
      exact ⟨rfl, hr, hS⟩
  · skip
    cases h120

theorem read {w : World} (rb : RB) (db dO len cap g o dl dc t n q : Nat) (r : Int) (d : Nat → Nat) (f : Nat → Value) (hr : RD w rb db dO len cap q r) (hd : Src2 w rb db dO len cap d) (hb : Row w g t n f) (hfit : o + dl ≤ n) (hall : q + dl ≤ len) (hdl : 0 < dl) (hne : g ≠ rb.blk) (hnd : g ≠ db) (hrd : rb.blk ≠ db) :
    Ret Tryz.prog 147 #[.pointer (some ⟨rb, rb.off, none⟩), .slice (some ⟨g, o, none⟩) dl dc] w fun v w' => v = .tuple #[.int .i64 dl, .nilIface] ∧ RD w' rb db dO len cap (q + dl : Nat) (-1) ∧ Row w' g t n (ovr f o ((List.range dl).map fun i => byt d (q + i))) ∧ Same [g, rb.blk] w w' := by
  have hS := Same.refl [g, rb.blk] w
  have hcap := hd.cap_
  have hlen := hd.len_
  refine Ret.enter (vs := [.pointer (some ⟨rb, rb.off, none⟩), .slice (some ⟨g, o, none⟩) dl dc]) Tryz.func147 Tryz.ntmps147 rfl rfl ?_
  refine WC.seq (WC.region ?_)
  refine WR.assign rfl rfl ?_
  refine WR.assign rfl rfl ?_
  refine WR.nil (WN.seq ?_)
  refine WC.seq (WC.seq ?_)
  refine WC.mix [] mixed (by kernel_rfl) ?_
  replace hS := hS.trans (Same.drew _) (by simp)
  replace hr := hr.same (Same.drew _) (by simp <;> omega)
  replace hb := hb.same (Same.drew _) (by simp <;> omega)
  replace hd := hd.same (Same.drew _) (by simp <;> omega)
  refine WR.move rfl rfl ?_
  refine WR.nilCheckP rfl rfl ?_
  refine WR.field rfl fa73_1 rfl ?_
  refine WR.load rfl Tryz.underlying2 rfl hr.c1 rfl ?_
  refine WR.move rfl rfl ?_
  refine WR.nilCheckP rfl rfl ?_
  refine WR.field rfl fa73_0 rfl ?_
  refine WR.load rfl Tryz.underlying28 rfl hr.c0 rfl ?_
  refine WR.lenS rfl Tryz.underlying28 rfl ?_
  refine WR.bin rfl rfl rfl rfl ?_
  refine WR.nil (WN.seq ?_)
  refine WC.cond rfl (fun h40 => ?_) (fun h40 => ?_)
  · skip
    simp only [ge_iff_le, decide_eq_true_eq] at h40
    omega
  · skip
    simp only [ge_iff_le, decide_eq_false_iff_not, Int.not_le] at h40
    obtain ⟨dO, rfl⟩ : ∃ x, dO = x + 1 := ⟨dO - 1, by have := hd.nz (by omega); omega⟩
    have hsrc : ∀ {w9 : World}, Src2 w9 rb db (dO + 1) len cap d → Rd w9 db (if cap = Int.toNat (q : Int) then dO else dO + Int.toNat (q : Int) * 1) dl (fun i => byt d (q + i)) := by
      intro w9 hd
      rw [if_neg (by omega)]
      intro i hi
      have := hd.data (q + i) (by omega)
      simp only [Nat.add_sub_cancel] at this
      rwa [show dO + Int.toNat (q : Int) * 1 + i = dO + (q + i) by omega]
    refine WC.skip (WN.seq ?_)
    refine WC.seq (WC.region ?_)
    refine WR.move rfl rfl ?_
    refine WR.nilCheckP rfl rfl ?_
    refine WR.field rfl fa73_2 rfl ?_
    refine WR.storeK rfl rfl rfl sz3 hr.c2 (hr.fz 2) ?_
    intro w1 hn hs
    replace hr := hr.s2 hn
    replace hS := hS.trans hs (by simp)
    replace hb := hb.same hs (by simp <;> omega)
    replace hd := hd.same hs (by simp <;> omega)
    clear hn hs
    refine WR.nil (WN.seq (WC.seq ?_))
    refine WC.mix [] mixed (by kernel_rfl) ?_
    replace hS := hS.trans (Same.drew _) (by simp)
    replace hr := hr.same (Same.drew _) (by simp <;> omega)
    replace hb := hb.same (Same.drew _) (by simp <;> omega)
    replace hd := hd.same (Same.drew _) (by simp <;> omega)
    refine WR.move rfl rfl ?_
    refine WR.move rfl rfl ?_
    refine WR.nilCheckP rfl rfl ?_
    refine WR.field rfl fa73_0 rfl ?_
    refine WR.load rfl Tryz.underlying28 rfl hr.c0 rfl ?_
    refine WR.move rfl rfl ?_
    refine WR.nilCheckP rfl rfl ?_
    refine WR.field rfl fa73_1 rfl ?_
    refine WR.load rfl Tryz.underlying2 rfl hr.c1 rfl ?_
    refine WR.slice rfl Tryz.underlying28 sz5 rfl ⟨_, _, rfl, by omega, by omega, rfl⟩ rfl ?_
    refine WR.copyK (k := dl) rfl rfl Tryz.underlying28 sz5 (by simp [Nat.min_def]; omega) hb (by omega) (hsrc hd) (fun _ _ => rfl) rfl rfl ?_
    intro w2 hn hs
    replace hb := hn
    replace hS := hS.trans hs (by simp)
    replace hr := hr.same hs (by simp <;> omega)
    replace hd := hd.same hs (by simp <;> omega)
    clear hn hs
    refine WR.assign rfl rfl ?_
    refine WR.nil (WN.seq ?_)
    refine WC.seq (WC.region ?_)
    refine WR.move rfl rfl ?_
    refine WR.nilCheckP rfl rfl ?_
    refine WR.field rfl fa73_1 rfl ?_
    refine WR.load rfl Tryz.underlying2 rfl hr.c1 rfl ?_
    refine WR.move rfl rfl ?_
    (refine WR.bin rfl rfl (ar_add (z := ((q + dl : Nat) : Int)) ?_) rfl ?_; (rw [wrap_i64 (by omega) (by omega)]; omega))
    refine WR.nilCheckP rfl rfl ?_
    refine WR.field rfl fa73_1 rfl ?_
    refine WR.storeK rfl rfl rfl sz2 hr.c1 (hr.fz 1) ?_
    intro w3 hn hs
    replace hr := hr.s1 hn
    replace hS := hS.trans hs (by simp)
    replace hb := hb.same hs (by simp <;> omega)
    replace hd := hd.same hs (by simp <;> omega)
    clear hn hs
    refine WR.nil (WN.seq ?_)
    refine WC.retR rfl rfl ?_
    exact ⟨rfl, hr, hb, hS⟩

set_option maxHeartbeats 800000 in
theorem readAtLeast {w : World} (rb : RB) (db dO len cap g o dl dc t n q : Nat) (r : Int) (d : Nat → Nat) (f : Nat → Value) (hr : RD w rb db dO len cap q r) (hd : Src2 w rb db dO len cap d) (hb : Row w g t n f) (hfit : o + dl ≤ n) (hall : q + dl ≤ len) (hdl : 0 < dl) (hdc : dl ≤ dc) (hne : g ≠ rb.blk) (hnd : g ≠ db) (hrd : rb.blk ≠ db) :
    Ret Tryz.prog 120 #[.iface 120 (.pointer (some ⟨rb, rb.off, none⟩)), .slice (some ⟨g, o, none⟩) dl dc, .int .i64 dl] w fun v w' => v = .tuple #[.int .i64 dl, .nilIface] ∧ RD w' rb db dO len cap (q + dl : Nat) (-1) ∧ Row w' g t n (ovr f o ((List.range dl).map fun i => byt d (q + i))) ∧ Same [g, rb.blk] w w' := by
  have hS := Same.refl [g, rb.blk] w
  have hlen := hd.len_
  refine Ret.enter (vs := [.iface 120 (.pointer (some ⟨rb, rb.off, none⟩)), .slice (some ⟨g, o, none⟩) dl dc, .int .i64 dl]) Tryz.func120 Tryz.ntmps120 rfl rfl ?_
  refine WC.seq (WC.region ?_)
  refine WR.assign rfl rfl ?_
  refine WR.assign rfl rfl ?_
  refine WR.nil (WN.seq ?_)
  refine WC.seq (WC.seq (WC.region ?_))
  refine WR.move rfl rfl ?_
  refine WR.lenS rfl Tryz.underlying28 rfl ?_
  refine WR.move rfl rfl ?_
  refine WR.bin rfl rfl rfl rfl ?_
  refine WR.nil (WN.seq ?_)
  refine WC.cond rfl (fun h330 => ?_) (fun h330 => ?_)
  · skip
    simp only [decide_eq_true_eq] at h330
    omega
  · skip
    simp only [decide_eq_false_iff_not, Int.not_lt] at h330
    refine WC.skip (WN.seq ?_)
    refine WC.seq (WC.block ?_)
    refine WC.loop (fun j : Nat => [(0, .iface 120 (.pointer (some ⟨rb, rb.off, none⟩))), (1, .slice (some ⟨g, o, none⟩) dl dc), (2, .int .i64 dl), (6, .int .i64 j), (7, .nilIface)]) (fun m j w' => ((j = 0 ∧ m = 1 ∧ RD w' rb db dO len cap q r ∧ Row w' g t n f) ∨ (j = dl ∧ m = 0 ∧ RD w' rb db dO len cap (q + dl : Nat) (-1) ∧ Row w' g t n (ovr f o ((List.range dl).map fun i => byt d (q + i))))) ∧ Src2 w' rb db dO len cap d ∧ Same [g, rb.blk] w w') 1 0 ⟨rfl, rfl, rfl, rfl, rfl, trivial⟩ ⟨.inl ⟨rfl, rfl, hr, hb⟩, hd, hS⟩ ?_
    clear hr hb hd hS
    rintro m j w1 ⟨⟨rfl, rfl, hr, hb⟩ | ⟨rfl, rfl, hr, hb⟩, hd, hS⟩
    · skip
      refine WC.seq (WC.seq (WC.region ?_))
      refine WR.move rfl rfl ?_
      refine WR.move rfl rfl ?_
      refine WR.bin rfl rfl rfl rfl ?_
      refine WR.move rfl rfl ?_
      refine WR.take rfl rfl (by first | rfl | assumption | simp_all) ?_
      refine WR.move rfl rfl ?_
      refine WR.take rfl rfl (by first | rfl | assumption | simp_all) ?_
      refine WR.eqlNil rfl rfl Tryz.underlying54 rfl ?_
      refine WR.pickT rfl (by first | rfl | assumption | simp_all) rfl rfl ?_
      refine WR.nil (WN.seq ?_)
      refine WC.cond rfl (fun h333 => ?_) (fun h333 => ?_)
      · skip
        refine WC.skip (WN.seq ?_)
        refine WC.block (WC.seq (WC.region ?_))
        refine WR.assign rfl rfl ?_
        refine WR.nil (WN.seq (WC.seq ?_))
        refine WC.mix [] mixed (by kernel_rfl) ?_
        replace hS := hS.trans (Same.drew _) (by simp)
        replace hr := hr.same (Same.drew _) (by simp <;> omega)
        replace hb := hb.same (Same.drew _) (by simp <;> omega)
        replace hd := hd.same (Same.drew _) (by simp <;> omega)
        refine WR.move rfl rfl ?_
        refine WR.move rfl rfl ?_
        refine WR.move rfl rfl ?_
        refine WR.slice rfl Tryz.underlying28 sz5 rfl ⟨_, _, rfl, by omega, by omega, rfl⟩ rfl ?_
        refine WR.mkMethod rfl rfl ?_
        refine WR.nilCheckF rfl naRdr_Read rfl ?_
        refine WR.move rfl rfl ?_
        refine WR.invoke rfl rfl rfl mtRdr_Read cf147 rfl rfl (read rb db dO len cap g (if dc = 0 then o else o + 0 * 1) (dl - 0) (dc - 0) t n q r d f hr hd hb (by rw [if_neg (by omega)]; omega) (by omega) (by omega) hne hnd hrd) ?_
        rintro _ w2 ⟨rfl, hr', hb', hs⟩
        replace hr := hr'
        rw [if_neg (by omega)] at hb'
        replace hb := hb'
        clear hr' hb'
        replace hS := hS.trans hs (by simp)
        replace hd := hd.same hs (by simp <;> omega)
        refine WR.move rfl rfl ?_
        refine WR.extract rfl rfl rfl ?_
        refine WR.extract rfl rfl rfl ?_
        refine WR.assign rfl rfl ?_
        refine WR.assign rfl rfl ?_
        refine WR.nil (WN.seq (WC.region ?_))
        refine WR.move rfl rfl ?_
        refine WR.move rfl rfl ?_
        (refine WR.bin rfl rfl (ar_add (wrap_i64 ?_ ?_)) rfl ?_; (omega); (omega))
        refine WR.assign rfl rfl ?_
        refine WR.nil (WN.block ?_)
        exact WN.loop 0 dl (by decide) ⟨rfl, rfl, rfl, kint rfl (by omega), rfl, trivial⟩ ⟨.inr ⟨rfl, rfl, hr, hb⟩, hd, hS⟩
      · skip
        cases h333
    · skip
      refine WC.seq (WC.seq (WC.region ?_))
      refine WR.move rfl rfl ?_
      refine WR.move rfl rfl ?_
      refine WR.bin rfl rfl rfl rfl ?_
      refine WR.move rfl rfl ?_
      refine WR.pass rfl rfl rfl (by first | rfl | assumption | simp_all) ?_
      refine WR.pass rfl rfl rfl (by first | rfl | assumption | simp_all) ?_
      refine WR.pickF rfl (by first | rfl | assumption | simp_all) rfl rfl ?_
      refine WR.nil (WN.seq ?_)
      refine WC.cond rfl (fun h333 => ?_) (fun h333 => ?_)
      · skip
        cases h333
      · skip
        simp only at h333
        refine WC.exit rfl ?_
        refine WN.seq (WC.seq ?_)
        refine WC.seq (WC.region ?_)
        refine WR.move rfl rfl ?_
        refine WR.move rfl rfl ?_
        refine WR.bin rfl rfl rfl rfl ?_
        refine WR.nil (WN.seq ?_)
        refine WC.cond rfl (fun h338 => ?_) (fun h338 => ?_)
        · skip
          simp only [ge_iff_le, decide_eq_true_eq] at h338
          refine WC.region ?_
          refine WR.assign rfl rfl ?_
          refine WR.nil (WN.seq ?_)
          refine WC.retR rfl rfl ?_
          exact ⟨rfl, hr, hb, hS⟩
        · skip
          simp only [ge_iff_le, decide_eq_false_iff_not, Int.not_le] at h338
          omega

theorem readFull {w : World} (rb : RB) (db dO len cap g o dl dc t n q : Nat) (r : Int) (d : Nat → Nat) (f : Nat → Value) (hr : RD w rb db dO len cap q r) (hd : Src2 w rb db dO len cap d) (hb : Row w g t n f) (hfit : o + dl ≤ n) (hall : q + dl ≤ len) (hdl : 0 < dl) (hdc : dl ≤ dc) (hne : g ≠ rb.blk) (hnd : g ≠ db) (hrd : rb.blk ≠ db) :
    Ret Tryz.prog 116 #[.iface 120 (.pointer (some ⟨rb, rb.off, none⟩)), .slice (some ⟨g, o, none⟩) dl dc] w fun v w' => v = .tuple #[.int .i64 dl, .nilIface] ∧ RD w' rb db dO len cap (q + dl : Nat) (-1) ∧ Row w' g t n (ovr f o ((List.range dl).map fun i => byt d (q + i))) ∧ Same [g, rb.blk] w w' := by
  have hS := Same.refl [g, rb.blk] w
  refine Ret.enter (vs := [.iface 120 (.pointer (some ⟨rb, rb.off, none⟩)), .slice (some ⟨g, o, none⟩) dl dc]) Tryz.func116 Tryz.ntmps116 rfl rfl ?_
  refine WC.seq (WC.region ?_)
  refine WR.assign rfl rfl ?_
  refine WR.assign rfl rfl ?_
  refine WR.nil (WN.seq ?_)
  refine WC.seq (WC.region ?_)
  refine WR.move rfl rfl ?_
  refine WR.move rfl rfl ?_
  refine WR.move rfl rfl ?_
  refine WR.lenS rfl Tryz.underlying28 rfl ?_
  refine WR.callF rfl rfl cf120 rfl rfl (readAtLeast rb db dO len cap g o dl dc t n q r d f hr hd hb hfit hall hdl hdc hne hnd hrd) ?_
  rintro _ w1 ⟨rfl, hr', hb', hs⟩
  replace hr := hr'
  replace hb := hb'
  clear hr' hb'
  replace hS := hS.trans hs (by simp)
  refine WR.extract rfl rfl rfl ?_
  refine WR.extract rfl rfl rfl ?_
  refine WR.assign rfl rfl ?_
  refine WR.assign rfl rfl ?_
  refine WR.nil (WN.seq ?_)
  refine WC.retR rfl rfl ?_
  exact ⟨rfl, hr, hb, hS⟩

theorem uint32 {w : World} (g o dc : Nat) (e : Nat → Nat) (z : Value) (hd : Rd w g o 4 (byt e)) (he : ∀ i, i < 4 → e i < 256) (hlt : g < w.heap.size) :
    Ret Tryz.prog 80 #[z, .slice (some ⟨g, o, none⟩) 4 dc] w fun v w' => v = .int .u32 (num e 4) ∧ Same [] w w' := by
  have hS := Same.refl [] w
  have e0 := he 0 (by decide)
  have e1 := he 1 (by decide)
  have e2 := he 2 (by decide)
  have e3 := he 3 (by decide)
  refine Ret.enter (vs := [z, .slice (some ⟨g, o, none⟩) 4 dc]) Tryz.func80 Tryz.ntmps80 rfl rfl ?_
  refine WC.seq (WC.region ?_)
  refine WR.box rfl rfl rfl ?_
  intro w1 hn hs
  replace hd := hd.same hs (by simp) hlt
  replace hlt := Nat.lt_of_lt_of_le hlt hs.size
  replace hS := hS.trans hs (by simp)
  clear hn hs
  refine WR.assign rfl rfl ?_
  refine WR.nil (WN.seq ?_)
  refine WC.seq (WC.region ?_)
  refine WR.move rfl rfl ?_
  refine WR.idx rfl rfl Tryz.underlying28 sz5 (by decide) (by decide) rfl ?_
  refine WR.load rfl Tryz.underlying5 rfl (hd 3 (by decide)) rfl ?_
  refine WR.nil (WN.seq (WC.seq ?_))
  refine WC.mix [] mixed (by kernel_rfl) ?_
  replace hd := hd.same (Same.drew _) (by simp) hlt
  replace hlt := Nat.lt_of_lt_of_le hlt (Same.drew _).size
  replace hS := hS.trans (Same.drew _) (by simp)
  refine WR.move rfl rfl ?_
  refine WR.idx rfl rfl Tryz.underlying28 sz5 (by decide) (by decide) rfl ?_
  refine WR.load rfl Tryz.underlying5 rfl (hd 0 (by decide)) rfl ?_
  (refine WR.conv rfl Tryz.underlying5 Tryz.underlying109 (wrap_u32 ?_ ?_) rfl ?_; (omega); (omega))
  refine WR.move rfl rfl ?_
  refine WR.idx rfl rfl Tryz.underlying28 sz5 (by decide) (by decide) rfl ?_
  refine WR.load rfl Tryz.underlying5 rfl (hd 1 (by decide)) rfl ?_
  (refine WR.conv rfl Tryz.underlying5 Tryz.underlying109 (wrap_u32 ?_ ?_) rfl ?_; (omega); (omega))
  (refine WR.shl rfl rfl (by decide) (shl_c (D := 256) rfl (wrap_u32 ?_ ?_)) rfl ?_; (omega); (omega))
  refine WR.bin rfl rfl (ar_or32 (D := 256) 8 rfl ?_ ?_ ?_ ?_) rfl ?_; (omega); (omega); (omega); (omega)
  refine WR.move rfl rfl ?_
  refine WR.idx rfl rfl Tryz.underlying28 sz5 (by decide) (by decide) rfl ?_
  refine WR.load rfl Tryz.underlying5 rfl (hd 2 (by decide)) rfl ?_
  (refine WR.conv rfl Tryz.underlying5 Tryz.underlying109 (wrap_u32 ?_ ?_) rfl ?_; (omega); (omega))
  (refine WR.shl rfl rfl (by decide) (shl_c (D := 65536) rfl (wrap_u32 ?_ ?_)) rfl ?_; (omega); (omega))
  refine WR.bin rfl rfl (ar_or32 (D := 65536) 16 rfl ?_ ?_ ?_ ?_) rfl ?_; (omega); (omega); (omega); (omega)
  refine WR.move rfl rfl ?_
  refine WR.idx rfl rfl Tryz.underlying28 sz5 (by decide) (by decide) rfl ?_
  refine WR.load rfl Tryz.underlying5 rfl (hd 3 (by decide)) rfl ?_
  (refine WR.conv rfl Tryz.underlying5 Tryz.underlying109 (wrap_u32 ?_ ?_) rfl ?_; (omega); (omega))
  (refine WR.shl rfl rfl (by decide) (shl_c (D := 16777216) rfl (wrap_u32 ?_ ?_)) rfl ?_; (omega); (omega))
  refine WR.bin rfl rfl (ar_or32 (D := 16777216) 24 rfl ?_ ?_ ?_ ?_) rfl ?_; (omega); (omega); (omega); (omega)
  refine WR.assign rfl rfl ?_
  refine WR.nil (WN.seq ?_)
  refine WC.retR rfl rfl ?_
  refine ⟨?_, hS⟩
  refine congrArg (Value.int IntKind.u32) ?_
  exact num4i e

theorem zv4 (w : World) : (zeroValue 201).run Tryz.prog w = .ok (.agg #[.int .u8 0, .int .u8 0, .int .u8 0, .int .u8 0]) w := by kernel_rfl
theorem ovr_at {f : Nat → Value} {o : Nat} {cs : List Value} {i : Nat} (h : i < cs.length) : ovr f o cs (o + i) = cs[i] := by
  unfold ovr
  rw [if_pos (by omega), show o + i - o = i by omega]
  simp [h]

set_option maxHeartbeats 400000 in
theorem readLittle {w : World} (rb : RB) (db dO len cap g i t n q : Nat) (r : Int) (d : Nat → Nat) (f : Nat → Value) (hr : RD w rb db dO len cap q r) (hd : Src2 w rb db dO len cap d) (hb : Row w g t n f) (hi : i < n) (hall : q + 4 ≤ len) (hne : g ≠ rb.blk) (hnd : g ≠ db) (hrd : rb.blk ≠ db) (hgl : 6 ≤ w.heap.size) :
    Ret Tryz.prog 119 #[.iface 120 (.pointer (some ⟨rb, rb.off, none⟩)), .pointer (some ⟨g, i, none⟩)] w fun v w' => v = .tuple #[] ∧ RD w' rb db dO len cap (q + 4 : Nat) (-1) ∧ Row w' g t n (upd f i (.int .u32 (bts (num d len) (8 * q) 32 : Nat))) ∧ Same [g, rb.blk] w w' := by
  have hS := Same.refl [g, rb.blk] w
  have hrl := hr.lt
  have hgl2 := hb.lt
  have hdl := hd.lt
  obtain ⟨nb, hnb⟩ : ∃ nb, nb = w.heap.size := ⟨_, rfl⟩
  refine Ret.enter (vs := [.iface 120 (.pointer (some ⟨rb, rb.off, none⟩)), .pointer (some ⟨g, i, none⟩)]) Tryz.func119 Tryz.ntmps119 rfl rfl ?_
  refine WC.seq (WC.region ?_)
  refine WR.alloc zv4 rfl rfl ?_
  intro w1 hn hs
  have hx : Row w1 nb 201 4 (fun i => (#[.int .u8 0, .int .u8 0, .int .u8 0, .int .u8 0] : Array Value).getD i undef) := by rw [hn, hnb]; exact Row.alloc _ _ _
  rw [← hnb]
  replace hr := hr.same hs (by simp <;> omega)
  replace hb := hb.same hs (by simp <;> omega)
  replace hd := hd.same hs (by simp <;> omega)
  replace hS := hS.trans hs (by simp <;> omega)
  clear hn hs
  refine WR.nil (WN.seq ?_)
  refine WC.seq (WC.region ?_)
  refine WR.move rfl rfl ?_
  refine WR.sliceA rfl Tryz.underlying201 sz5 rfl rfl rfl ?_
  refine WR.callF rfl rfl cf116 rfl rfl (readFull rb db dO len cap nb 0 4 4 _ 4 q r d _ hr hd hx (by omega) hall (by omega) (by omega) (by omega) (by omega) hrd) ?_
  rintro _ w2 ⟨rfl, hr', hx', hs⟩
  replace hr := hr'
  replace hx := hx'
  clear hr' hx'
  replace hb := hb.same hs (by simp <;> omega)
  replace hd := hd.same hs (by simp <;> omega)
  replace hS := hS.trans hs (by simp <;> omega)
  refine WR.move rfl rfl ?_
  refine WR.extract rfl rfl rfl ?_
  refine WR.extract rfl rfl rfl ?_
  refine WR.assign rfl rfl ?_
  refine WR.assign rfl rfl ?_
  refine WR.nil (WN.seq ?_)
  refine WC.seq (WC.region ?_)
  refine WR.move rfl rfl ?_
  refine WR.eqlNil rfl rfl Tryz.underlying54 rfl ?_
  refine WR.nil (WN.seq ?_)
  refine WC.cond rfl (fun h32 => ?_) (fun h32 => ?_)
  · skip
    refine WC.mix [] mixed (by kernel_rfl) ?_
    replace hr := hr.same (Same.drew _) (by simp <;> omega)
    replace hb := hb.same (Same.drew _) (by simp <;> omega)
    replace hd := hd.same (Same.drew _) (by simp <;> omega)
    replace hS := hS.trans (Same.drew _) (by simp <;> omega)
    refine WR.move rfl rfl ?_
    refine WR.loadAgg rfl Tryz.underlying183 rfl sz183 (show Rd _ _ _ 0 (fun _ => undef) from fun i hi => absurd hi (by omega)) rfl ?_
    refine WR.sliceA rfl Tryz.underlying201 sz5 rfl rfl rfl ?_
    have hrd2 : Rd _ nb 0 4 (byt fun i => d (q + i)) := (hx.rd 0 4 (by omega)).congr (fun i hi => by
      have := ovr_at (f := fun i => (#[.int .u8 0, .int .u8 0, .int .u8 0, .int .u8 0] : Array Value).getD i undef) (o := 0) (cs := (List.range 4).map fun i => byt d (q + i)) (i := i) (by simpa using hi)
      rw [this]
      simp [byt])
    refine WR.callF rfl rfl cf80 rfl rfl (uint32 nb 0 _ (fun i => d (q + i)) _ hrd2 (fun i hi => hd.small _ (by omega)) hx.lt) ?_
    rintro _ w3 ⟨rfl, hs⟩
    replace hr := hr.same hs (by simp <;> omega)
    replace hb := hb.same hs (by simp <;> omega)
    replace hd := hd.same hs (by simp <;> omega)
    replace hS := hS.trans hs (by simp <;> omega)
    refine WR.nilCheckP rfl rfl ?_
    rw [num_bts hd.small (by omega)]
    refine WR.storeK rfl rfl rfl sz109 (hb.cell hi) (hb.fz _) ?_
    intro w9 hn hs
    replace hb := hb.set' hn
    replace hr := hr.same hs (by simp <;> omega)
    replace hS := hS.trans hs (by simp)
    clear hn hs
    refine WR.nil ?_
    refine WN.endR rfl rfl ?_
    exact ⟨rfl, hr, hb, hS⟩
  · skip
    cases h32
end Go.Proofs.YthmknddfkmklfaaGreatDoor.Vm
