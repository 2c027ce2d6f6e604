/- A number in groups of seven bits is read. -/
import Derived.Test.YthmknddfkmklfaaGreatDoorFnU
namespace Go.Proofs.YthmknddfkmklfaaGreatDoor.Vm
open Go Mix Go.RowKit Num
set_option maxRecDepth 20000
set_option linter.unusedSimpArgs false
theorem shl_pow {c k : Nat} (h : c * 2 ^ k < 18446744073709551616) (hk : k ≤ 64) : IntKind.u64.wrap (((c : Nat) : Int) * 2 ^ min (((k : Nat) : Int).toNat) IntKind.u64.bits) = ((c : Nat) : Int) * ((2 ^ k : Nat) : Int) := by
  rw [Int.toNat_natCast, Nat.min_eq_left (show k ≤ IntKind.u64.bits from hk), show ((2 : Int) ^ k) = ((2 ^ k : Nat) : Int) by norm_cast, ← Int.natCast_mul]
  exact wrap_u64 (Int.natCast_nonneg _) (by omega)
theorem or_nat {x c k : Nat} (hx : x < 2 ^ k) (h : x + c * 2 ^ k < 18446744073709551616) : arith .or .u64 (x : Int) (((c : Nat) : Int) * ((2 ^ k : Nat) : Int)) = some (.int .u64 ((x + c * 2 ^ k : Nat) : Int)) := by
  rw [ar_or k rfl (by omega) (by omega) (by omega) (cast_am_lt h), cast_am]
theorem cf152 (us : Array Value) (w : World) : (callFunc 152 us).run Tryz.prog w = .ok (.enter 152 us) w := by kernel_rfl
theorem cf68 (us : Array Value) (w : World) : (callFunc 68 us).run Tryz.prog w = .ok (.enter 68 us) w := by kernel_rfl
theorem cf78 (us : Array Value) (w : World) : (callFunc 78 us).run Tryz.prog w = .ok (.enter 78 us) w := by kernel_rfl
theorem mtBR_ReadByte (p : Addr) (w : World) : (method (Tryz.prog.types.size + Made.depth) 122 (.pointer (some p)) "ReadByte").run Tryz.prog w = .ok (152, .pointer (some p)) w := by kernel_rfl
set_option maxHeartbeats 200000 in
theorem readByte {w : World} {aE aU aP : Addr} (hg : Glob w aE aU aP) (b : Nat) (rb : RB) (db dO len cap q : Nat) (d : Nat → Nat) (ha : At w b rb db dO len cap d (8 * q)) (hq : q + 1 ≤ len) (hgb : 6 ≤ b) (hne : b ≠ rb.blk) (hnd : b ≠ db) :
    Ret Tryz.prog 152 #[.pointer (some ⟨b, 0, none⟩)] w fun v w' => v = .tuple #[.int .u8 (d q : Nat), .nilIface] ∧ At w' b rb db dO len cap d (8 * (q + 1)) ∧ Same [b] w w' := by
  have hS := Same.refl [b] w
  obtain ⟨hl1, hl2, hl3⟩ := ha.lt
  have hgs := hg.size
  obtain ⟨nb, hnb⟩ : ∃ x, x = w.heap.size := ⟨_, rfl⟩
  refine Ret.enter (vs := [.pointer (some ⟨b, 0, none⟩)]) Tryz.func152 Tryz.ntmps152 rfl rfl ?_
  refine WC.seq (WC.region ?_)
  refine WR.assign rfl rfl ?_
  refine WR.assign rfl rfl ?_
  refine WR.nil (WN.seq ?_)
  refine WC.seq (WC.region ?_)
  refine WR.alloc au_zv rfl rfl ?_
  intro w1 hn hs
  have hF : Row w1 nb 5 1 (fun i => (#[.int .u8 0] : Array Value).getD i undef) := by
    rw [hn, hnb]
    exact Row.alloc _ _ _
  rw [← hnb]
  replace hg := hg.same hs (by simp <;> omega)
  replace ha := ha.same hs (by simp <;> omega) (by simp <;> omega) (by simp <;> omega)
  replace hS := hS.trans hs (by simp <;> omega)
  clear hn hs
  refine WR.nil (WN.seq ?_)
  refine WC.seq (WC.seq (WC.region ?_))
  refine WR.move rfl rfl ?_
  refine WR.callF rfl rfl cf68 rfl rfl (aligned8 hg b rb db dO len cap q nb 0 _ 1 d _ ha hF (by decide) hq hgb (by omega) hne hnd (by omega) (by omega) (by omega)) ?_
  rintro _ w2 ⟨rfl, ha', hF', hs⟩
  replace ha := ha'
  replace hF := hF'
  clear ha' hF'
  replace hg := hg.same hs (by simp <;> omega)
  replace hS := hS.trans hs (by simp <;> omega)
  refine WR.assign rfl rfl ?_
  refine WR.nil (WN.seq ?_)
  refine WC.seq (WC.region ?_)
  refine WR.move rfl rfl ?_
  refine WR.notOp rfl rfl ?_
  refine WR.nil (WN.seq ?_)
  refine WC.cond rfl (fun h114 => ?_) (fun h114 => ?_)
  · skip
    exact absurd h114 (by simp)
  · skip
    refine WC.skip (WN.seq ?_)
    refine WC.seq (WC.region ?_)
    refine WR.load rfl Tryz.underlying5 rfl (hF.cell (i := 0) (by decide)) rfl ?_
    refine WR.assign rfl rfl ?_
    refine WR.assign rfl rfl ?_
    refine WR.nil (WN.seq ?_)
    refine WC.retR rfl rfl ?_
    exact ⟨rfl, ha, hS⟩

set_option maxHeartbeats 400000 in
theorem readUvarint {w : World} {aE aU aP : Addr} (hg : Glob w aE aU aP) (b : Nat) (rb : RB) (db dO len cap q u : Nat) (d : Nat → Nat) (ha : At w b rb db dO len cap d (8 * q)) (hu : u < 16384) (hv : ∀ i, i < (Rl.vlq u).length → d (q + i) = (Rl.vlq u).getD i 0) (hq : q + (Rl.vlq u).length ≤ len) (hgb : 6 ≤ b) (hne : b ≠ rb.blk) (hnd : b ≠ db) :
    Ret Tryz.prog 78 #[.iface 122 (.pointer (some ⟨b, 0, none⟩))] w fun v w' => v = .tuple #[.int .u64 (u : Nat), .nilIface] ∧ At w' b rb db dO len cap d (8 * (q + (Rl.vlq u).length)) ∧ Same [b] w w' := by
  have hS := Same.refl [b] w
  refine Ret.enter (vs := [.iface 122 (.pointer (some ⟨b, 0, none⟩))]) Tryz.func78 Tryz.ntmps78 rfl rfl ?_
  refine WC.seq (WC.region ?_)
  refine WR.assign rfl rfl ?_
  refine WR.assign rfl rfl ?_
  refine WR.nil (WN.seq ?_)
  refine WC.seq (WC.region ?_)
  refine WR.assign rfl rfl ?_
  refine WR.nil (WN.seq ?_)
  refine WC.seq (WC.region ?_)
  refine WR.assign rfl rfl ?_
  refine WR.nil (WN.seq ?_)
  refine WC.seq (WC.seq (WC.region ?_))
  refine WR.assign rfl rfl ?_
  refine WR.nil (WN.seq (WC.block ?_))
  refine WC.loop (fun i : Nat => [(0, .iface 122 (.pointer (some ⟨b, 0, none⟩))), (4, .int .u64 (if i = 0 then 0 else u % 128 : Nat)), (5, .int .u64 (7 * i : Nat)), (6, .int .i64 (i : Nat))]) (fun m i w' => i + m = 2 ∧ (i = 1 → 128 ≤ u) ∧ i ≤ 1 ∧ Glob w' aE aU aP ∧ At w' b rb db dO len cap d (8 * (q + i)) ∧ Same [b] w w') 2 0 ⟨rfl, kint rfl rfl, rfl, rfl, trivial⟩ ⟨by omega, fun h => absurd h (by decide), by decide, hg, ha, hS⟩ ?_
  clear hg ha hS
  rintro m i w1 ⟨hm, hiu, hi1, hg, ha, hS⟩
  rcases (show i = 0 ∧ u < 128 ∨ i = 0 ∧ ¬ u < 128 ∨ i = 1 ∧ ¬ u < 128 by omega) with ⟨rfl, hc⟩ | ⟨rfl, hc⟩ | ⟨rfl, hc⟩
  · skip
    rw [Rl.vlq_lt hc] at hv hq ⊢
    have hd0 : d (q + 0) = u := hv 0 (by simp)
    simp only [List.length_singleton] at hq
    refine WC.seq (WC.seq (WC.region ?_))
    refine WR.move rfl rfl ?_
    refine WR.bin rfl rfl rfl rfl ?_
    refine WR.nil (WN.seq ?_)
    refine WC.cond rfl (fun h133 => ?_) (fun h133 => ?_)
    · skip
      simp only [decide_eq_true_eq] at h133
      refine WC.skip (WN.seq ?_)
      refine WC.seq (WC.block ?_)
      refine WC.seq (WC.region ?_)
      refine WR.move rfl rfl ?_
      refine WR.invoke rfl rfl rfl mtBR_ReadByte cf152 rfl rfl (readByte hg b rb db dO len cap (q + 0) d ha (by omega) hgb hne hnd) ?_
      rintro _ w2 ⟨rfl, ha', hs⟩
      replace ha := ha'
      clear ha'
      rw [hd0]
      replace hg := hg.same hs (by simp <;> omega)
      replace hS := hS.trans hs (by simp <;> omega)
      refine WR.move rfl rfl ?_
      refine WR.extract rfl rfl rfl ?_
      refine WR.extract rfl rfl rfl ?_
      refine WR.assign rfl rfl ?_
      refine WR.assign rfl rfl ?_
      refine WR.nil (WN.seq ?_)
      refine WC.seq (WC.seq (WC.region ?_))
      refine WR.move rfl rfl ?_
      refine WR.neqNil rfl rfl Tryz.underlying54 rfl ?_
      refine WR.nil (WN.seq ?_)
      refine WC.cond rfl (fun h135 => ?_) (fun h135 => ?_)
      · skip
        cases h135
      · skip
        simp only at h135
        refine WC.skip (WN.seq ?_)
        refine WC.seq (WC.seq (WC.region ?_))
        refine WR.move rfl rfl ?_
        refine WR.bin rfl rfl rfl rfl ?_
        refine WR.nil (WN.seq ?_)
        refine WC.cond rfl (fun h141 => ?_) (fun h141 => ?_)
        · skip
          simp only [decide_eq_true_eq] at h141
          refine WC.seq (WC.seq (WC.region ?_))
          refine WR.move rfl rfl ?_
          refine WR.bin rfl rfl rfl rfl ?_
          refine WR.move rfl rfl ?_
          refine WR.pass rfl rfl rfl rfl ?_
          refine WR.pass rfl rfl rfl rfl ?_
          refine WR.pickF rfl rfl rfl rfl ?_
          refine WR.nil (WN.seq ?_)
          refine WC.cond rfl (fun h142 => ?_) (fun h142 => ?_)
          · skip
            cases h142
          · skip
            simp only at h142
            refine WC.skip (WN.seq ?_)
            refine WC.seq (WC.region ?_)
            refine WR.move rfl rfl ?_
            refine WR.move rfl rfl ?_
            (refine WR.conv rfl Tryz.underlying5 Tryz.underlying33 (wrap_u64 ?_ ?_) rfl ?_; (omega); (omega))
            refine WR.move rfl rfl ?_
            refine WR.shl rfl rfl (by decide) (z := ((u : Nat) : Int) * ((2 ^ 0 : Nat) : Int)) (shl_pow (k := 0) (by omega) (by decide)) rfl ?_
            refine WR.bin rfl rfl (or_nat (x := 0) (c := u) (k := 0) (by decide) (by omega)) rfl ?_
            refine WR.assign rfl rfl ?_
            refine WR.assign rfl rfl ?_
            refine WR.nil (WN.seq ?_)
            refine WC.retR rfl rfl ?_
            exact ⟨by rw [show 0 + u * 2 ^ 0 = u by omega]; rfl, ha, hS⟩
        · skip
          simp only [decide_eq_false_iff_not, Int.not_lt] at h141
          omega
    · skip
      exact absurd h133 (by decide)
  · skip
    rw [Rl.vlq_ge hc] at hv hq
    have hd0 : d (q + 0) = u % 128 + 128 := hv 0 (by simp)
    simp only [List.length_cons] at hq
    refine WC.seq (WC.seq (WC.region ?_))
    refine WR.move rfl rfl ?_
    refine WR.bin rfl rfl rfl rfl ?_
    refine WR.nil (WN.seq ?_)
    refine WC.cond rfl (fun h133 => ?_) (fun h133 => ?_)
    · skip
      simp only [decide_eq_true_eq] at h133
      refine WC.skip (WN.seq ?_)
      refine WC.seq (WC.block ?_)
      refine WC.seq (WC.region ?_)
      refine WR.move rfl rfl ?_
      refine WR.invoke rfl rfl rfl mtBR_ReadByte cf152 rfl rfl (readByte hg b rb db dO len cap (q + 0) d ha (by omega) hgb hne hnd) ?_
      rintro _ w2 ⟨rfl, ha', hs⟩
      replace ha := ha'
      clear ha'
      rw [hd0]
      replace hg := hg.same hs (by simp <;> omega)
      replace hS := hS.trans hs (by simp <;> omega)
      refine WR.move rfl rfl ?_
      refine WR.extract rfl rfl rfl ?_
      refine WR.extract rfl rfl rfl ?_
      refine WR.assign rfl rfl ?_
      refine WR.assign rfl rfl ?_
      refine WR.nil (WN.seq ?_)
      refine WC.seq (WC.seq (WC.region ?_))
      refine WR.move rfl rfl ?_
      refine WR.neqNil rfl rfl Tryz.underlying54 rfl ?_
      refine WR.nil (WN.seq ?_)
      refine WC.cond rfl (fun h135 => ?_) (fun h135 => ?_)
      · skip
        cases h135
      · skip
        simp only at h135
        refine WC.skip (WN.seq ?_)
        refine WC.seq (WC.seq (WC.region ?_))
        refine WR.move rfl rfl ?_
        refine WR.bin rfl rfl rfl rfl ?_
        refine WR.nil (WN.seq ?_)
        refine WC.cond rfl (fun h141 => ?_) (fun h141 => ?_)
        · skip
          simp only [decide_eq_true_eq] at h141
          omega
        · skip
          simp only [decide_eq_false_iff_not, Int.not_lt] at h141
          refine WC.skip (WN.seq ?_)
          refine WC.seq (WC.region ?_)
          refine WR.move rfl rfl ?_
          refine WR.move rfl rfl ?_
          refine WR.bin rfl rfl (and_127 (a := u % 128 + 128) (by omega)) rfl ?_
          (refine WR.conv rfl Tryz.underlying5 Tryz.underlying33 (wrap_u64 ?_ ?_) rfl ?_; (omega); (omega))
          refine WR.move rfl rfl ?_
          refine WR.shl rfl rfl (by decide) (z := (((u % 128 + 128) % 128 : Nat) : Int) * ((2 ^ 0 : Nat) : Int)) (shl_pow (k := 0) (by omega) (by decide)) rfl ?_
          refine WR.bin rfl rfl (or_nat (x := 0) (c := (u % 128 + 128) % 128) (k := 0) (by decide) (by omega)) rfl ?_
          refine WR.assign rfl rfl ?_
          refine WR.nil (WN.seq (WC.region ?_))
          refine WR.move rfl rfl ?_
          (refine WR.bin rfl rfl (ar_add (wrap_u64 ?_ ?_)) rfl ?_; (omega); (omega))
          refine WR.assign rfl rfl ?_
          refine WR.nil (WN.block ?_)
          refine WN.seq (WC.region ?_)
          refine WR.move rfl rfl ?_
          (refine WR.bin rfl rfl (ar_add (z := ((1 : Nat) : Int)) ?_) rfl ?_; (rw [wrap_i64 (by omega) (by omega)]; omega))
          refine WR.assign rfl rfl ?_
          refine WR.nil ?_
          exact WN.loop 1 1 (by omega) ⟨rfl, kint rfl (by simp), kint rfl (by simp), kint rfl (by simp), trivial⟩ ⟨by omega, fun _ => by omega, by decide, hg, ha, hS⟩
    · skip
      exact absurd h133 (by decide)
  · skip
    have hu2 : u / 128 < 128 := by omega
    rw [Rl.vlq_ge hc, Rl.vlq_lt hu2] at hv hq ⊢
    have hd1 : d (q + 1) = u / 128 := hv 1 (by simp)
    simp only [List.length_cons, List.length_nil] at hq
    refine WC.seq (WC.seq (WC.region ?_))
    refine WR.move rfl rfl ?_
    refine WR.bin rfl rfl rfl rfl ?_
    refine WR.nil (WN.seq ?_)
    refine WC.cond rfl (fun h133 => ?_) (fun h133 => ?_)
    · skip
      simp only [decide_eq_true_eq] at h133
      refine WC.skip (WN.seq ?_)
      refine WC.seq (WC.block ?_)
      refine WC.seq (WC.region ?_)
      refine WR.move rfl rfl ?_
      refine WR.invoke rfl rfl rfl mtBR_ReadByte cf152 rfl rfl (readByte hg b rb db dO len cap (q + 1) d ha (by omega) hgb hne hnd) ?_
      rintro _ w2 ⟨rfl, ha', hs⟩
      replace ha := ha'
      clear ha'
      rw [hd1]
      replace hg := hg.same hs (by simp <;> omega)
      replace hS := hS.trans hs (by simp <;> omega)
      refine WR.move rfl rfl ?_
      refine WR.extract rfl rfl rfl ?_
      refine WR.extract rfl rfl rfl ?_
      refine WR.assign rfl rfl ?_
      refine WR.assign rfl rfl ?_
      refine WR.nil (WN.seq ?_)
      refine WC.seq (WC.seq (WC.region ?_))
      refine WR.move rfl rfl ?_
      refine WR.neqNil rfl rfl Tryz.underlying54 rfl ?_
      refine WR.nil (WN.seq ?_)
      refine WC.cond rfl (fun h135 => ?_) (fun h135 => ?_)
      · skip
        cases h135
      · skip
        simp only at h135
        refine WC.skip (WN.seq ?_)
        refine WC.seq (WC.seq (WC.region ?_))
        refine WR.move rfl rfl ?_
        refine WR.bin rfl rfl rfl rfl ?_
        refine WR.nil (WN.seq ?_)
        refine WC.cond rfl (fun h141 => ?_) (fun h141 => ?_)
        · skip
          simp only [decide_eq_true_eq] at h141
          refine WC.seq (WC.seq (WC.region ?_))
          refine WR.move rfl rfl ?_
          refine WR.bin rfl rfl rfl rfl ?_
          refine WR.move rfl rfl ?_
          refine WR.pass rfl rfl rfl rfl ?_
          refine WR.pass rfl rfl rfl rfl ?_
          refine WR.pickF rfl rfl rfl rfl ?_
          refine WR.nil (WN.seq ?_)
          refine WC.cond rfl (fun h142 => ?_) (fun h142 => ?_)
          · skip
            cases h142
          · skip
            simp only at h142
            refine WC.skip (WN.seq ?_)
            refine WC.seq (WC.region ?_)
            refine WR.move rfl rfl ?_
            refine WR.move rfl rfl ?_
            (refine WR.conv rfl Tryz.underlying5 Tryz.underlying33 (wrap_u64 ?_ ?_) rfl ?_; (omega); (omega))
            refine WR.move rfl rfl ?_
            refine WR.shl rfl rfl (by decide) (z := ((u / 128 : Nat) : Int) * ((2 ^ 7 : Nat) : Int)) (shl_pow (k := 7) (by omega) (by decide)) rfl ?_
            refine WR.bin rfl rfl (or_nat (x := u % 128) (c := u / 128) (k := 7) (by omega) (by omega)) rfl ?_
            refine WR.assign rfl rfl ?_
            refine WR.assign rfl rfl ?_
            refine WR.nil (WN.seq ?_)
            refine WC.retR rfl rfl ?_
            exact ⟨by rw [show u % 128 + u / 128 * 2 ^ 7 = u by omega]; rfl, ha, hS⟩
        · skip
          simp only [decide_eq_false_iff_not, Int.not_lt] at h141
          omega
    · skip
      exact absurd h133 (by decide)

set_option maxHeartbeats 200000 in
theorem getVlq {w : World} {aE aU aP : Addr} (hg : Glob w aE aU aP) (b : Nat) (rb : RB) (db dO len cap q u : Nat) (d : Nat → Nat) (ha : At w b rb db dO len cap d (8 * q)) (hu : u < 16384) (hv : ∀ i, i < (Rl.vlq u).length → d (q + i) = (Rl.vlq u).getD i 0) (hq : q + (Rl.vlq u).length ≤ len) (hgb : 6 ≤ b) (hne : b ≠ rb.blk) (hnd : b ≠ db) :
    Ret Tryz.prog 63 #[.pointer (some ⟨b, 0, none⟩)] w fun v w' => v = .tuple #[.int .u64 (u : Nat), .bool true] ∧ At w' b rb db dO len cap d (8 * (q + (Rl.vlq u).length)) ∧ Same [b] w w' := by
  refine Ret.enter (vs := [.pointer (some ⟨b, 0, none⟩)]) Tryz.func63 Tryz.ntmps63 rfl rfl ?_
  refine WC.seq (WC.region ?_)
  refine WR.assign rfl rfl ?_
  refine WR.assign rfl rfl ?_
  refine WR.nil (WN.seq ?_)
  refine WC.seq (WC.region ?_)
  refine WR.move rfl rfl ?_
  refine WR.mkIface rfl Tryz.underlying122 rfl rfl ?_
  refine WR.callF rfl rfl cf78 rfl rfl (readUvarint hg b rb db dO len cap q u d ha hu hv hq hgb hne hnd) ?_
  rintro _ w1 ⟨rfl, ha, hS⟩
  refine WR.move rfl rfl ?_
  refine WR.extract rfl rfl rfl ?_
  refine WR.extract rfl rfl rfl ?_
  refine WR.assign rfl rfl ?_
  refine WR.assign rfl rfl ?_
  refine WR.nil (WN.seq ?_)
  refine WC.seq (WC.seq (WC.region ?_))
  refine WR.move rfl rfl ?_
  refine WR.neqNil rfl rfl Tryz.underlying54 rfl ?_
  refine WR.nil (WN.seq ?_)
  refine WC.cond rfl (fun h93 => ?_) (fun h93 => ?_)
  · skip
    cases h93
  · skip
    simp only at h93
    refine WC.skip (WN.seq ?_)
    refine WC.seq (WC.region ?_)
    refine WR.move rfl rfl ?_
    refine WR.assign rfl rfl ?_
    refine WR.assign rfl rfl ?_
    refine WR.nil (WN.seq ?_)
    refine WC.retR rfl rfl ?_
    exact ⟨rfl, ha, hS⟩

end Go.Proofs.YthmknddfkmklfaaGreatDoor.Vm
