/- Numbers are read as runs, and looked up in a dictionary. -/
import Derived.Test.YthmknddfkmklfaaGreatDoorFnZa
namespace Go.Proofs.YthmknddfkmklfaaGreatDoor.Vm
open Go Mix Go.RowKit Num
set_option maxRecDepth 20000
set_option linter.unusedSimpArgs false
section
variable {X : Cx} {m : Option (List Nat)} {ops : Array Oper} {rest : List Oper} {ks : List KI} {ds : List Deferred} {l : Kn} {w : World} {d ty : Nat} {pos : String} {aft : Array Edge} {v : Value}
theorem WR.min3 {x y z : Operand} {tys : Array TypeId} {k : IntKind} {a b c : Int} (hx : ev l x = some (.int k a)) (hy : ev l y = some (.int k b)) (hz : ev l z = some (.int k c)) (hd : Nat.blt d X.n = true)
    (kk : WR X m ops rest ks ds ((d, .int k (if c < (if b < a then b else a) then c else (if b < a then b else a))) :: l) w) :
    WR X m ops (⟨some d, .call ⟨.builtin .min, #[x, y, z], tys⟩, ty, pos, aft, none⟩ :: rest) ks ds l w :=
  WR.still hd (by cases m <;> rfl) (fun e he => by
    simp only [execOp, resolve, Sem.run_bind, Sem.run_pure, Result.andThen_ok, Go.invoke, builtin, List.map_toArray, List.map_cons, List.map_nil, he.ev hx, he.ev hy, he.ev hz]
    simp [Builtin.min_, Builtin.min2]) kk
end
theorem kv {l : Kn} {t : Nat} {u v : Value} (h : look l t = some u) (e : u = v) : look l t = some v := by rw [h, e]
theorem Put.cat {F F2 f : Nat → Value} {o o2 L i y : Nat} {h h2 : Nat → Value} (h1 : Put F f o L i h) (hF : Put F2 F o2 y y h2) (ho : o2 = o + i) (hi : i + y ≤ L) (he : ∀ j, j < y → h2 j = h (i + j)) : Put F2 f o L (i + y) h := by
  subst ho
  refine ⟨fun j hj => ?_, fun x hx => ?_⟩
  · by_cases hji : j < i
    · rw [hF.2 _ (by omega)]
      exact h1.1 j hji
    · have h3 := hF.1 (j - i) (by omega)
      rw [show o + i + (j - i) = o + j by omega, he _ (by omega), show i + (j - i) = j by omega] at h3
      exact h3
  · rw [hF.2 _ (by omega), h1.2 _ hx]
/-- 1024 numbers at zero, as the model has them -/
noncomputable def zcR (w : World) := (zeroValue 138).run Tryz.prog w
noncomputable def zc : Array Value := cellsR (zcR default)
theorem zc_run (w : World) : (zeroValue 138).run Tryz.prog w = .ok (.agg zc) w := by kernel_rfl
theorem zc_size : zc.size = 1024 := by
  have : Nat.beq zc.size 1024 = true := by kernel_rfl
  exact Nat.eq_of_beq_eq_true this
theorem cf138 (us : Array Value) (w : World) : (callFunc 138 us).run Tryz.prog w = .ok (.enter 138 us) w := by kernel_rfl
theorem cf139 (us : Array Value) (w : World) : (callFunc 139 us).run Tryz.prog w = .ok (.enter 139 us) w := by kernel_rfl
theorem cf141 (us : Array Value) (w : World) : (callFunc 141 us).run Tryz.prog w = .ok (.enter 141 us) w := by kernel_rfl
theorem cf142 (us : Array Value) (w : World) : (callFunc 142 us).run Tryz.prog w = .ok (.enter 142 us) w := by kernel_rfl
theorem cf55 (us : Array Value) (w : World) : (callFunc 55 us).run Tryz.prog w = .ok (.enter 55 us) w := by kernel_rfl
theorem fa126_0 (b o : Nat) (w : World) : (Instr.fieldAt 126 (.pointer (some ⟨b, o, none⟩)) 0).run Tryz.prog w = .ok (.pointer (some ⟨b, o + 0, none⟩)) w := by kernel_rfl
theorem mtDC_Copy (p : Addr) (w : World) : (method (Tryz.prog.types.size + Made.depth) 99 (.pointer (some p)) "Copy").run Tryz.prog w = .ok (138, .pointer (some p)) w := by kernel_rfl
theorem mtDC_Fill (p : Addr) (w : World) : (method (Tryz.prog.types.size + Made.depth) 99 (.pointer (some p)) "Fill").run Tryz.prog w = .ok (139, .pointer (some p)) w := by kernel_rfl
theorem mtDC_IsValid (p : Addr) (w : World) : (method (Tryz.prog.types.size + Made.depth) 99 (.pointer (some p)) "IsValid").run Tryz.prog w = .ok (141, .pointer (some p)) w := by kernel_rfl
theorem mtDC_IsValidSingle (p : Addr) (w : World) : (method (Tryz.prog.types.size + Made.depth) 99 (.pointer (some p)) "IsValidSingle").run Tryz.prog w = .ok (142, .pointer (some p)) w := by kernel_rfl
theorem naDC_Fill (p : Addr) (w : World) : (nilAhead (Tryz.prog.types.size + Made.depth) 99 (.pointer (some p)) "Fill").run Tryz.prog w = .ok (some false) w := by kernel_rfl
set_option maxHeartbeats 1000000 in
theorem batchDict {w : World} {aE aU aP : Addr} (hg : Glob w aE aU aP) (bR T b : Nat) (rb : RB) (db dO len cap W : Nat) (d : Nat → Nat) (rest : List Nat) (bC bP q D k dv : Nat) (e : Nat → Nat) (g o L c t N : Nat) (f : Nat → Value) (hSt : St w bR T b rb db dO len cap d W rest) (hDC : DC w bC bP q D k dv e) (hF : Row w g t N f) (hfit : o + L ≤ N) (hLc : L ≤ c) (hLr : L ≤ rest.length) (hn2 : L ≤ 1048576) (hlt : ∀ j, j < L → rest.getD j 0 < D) (hDm : D ≤ 1048576) (hW1 : 1 ≤ W) (hW2 : W ≤ 20) (h1 : 6 ≤ bP) (h2 : bP < dv) (h3 : dv < rb.blk) (h4 : rb.blk < bC) (h5 : bC < db) (h6 : db < b) (h7 : b < bR) (h8 : bR < g) (h9 : q = bC ∨ bR < q) (h10 : q ≠ g) :
    Ret Tryz.prog 48 #[.pointer (some ⟨bR, 0, none⟩), .iface 99 (.pointer (some ⟨bC, 0, none⟩)), .slice (some ⟨g, o, none⟩) L c] w fun v w' => v = .tuple #[.int .i64 (L : Nat), .nilIface] ∧ St w' bR T b rb db dO len cap d W (rest.drop L) ∧ (∃ k' q', DC w' bC bP q' D k' dv e ∧ (q' = q ∨ w.heap.size ≤ q')) ∧ (∃ F, Row w' g t N F ∧ Put F f o L L (fun j => Value.int .i64 (i8 e (rest.getD j 0)))) ∧ Same [bR, b, rb.blk, bC, bP, q, g] w w' := by
  have hS := Same.refl [bR, b, rb.blk, bC, bP, q, g] w
  obtain ⟨cur, rep, lit, pos, hR, ha, hD, hb1, hb2, hb3⟩ := hSt
  have hput := Put.zero f o L (fun j => Value.int .i64 (i8 e (rest.getD j 0)))
  have hgl := hF.lt
  have hql := hDC.lt.2.2.2.2
  obtain ⟨nb, hnb⟩ : ∃ x, x = w.heap.size := ⟨_, rfl⟩
  refine Ret.enter (vs := [.pointer (some ⟨bR, 0, none⟩), .iface 99 (.pointer (some ⟨bC, 0, none⟩)), .slice (some ⟨g, o, none⟩) L c]) Tryz.func48 Tryz.ntmps48 rfl rfl ?_
  refine WC.seq (WC.region ?_)
  refine WR.assign rfl rfl ?_
  refine WR.assign rfl rfl ?_
  refine WR.nil (WN.seq ?_)
  refine WC.seq (WC.region ?_)
  refine WR.assign rfl rfl ?_
  refine WR.nil (WN.seq ?_)
  refine WC.seq (WC.region ?_)
  refine WR.move rfl rfl ?_
  refine WR.lenS rfl Tryz.underlying79 rfl ?_
  refine WR.assign rfl rfl ?_
  refine WR.nil (WN.seq ?_)
  refine WC.seq (WC.region ?_)
  refine WR.alloc zc_run rfl rfl ?_
  intro w1 hn hs
  have hN : Row w1 nb 138 1024 (fun i => zc.getD i undef) := by
    rw [hn, hnb, ← zc_size]
    exact Row.alloc _ _ _
  rw [← hnb]
  replace hg := hg.same hs (by simp <;> omega)
  replace hR := hR.same hs (by simp <;> omega)
  replace ha := ha.same hs (by simp <;> omega) (by simp <;> omega) (by simp <;> omega)
  replace hS := hS.trans hs (by simp <;> omega)
  replace hDC := hDC.same hs (by simp <;> omega) (by simp <;> omega) (by simp <;> omega) (by simp <;> omega)
  replace hF := hF.same hs (by simp <;> omega)
  have hnl : nb < w1.heap.size := hN.lt
  clear hn hs
  refine WR.nil (WN.seq ?_)
  refine WC.seq (WC.block ?_)
  refine WC.loop (fun s : Nat × Nat => [(0, .pointer (some ⟨bR, 0, none⟩)), (1, .iface 99 (.pointer (some ⟨bC, 0, none⟩))), (2, .slice (some ⟨g, s.2, none⟩) (L - s.1) (c - s.1)), (8, .int .i64 (s.1 : Nat)), (9, .int .i64 (L : Nat)), (10, .pointer (some ⟨nb, 0, none⟩))]) (fun m s w' => s.1 ≤ L ∧ (s.2 = o + s.1 ∨ s.1 = L) ∧ Glob w' aE aU aP ∧ Same [bR, b, rb.blk, bC, bP, q, g] w w' ∧ nb < w'.heap.size ∧ ∃ (cur rep lit pos k2 q2 : Nat) (F Fb : Nat → Value), RL w' bR T b (W : Nat) cur rep lit ∧ At w' b rb db dO len cap d pos ∧ Rl.DS W d len pos cur rep lit (rest.drop s.1) ∧ (rep ≤ 1048576 ∧ lit ≤ 1048576 ∧ cur < 1048576) ∧ DC w' bC bP q2 D k2 dv e ∧ (q2 = q ∨ nb < q2) ∧ Row w' g t N F ∧ Put F f o L s.1 (fun j => Value.int .i64 (i8 e (rest.getD j 0))) ∧ Row w' nb 138 1024 Fb ∧ m = 2 * (L - s.1) + (if rep + lit = 0 then 1 else 0)) (2 * L + (if rep + lit = 0 then 1 else 0)) (0, o) ⟨rfl, rfl, rfl, rfl, rfl, rfl, trivial⟩ ⟨Nat.zero_le _, .inl rfl, hg, hS, hnl, cur, rep, lit, pos, k, q, f, _, hR, ha, hD, ⟨hb1, hb2, hb3⟩, hDC, .inl rfl, hF, hput, hN, by simp⟩ ?_
  clear hg hS hnl hR ha hD hb1 hb2 hb3 hDC hF hput hN
  rintro m ⟨i, oi⟩ w2 ⟨hin, hoi, hg, hS, hnl, cur, rep, lit, pos, k2, q2, F, Fb, hR, ha, hD, ⟨hb1, hb2, hb3⟩, hDC, hq2, hF, hput, hN, hm⟩
  simp only at hin hoi hD hput hm
  have hdl : (rest.drop i).length = rest.length - i := List.length_drop
  have hqg : q2 ≠ g := by omega
  have hgd : ∀ j, (rest.drop i).getD j 0 = rest.getD (i + j) 0 := fun j => by simp
  rcases (show i < L ∧ 0 < rep ∨ i < L ∧ rep = 0 ∧ 0 < lit ∨ i < L ∧ rep = 0 ∧ lit = 0 ∨ i = L by omega) with ⟨hi, h0⟩ | ⟨hi, rfl, h0⟩ | ⟨hi, rfl, rfl⟩ | rfl
  · skip
    obtain ⟨y, hy⟩ : ∃ y, y = min (L - i) rep := ⟨_, rfl⟩
    obtain ⟨rfl, hD2, hyl, hyv⟩ := hD.rep (k := y) (by omega) h0
    have hcur : cur < D := by have h11 := hyv 0 (by omega); rw [hgd] at h11; have h12 := hlt (i + 0) (by omega); omega
    refine WC.seq (WC.seq (WC.region ?_))
    refine WR.move rfl rfl ?_
    refine WR.move rfl rfl ?_
    refine WR.bin rfl rfl rfl rfl ?_
    refine WR.nil (WN.seq ?_)
    refine WC.cond rfl (fun h150 => ?_) (fun h150 => ?_)
    · skip
      simp only [decide_eq_true_eq] at h150
      refine WC.skip (WN.seq ?_)
      refine WC.block (WC.seq (WC.region ?_))
      refine WR.move rfl rfl ?_
      refine WR.move rfl rfl ?_
      (refine WR.bin rfl rfl (ar_sub (z := ((L - i : Nat) : Int)) ?_) rfl ?_; (rw [wrap_i64 (by omega) (by omega)]; omega))
      refine WR.assign rfl rfl ?_
      refine WR.nil (WN.seq ?_)
      refine WC.block (WC.seq (WC.region ?_))
      refine WR.move rfl rfl ?_
      refine WR.nilCheckP rfl rfl ?_
      refine WR.field rfl fa126_0 rfl ?_
      refine WR.field rfl fa124_3 rfl ?_
      refine WR.load rfl Tryz.underlying21 rfl hR.c3 rfl ?_
      refine WR.bin rfl rfl rfl rfl ?_
      refine WR.assign rfl rfl ?_
      refine WR.nil (WN.seq ?_)
      refine WC.cond rfl (fun h154 => ?_) (fun h154 => ?_)
      · skip
        simp only [gt_iff_lt, decide_eq_true_eq] at h154
        refine WC.seq (WC.region ?_)
        refine WR.move rfl rfl ?_
        refine WR.nilCheckP rfl rfl ?_
        refine WR.field rfl fa126_0 rfl ?_
        refine WR.field rfl fa124_2 rfl ?_
        refine WR.load rfl Tryz.underlying33 rfl hR.c2 rfl ?_
        (refine WR.conv rfl Tryz.underlying33 Tryz.underlying21 (wrap_i32 ?_ ?_) rfl ?_; (omega); (omega))
        refine WR.assign rfl rfl ?_
        refine WR.nil (WN.seq ?_)
        refine WC.seq (WC.seq (WC.region ?_))
        refine WR.move rfl rfl ?_
        refine WR.move rfl rfl ?_
        refine WR.invoke rfl rfl rfl mtDC_IsValidSingle cf142 rfl rfl (isValidSingle hg bC bP q2 D k2 dv cur e hDC hcur hDm (by omega) (by omega) h1 (by omega) (by omega) (by omega)) ?_
        have hnl2 := And.intro hS.size hN.lt
        rintro _ w3 ⟨rfl, k3, q3, hDC', hk3, hq3, hs⟩
        replace hDC := hDC'
        clear hDC'
        replace hg := hg.same hs (by simp <;> omega)
        replace hR := hR.same hs (by simp <;> omega)
        replace ha := ha.same hs (by simp <;> omega) (by simp <;> omega) (by simp <;> omega)
        replace hS := hS.trans hs (by simp <;> omega)
        replace hF := hF.same hs (by simp <;> omega)
        replace hN := hN.same hs (by simp <;> omega)
        refine WR.notOp rfl rfl ?_
        refine WR.nil (WN.seq ?_)
        refine WC.cond rfl (fun h156 => ?_) (fun h156 => ?_)
        · skip
          exact absurd h156 (by simp)
        · skip
          refine WC.skip (WN.seq ?_)
          refine WC.seq (WC.region ?_)
          refine WR.move rfl rfl ?_
          refine WR.move rfl rfl ?_
          refine WR.nilCheckP rfl rfl ?_
          refine WR.field rfl fa126_0 rfl ?_
          refine WR.field rfl fa124_3 rfl ?_
          refine WR.load rfl Tryz.underlying21 rfl hR.c3 rfl ?_
          (refine WR.conv rfl Tryz.underlying21 Tryz.underlying3 (wrap_i64 ?_ ?_) rfl ?_; (omega); (omega))
          refine WR.min2 rfl rfl rfl ?_
          rw [show (if ((rep : Nat) : Int) < ((L - i : Nat) : Int) then ((rep : Nat) : Int) else ((L - i : Nat) : Int)) = ((y : Nat) : Int) by rw [hy]; split <;> omega]
          refine WR.assign rfl rfl ?_
          refine WR.nil (WN.seq ?_)
          refine WC.seq (WC.seq ?_)
          refine WC.mix [] mixed (by kernel_rfl) ?_
          replace hg := hg.same (Same.drew _) (by simp <;> omega)
          replace hR := hR.same (Same.drew _) (by simp <;> omega)
          replace ha := ha.same (Same.drew _) (by simp <;> omega) (by simp <;> omega) (by simp <;> omega)
          replace hS := hS.trans (Same.drew _) (by simp <;> omega)
          replace hDC := hDC.same (Same.drew _) (by simp <;> omega) (by simp <;> omega) (by simp <;> omega) (by simp <;> omega)
          replace hF := hF.same (Same.drew _) (by simp <;> omega)
          replace hN := hN.same (Same.drew _) (by simp <;> omega)
          refine WR.move rfl rfl ?_
          refine WR.move rfl rfl ?_
          refine WR.move rfl rfl ?_
          refine WR.slice rfl Tryz.underlying79 sz2 ⟨_, _, rfl, by omega, by omega, show y = Int.toNat _ by omega⟩ rfl rfl ?_
          refine WR.move rfl rfl ?_
          refine WR.mkMethod rfl rfl ?_
          refine WR.nilCheckF rfl naDC_Fill rfl ?_
          refine WR.move rfl rfl ?_
          simp only [sl0]
          have hnl3 := hS.size
          have hnl4 := hN.lt
          refine WR.invoke rfl rfl rfl mtDC_Fill cf139 rfl rfl (fill hg bC bP q3 D k3 dv cur g oi (y - 0) (c - i - 0) t N e F hDC hcur hDm hF (by omega) (by omega) (by omega) (by omega) (by omega) (by omega) (by omega) (by omega) (by omega) (by omega) (by omega) h1 (by omega) (by omega) (by omega)) ?_
          rintro _ w4 ⟨rfl, k4, q4, hDC', hk4, hq4, ⟨F2, hF', hput2⟩, hs⟩
          replace hDC := hDC'
          replace hF := hF'
          clear hDC' hF'
          replace hput := hput.cat (y := y) hput2 (by omega) (by omega) (fun j hj => by have h11 := hyv j hj; rw [hgd] at h11; rw [h11])
          replace hg := hg.same hs (by simp <;> omega)
          replace hR := hR.same hs (by simp <;> omega)
          replace ha := ha.same hs (by simp <;> omega) (by simp <;> omega) (by simp <;> omega)
          replace hS := hS.trans hs (by simp <;> omega)
          replace hN := hN.same hs (by simp <;> omega)
          refine WR.assign rfl rfl ?_
          refine WR.nil (WN.seq ?_)
          refine WC.seq (WC.region ?_)
          refine WR.move rfl rfl ?_
          refine WR.neqNil rfl rfl Tryz.underlying54 rfl ?_
          refine WR.nil (WN.seq ?_)
          refine WC.cond rfl (fun h160 => ?_) (fun h160 => ?_)
          · skip
            exact absurd h160 (by simp)
          · skip
            simp only at h160
            refine WC.skip (WN.seq ?_)
            refine WC.seq (WC.region ?_)
            refine WR.move rfl rfl ?_
            refine WR.nilCheckP rfl rfl ?_
            refine WR.field rfl fa126_0 rfl ?_
            refine WR.field rfl fa124_3 rfl ?_
            refine WR.load rfl Tryz.underlying21 rfl hR.c3 rfl ?_
            refine WR.move rfl rfl ?_
            (refine WR.conv rfl Tryz.underlying3 Tryz.underlying21 (wrap_i32 ?_ ?_) rfl ?_; (omega); (omega))
            (refine WR.bin rfl rfl (ar_sub (z := ((rep - y : Nat) : Int)) ?_) rfl ?_; (rw [wrap_i32 (by omega) (by omega)]; omega))
            refine WR.nilCheckP rfl rfl ?_
            refine WR.field rfl fa126_0 rfl ?_
            refine WR.field rfl fa124_3 rfl ?_
            refine WR.storeK rfl rfl rfl sz21 hR.c3 (hR.fz 3) ?_
            intro w5 hn hs
            replace hR := hR.s3 hn
            replace hg := hg.same hs (by simp <;> omega)
            replace ha := ha.same hs (by simp <;> omega) (by simp <;> omega) (by simp <;> omega)
            replace hS := hS.trans hs (by simp <;> omega)
            replace hDC := hDC.same hs (by simp <;> omega) (by simp <;> omega) (by simp <;> omega) (by simp <;> omega)
            replace hF := hF.same hs (by simp <;> omega)
            replace hN := hN.same hs (by simp <;> omega)
            clear hn hs
            refine WR.nil (WN.seq ?_)
            refine WC.seq (WC.region ?_)
            refine WR.move rfl rfl ?_
            refine WR.move rfl rfl ?_
            (refine WR.bin rfl rfl (ar_add (z := ((i + y : Nat) : Int)) ?_) rfl ?_; (rw [wrap_i64 (by omega) (by omega)]; omega))
            refine WR.assign rfl rfl ?_
            refine WR.nil (WN.seq (WC.region ?_))
            refine WR.move rfl rfl ?_
            refine WR.move rfl rfl ?_
            refine WR.slice rfl Tryz.underlying79 sz2 rfl ⟨_, _, rfl, by omega, by omega, show y = Int.toNat _ by omega⟩ rfl ?_
            refine WR.assign rfl rfl ?_
            refine WR.nil (WN.block (WN.block ?_))
            exact WN.loop (2 * (L - (i + y)) + (if (rep - y) + 0 = 0 then 1 else 0)) (i + y, if c - i = y then oi else oi + y * 1) (by rw [hm]; split <;> split <;> omega) ⟨rfl, rfl, kv rfl (by simp only [Nat.sub_sub]), kint rfl (by rfl), rfl, rfl, trivial⟩ ⟨show i + y ≤ L by omega, (by show (if c - i = y then oi else oi + y * 1) = o + (i + y) ∨ i + y = L; split <;> omega), hg, hS, hN.lt, cur, (rep - y), 0, pos, _, q4, _, _, hR, ha, by rw [List.drop_drop] at hD2; exact hD2, by omega, hDC, by omega, hF, hput, hN, rfl⟩
      · skip
        simp only [gt_iff_lt, decide_eq_false_iff_not, Int.not_lt] at h154
        omega
    · skip
      simp only [decide_eq_false_iff_not, Int.not_lt] at h150
      omega
  · skip
    obtain ⟨y, hy⟩ : ∃ y, y = min (min (L - i) lit) 1024 := ⟨_, rfl⟩
    obtain ⟨_, hD2, hyl, hyf, hyv⟩ := hD.lit (k := y) (by omega) h0
    have hX : ∀ j, j < y → bts (num d len) (pos + W * j) W < D := fun j hj => by have h11 := hyv j hj; rw [hgd] at h11; have h12 := hlt (i + j) (by omega); omega
    refine WC.seq (WC.seq (WC.region ?_))
    refine WR.move rfl rfl ?_
    refine WR.move rfl rfl ?_
    refine WR.bin rfl rfl rfl rfl ?_
    refine WR.nil (WN.seq ?_)
    refine WC.cond rfl (fun h150 => ?_) (fun h150 => ?_)
    · skip
      simp only [decide_eq_true_eq] at h150
      refine WC.skip (WN.seq ?_)
      refine WC.block (WC.seq (WC.region ?_))
      refine WR.move rfl rfl ?_
      refine WR.move rfl rfl ?_
      (refine WR.bin rfl rfl (ar_sub (z := ((L - i : Nat) : Int)) ?_) rfl ?_; (rw [wrap_i64 (by omega) (by omega)]; omega))
      refine WR.assign rfl rfl ?_
      refine WR.nil (WN.seq ?_)
      refine WC.block (WC.seq (WC.region ?_))
      refine WR.move rfl rfl ?_
      refine WR.nilCheckP rfl rfl ?_
      refine WR.field rfl fa126_0 rfl ?_
      refine WR.field rfl fa124_3 rfl ?_
      refine WR.load rfl Tryz.underlying21 rfl hR.c3 rfl ?_
      refine WR.bin rfl rfl rfl rfl ?_
      refine WR.assign rfl rfl ?_
      refine WR.nil (WN.seq ?_)
      refine WC.cond rfl (fun h154 => ?_) (fun h154 => ?_)
      · skip
        simp only [gt_iff_lt, decide_eq_true_eq] at h154
        omega
      · skip
        simp only [gt_iff_lt, decide_eq_false_iff_not, Int.not_lt] at h154
        refine WC.seq (WC.region ?_)
        refine WR.move rfl rfl ?_
        refine WR.nilCheckP rfl rfl ?_
        refine WR.field rfl fa126_0 rfl ?_
        refine WR.field rfl fa124_4 rfl ?_
        refine WR.load rfl Tryz.underlying21 rfl hR.c4 rfl ?_
        refine WR.bin rfl rfl rfl rfl ?_
        refine WR.assign rfl rfl ?_
        refine WR.nil (WN.seq ?_)
        refine WC.cond rfl (fun h166 => ?_) (fun h166 => ?_)
        · skip
          simp only [gt_iff_lt, decide_eq_true_eq] at h166
          refine WC.seq (WC.region ?_)
          refine WR.move rfl rfl ?_
          refine WR.move rfl rfl ?_
          refine WR.nilCheckP rfl rfl ?_
          refine WR.field rfl fa126_0 rfl ?_
          refine WR.field rfl fa124_4 rfl ?_
          refine WR.load rfl Tryz.underlying21 rfl hR.c4 rfl ?_
          (refine WR.conv rfl Tryz.underlying21 Tryz.underlying3 (wrap_i64 ?_ ?_) rfl ?_; (omega); (omega))
          refine WR.min3 rfl rfl rfl rfl ?_
          rw [show (if (1024 : Int) < (if ((lit : Nat) : Int) < ((L - i : Nat) : Int) then ((lit : Nat) : Int) else ((L - i : Nat) : Int)) then (1024 : Int) else (if ((lit : Nat) : Int) < ((L - i : Nat) : Int) then ((lit : Nat) : Int) else ((L - i : Nat) : Int))) = ((y : Nat) : Int) by rw [hy]; split <;> split <;> omega]
          refine WR.assign rfl rfl ?_
          refine WR.nil (WN.seq ?_)
          refine WC.seq (WC.region ?_)
          refine WR.move rfl rfl ?_
          refine WR.sliceA rfl Tryz.underlying138 sz21 ⟨_, _, rfl, by omega, by omega, show y = Int.toNat _ by omega⟩ rfl rfl ?_
          refine WR.assign rfl rfl ?_
          refine WR.nil (WN.seq (WC.seq ?_))
          refine WC.mix [] mixed (by kernel_rfl) ?_
          replace hg := hg.same (Same.drew _) (by simp <;> omega)
          replace hR := hR.same (Same.drew _) (by simp <;> omega)
          replace ha := ha.same (Same.drew _) (by simp <;> omega) (by simp <;> omega) (by simp <;> omega)
          replace hS := hS.trans (Same.drew _) (by simp <;> omega)
          replace hDC := hDC.same (Same.drew _) (by simp <;> omega) (by simp <;> omega) (by simp <;> omega) (by simp <;> omega)
          replace hF := hF.same (Same.drew _) (by simp <;> omega)
          replace hN := hN.same (Same.drew _) (by simp <;> omega)
          refine WR.move rfl rfl ?_
          refine WR.nilCheckP rfl rfl ?_
          refine WR.field rfl fa126_0 rfl ?_
          refine WR.field rfl fa124_0 rfl ?_
          refine WR.load rfl Tryz.underlying122 rfl hR.c0 rfl ?_
          refine WR.move rfl rfl ?_
          refine WR.nilCheckP rfl rfl ?_
          refine WR.field rfl fa126_0 rfl ?_
          refine WR.field rfl fa124_1 rfl ?_
          refine WR.load rfl Tryz.underlying3 rfl hR.c1 rfl ?_
          (refine WR.conv rfl Tryz.underlying3 Tryz.underlying110 (wrap_u64 ?_ ?_) rfl ?_; (omega); (omega))
          refine WR.move rfl rfl ?_
          have hnl3 := hS.size
          refine WR.callF rfl rfl cf55 rfl rfl (batchIndex hg b rb db dO len cap W y nb 0 (1024 - 0) _ 1024 pos d Fb ha hN (by omega) (by omega) (by omega) hW1 (by omega) hyf (by omega) (by omega) (by omega) (by omega) (by omega) (by omega) (by omega) (by omega) (by omega)) ?_
          rintro _ w3 ⟨rfl, ha', ⟨Fb2, hN', hput2⟩, hs⟩
          replace ha := ha'
          replace hN := hN'
          clear ha' hN'
          replace hg := hg.same hs (by simp <;> omega)
          replace hR := hR.same hs (by simp <;> omega)
          replace hS := hS.trans hs (by simp <;> omega)
          replace hDC := hDC.same hs (by simp <;> omega) (by simp <;> omega) (by simp <;> omega) (by simp <;> omega)
          replace hF := hF.same hs (by simp <;> omega)
          refine WR.move rfl rfl ?_
          refine WR.extract rfl rfl rfl ?_
          refine WR.extract rfl rfl rfl ?_
          refine WR.assign rfl rfl ?_
          refine WR.assign rfl rfl ?_
          refine WR.nil (WN.seq ?_)
          refine WC.seq (WC.seq (WC.region ?_))
          refine WR.move rfl rfl ?_
          refine WR.neqNil rfl rfl Tryz.underlying54 rfl ?_
          refine WR.nil (WN.seq ?_)
          refine WC.cond rfl (fun h170 => ?_) (fun h170 => ?_)
          · skip
            exact absurd h170 (by simp)
          · skip
            simp only at h170
            refine WC.skip (WN.seq ?_)
            refine WC.seq (WC.seq (WC.region ?_))
            refine WR.move rfl rfl ?_
            refine WR.move rfl rfl ?_
            refine WR.bin rfl rfl rfl rfl ?_
            refine WR.nil (WN.seq ?_)
            refine WC.cond rfl (fun h173 => ?_) (fun h173 => ?_)
            · skip
              exact absurd h173 (by simp)
            · skip
              simp only [bne_eq_false_iff_eq] at h173
              refine WC.skip (WN.seq ?_)
              refine WC.seq (WC.seq (WC.region ?_))
              refine WR.move rfl rfl ?_
              refine WR.move rfl rfl ?_
              have hrd : Rd _ nb 0 y (fun j => .int .i32 (bts (num d len) (pos + W * j) W : Nat)) := (hN.rd 0 y (by omega)).congr (fun j hj => hput2.1 j hj)
              refine WR.invoke rfl rfl rfl mtDC_IsValid cf141 rfl rfl (isValid hg bC bP q2 D k2 dv nb 0 y _ (fun j => bts (num d len) (pos + W * j) W) e hDC hDm hrd hX (by omega) (by omega) (by omega) (by omega) h1 (by omega) (by omega) (by omega)) ?_
              have hnl2 := And.intro hS.size hN.lt
              rintro _ w4 ⟨rfl, k3, q3, hDC', hk3, hq3, hs⟩
              replace hDC := hDC'
              clear hDC'
              replace hg := hg.same hs (by simp <;> omega)
              replace hR := hR.same hs (by simp <;> omega)
              replace ha := ha.same hs (by simp <;> omega) (by simp <;> omega) (by simp <;> omega)
              replace hS := hS.trans hs (by simp <;> omega)
              replace hF := hF.same hs (by simp <;> omega)
              replace hN := hN.same hs (by simp <;> omega)
              refine WR.notOp rfl rfl ?_
              refine WR.nil (WN.seq ?_)
              refine WC.cond rfl (fun h176 => ?_) (fun h176 => ?_)
              · skip
                exact absurd h176 (by simp)
              · skip
                refine WC.skip (WN.seq ?_)
                refine WC.seq (WC.seq (WC.region ?_))
                refine WR.move rfl rfl ?_
                refine WR.move rfl rfl ?_
                refine WR.move rfl rfl ?_
                have hnl3 := hS.size
                have hnl4 := hN.lt
                replace hrd : Rd _ nb 0 y (fun j => .int .i32 (bts (num d len) (pos + W * j) W : Nat)) := (hN.rd 0 y (by omega)).congr (fun j hj => hput2.1 j hj)
                refine WR.invoke rfl rfl rfl mtDC_Copy cf138 rfl rfl (copyDC bC bP q3 D k3 dv g oi (L - i) (c - i) t N nb 0 y _ e (fun j => bts (num d len) (pos + W * j) W) F hDC hk3 hrd hnl4 hF (by omega) (by omega) (by omega) (by omega) (by omega) (by omega) (by omega) (by omega) (by omega)) ?_
                rintro _ w5 ⟨rfl, ⟨F2, hF', hput3⟩, hs⟩
                replace hF := hF'
                clear hF'
                replace hput := hput.cat (y := y) hput3 (by omega) (by omega) (fun j hj => by have h11 := hyv j hj; rw [hgd] at h11; rw [h11])
                replace hg := hg.same hs (by simp <;> omega)
                replace hR := hR.same hs (by simp <;> omega)
                replace ha := ha.same hs (by simp <;> omega) (by simp <;> omega) (by simp <;> omega)
                replace hS := hS.trans hs (by simp <;> omega)
                replace hDC := hDC.same hs (by simp <;> omega) (by simp <;> omega) (by simp <;> omega) (by simp <;> omega)
                replace hN := hN.same hs (by simp <;> omega)
                refine WR.assign rfl rfl ?_
                refine WR.nil (WN.seq ?_)
                refine WC.seq (WC.region ?_)
                refine WR.move rfl rfl ?_
                refine WR.neqNil rfl rfl Tryz.underlying54 rfl ?_
                refine WR.nil (WN.seq ?_)
                refine WC.cond rfl (fun h179 => ?_) (fun h179 => ?_)
                · skip
                  exact absurd h179 (by simp)
                · skip
                  simp only at h179
                  refine WC.skip (WN.seq ?_)
                  refine WC.seq (WC.region ?_)
                  refine WR.move rfl rfl ?_
                  refine WR.nilCheckP rfl rfl ?_
                  refine WR.field rfl fa126_0 rfl ?_
                  refine WR.field rfl fa124_4 rfl ?_
                  refine WR.load rfl Tryz.underlying21 rfl hR.c4 rfl ?_
                  refine WR.move rfl rfl ?_
                  (refine WR.conv rfl Tryz.underlying3 Tryz.underlying21 (wrap_i32 ?_ ?_) rfl ?_; (omega); (omega))
                  (refine WR.bin rfl rfl (ar_sub (z := ((lit - y : Nat) : Int)) ?_) rfl ?_; (rw [wrap_i32 (by omega) (by omega)]; omega))
                  refine WR.nilCheckP rfl rfl ?_
                  refine WR.field rfl fa126_0 rfl ?_
                  refine WR.field rfl fa124_4 rfl ?_
                  refine WR.storeK rfl rfl rfl sz21 hR.c4 (hR.fz 4) ?_
                  intro w6 hn hs
                  replace hR := hR.s4 hn
                  replace hg := hg.same hs (by simp <;> omega)
                  replace ha := ha.same hs (by simp <;> omega) (by simp <;> omega) (by simp <;> omega)
                  replace hS := hS.trans hs (by simp <;> omega)
                  replace hDC := hDC.same hs (by simp <;> omega) (by simp <;> omega) (by simp <;> omega) (by simp <;> omega)
                  replace hF := hF.same hs (by simp <;> omega)
                  replace hN := hN.same hs (by simp <;> omega)
                  clear hn hs
                  refine WR.nil (WN.seq ?_)
                  refine WC.seq (WC.region ?_)
                  refine WR.move rfl rfl ?_
                  refine WR.move rfl rfl ?_
                  (refine WR.bin rfl rfl (ar_add (z := ((i + y : Nat) : Int)) ?_) rfl ?_; (rw [wrap_i64 (by omega) (by omega)]; omega))
                  refine WR.assign rfl rfl ?_
                  refine WR.nil (WN.seq (WC.region ?_))
                  refine WR.move rfl rfl ?_
                  refine WR.move rfl rfl ?_
                  refine WR.slice rfl Tryz.underlying79 sz2 rfl ⟨_, _, rfl, by omega, by omega, show y = Int.toNat _ by omega⟩ rfl ?_
                  refine WR.assign rfl rfl ?_
                  refine WR.nil (WN.block (WN.block ?_))
                  exact WN.loop (2 * (L - (i + y)) + (if 0 + (lit - y) = 0 then 1 else 0)) (i + y, if c - i = y then oi else oi + y * 1) (by rw [hm]; split <;> split <;> omega) ⟨rfl, rfl, kv rfl (by simp only [Nat.sub_sub]), kint rfl (by rfl), rfl, rfl, trivial⟩ ⟨show i + y ≤ L by omega, (by show (if c - i = y then oi else oi + y * 1) = o + (i + y) ∨ i + y = L; split <;> omega), hg, hS, hN.lt, cur, 0, (lit - y), (pos + W * y), _, q3, _, _, hR, ha, by rw [List.drop_drop] at hD2; exact hD2, by omega, hDC, by omega, hF, hput, hN, rfl⟩
        · skip
          simp only [gt_iff_lt, decide_eq_false_iff_not, Int.not_lt] at h166
          omega
    · skip
      simp only [decide_eq_false_iff_not, Int.not_lt] at h150
      omega
  · skip
    have hrn : rest.drop i ≠ [] := fun e => by rw [e] at hdl; simp at hdl; omega
    refine WC.seq (WC.seq (WC.region ?_))
    refine WR.move rfl rfl ?_
    refine WR.move rfl rfl ?_
    refine WR.bin rfl rfl rfl rfl ?_
    refine WR.nil (WN.seq ?_)
    refine WC.cond rfl (fun h150 => ?_) (fun h150 => ?_)
    · skip
      simp only [decide_eq_true_eq] at h150
      refine WC.skip (WN.seq ?_)
      refine WC.block (WC.seq (WC.region ?_))
      refine WR.move rfl rfl ?_
      refine WR.move rfl rfl ?_
      (refine WR.bin rfl rfl (ar_sub (z := ((L - i : Nat) : Int)) ?_) rfl ?_; (rw [wrap_i64 (by omega) (by omega)]; omega))
      refine WR.assign rfl rfl ?_
      refine WR.nil (WN.seq ?_)
      refine WC.block (WC.seq (WC.region ?_))
      refine WR.move rfl rfl ?_
      refine WR.nilCheckP rfl rfl ?_
      refine WR.field rfl fa126_0 rfl ?_
      refine WR.field rfl fa124_3 rfl ?_
      refine WR.load rfl Tryz.underlying21 rfl hR.c3 rfl ?_
      refine WR.bin rfl rfl rfl rfl ?_
      refine WR.assign rfl rfl ?_
      refine WR.nil (WN.seq ?_)
      refine WC.cond rfl (fun h154 => ?_) (fun h154 => ?_)
      · skip
        simp only [gt_iff_lt, decide_eq_true_eq] at h154
        omega
      · skip
        simp only [gt_iff_lt, decide_eq_false_iff_not, Int.not_lt] at h154
        refine WC.seq (WC.region ?_)
        refine WR.move rfl rfl ?_
        refine WR.nilCheckP rfl rfl ?_
        refine WR.field rfl fa126_0 rfl ?_
        refine WR.field rfl fa124_4 rfl ?_
        refine WR.load rfl Tryz.underlying21 rfl hR.c4 rfl ?_
        refine WR.bin rfl rfl rfl rfl ?_
        refine WR.assign rfl rfl ?_
        refine WR.nil (WN.seq ?_)
        refine WC.cond rfl (fun h166 => ?_) (fun h166 => ?_)
        · skip
          simp only [gt_iff_lt, decide_eq_true_eq] at h166
          omega
        · skip
          simp only [gt_iff_lt, decide_eq_false_iff_not, Int.not_lt] at h166
          refine WC.seq (WC.region ?_)
          refine WR.move rfl rfl ?_
          refine WR.nilCheckP rfl rfl ?_
          refine WR.field rfl fa126_0 rfl ?_
          refine WR.callF rfl rfl cf56 rfl rfl (next_run hg bR T b rb db dO len cap W cur pos d _ hR ha hD hrn hW1 hW2 hb3 (by omega) (by omega) (by omega) (by omega) (by omega) (by omega) (by omega)) ?_
          rintro _ w3 ⟨rfl, ⟨cur2, rep2, lit2, pos2, hR', ha', hD2, hc1, hc2, hc3, hpos2⟩, hs⟩
          replace ha := ha'
          replace hR := hR'
          clear ha' hR'
          replace hg := hg.same hs (by simp <;> omega)
          replace hS := hS.trans hs (by simp <;> omega)
          replace hDC := hDC.same hs (by simp <;> omega) (by simp <;> omega) (by simp <;> omega) (by simp <;> omega)
          replace hF := hF.same hs (by simp <;> omega)
          replace hN := hN.same hs (by simp <;> omega)
          refine WR.notOp rfl rfl ?_
          refine WR.nil (WN.seq ?_)
          refine WC.cond rfl (fun h186 => ?_) (fun h186 => ?_)
          · skip
            exact absurd h186 (by simp)
          · skip
            refine WC.skip (WN.block (WN.block ?_))
            exact WN.loop (2 * (L - i)) (i, oi) (by rw [hm]; simp) ⟨rfl, rfl, rfl, rfl, rfl, rfl, trivial⟩ ⟨hin, hoi, hg, hS, hN.lt, cur2, rep2, lit2, pos2, k2, q2, _, _, hR, ha, hD2, by omega, hDC, hq2, hF, hput, hN, by rw [if_neg (by omega), Nat.add_zero]⟩
    · skip
      simp only [decide_eq_false_iff_not, Int.not_lt] at h150
      omega
  · skip
    refine WC.seq (WC.seq (WC.region ?_))
    refine WR.move rfl rfl ?_
    refine WR.move rfl rfl ?_
    refine WR.bin rfl rfl rfl rfl ?_
    refine WR.nil (WN.seq ?_)
    refine WC.cond rfl (fun h150 => ?_) (fun h150 => ?_)
    · skip
      simp only [decide_eq_true_eq] at h150
      omega
    · skip
      simp only [decide_eq_false_iff_not, Int.not_lt] at h150
      refine WC.exit rfl ?_
      refine WN.seq (WC.seq (WC.region ?_))
      refine WR.move rfl rfl ?_
      refine WR.assign rfl rfl ?_
      refine WR.assign rfl rfl ?_
      refine WR.nil (WN.seq ?_)
      refine WC.retR rfl rfl ?_
      exact ⟨rfl, ⟨cur, rep, lit, pos, hR, ha, hD, hb1, hb2, hb3⟩, ⟨k2, q2, hDC, by omega⟩, ⟨F, hF, hput⟩, hS⟩

end Go.Proofs.YthmknddfkmklfaaGreatDoor.Vm
