/- impl.DictionaryInt64Read: what it reads. -/
import Derived.Test.YthmknddfkmklfaaGreatDoorFnZd
import Derived.Test.YthmknddfkmklfaaGreatDoorVmLate
namespace Go.Proofs.YthmknddfkmklfaaGreatDoor.Vm
open Go Mix Go.RowKit Num
set_option maxRecDepth 20000
set_option linter.unusedSimpArgs false
theorem n8_all {e : Nat → Nat} (he : ∀ i, e i < 256) {xs : List Nat} {i : Nat} (h : i < (xs.map (n8 e)).length) : (xs.map (n8 e)).getD i 0 < 18446744073709551616 := by
  rw [List.getD_eq_getElem?_getD, List.getElem?_eq_getElem h, Option.getD_some, List.getElem_map]
  exact num_lt 8 fun j _ => he _
theorem dr_z10 (w : World) : (zeroValue 22).run Tryz.prog w = .ok (.slice none 0 0) w := by kernel_rfl
theorem dr_z11 (w : World) : (zeroValue 4).run Tryz.prog w = .ok (.bool false) w := by kernel_rfl
theorem st_first {w : World} {bR T b : Nat} {rb : RB} {db dO len cap W : Nat} {d : Nat → Nat} {rs : List Rl.Run} (hR : RL w bR T b (W : Nat) (0 : Nat) (0 : Nat) (0 : Nat)) (ha : At w b rb db dO len cap d 0) (hf : ∀ r, r ∈ rs → Rl.Fit W r) (hl : len = (Rl.enc W rs).length) (hd : ∀ i, i < len → d i = (Rl.enc W rs).getD i 0) : St w bR T b rb db dO len cap d W (Rl.exp rs) :=
  ⟨0, 0, 0, 0, hR, ha, ⟨rs, 0, hf, ⟨by omega, fun i hi => by rw [Nat.zero_add]; exact hd i (by omega)⟩, .inl ⟨rfl, rfl, rfl⟩⟩, by decide, by decide, by decide⟩
theorem cf15 (us : Array Value) (w : World) : (callFunc 15 us).run Tryz.prog w = .ok (.enter 15 us) w := by kernel_rfl
theorem cf16 (us : Array Value) (w : World) : (callFunc 16 us).run Tryz.prog w = .ok (.enter 16 us) w := by kernel_rfl
theorem cf17 (us : Array Value) (w : World) : (callFunc 17 us).run Tryz.prog w = .ok (.enter 17 us) w := by kernel_rfl
theorem cf18 (us : Array Value) (w : World) : (callFunc 18 us).run Tryz.prog w = .ok (.enter 18 us) w := by kernel_rfl
theorem cf19 (us : Array Value) (w : World) : (callFunc 19 us).run Tryz.prog w = .ok (.enter 19 us) w := by kernel_rfl
theorem cf20 (us : Array Value) (w : World) : (callFunc 20 us).run Tryz.prog w = .ok (.enter 20 us) w := by kernel_rfl
theorem cf21 (us : Array Value) (w : World) : (callFunc 21 us).run Tryz.prog w = .ok (.enter 21 us) w := by kernel_rfl
theorem cf24 (us : Array Value) (w : World) : (callFunc 24 us).run Tryz.prog w = .ok (.enter 24 us) w := by kernel_rfl
theorem sz22 : (Tryz.prog.info? 22).map (·.size) = some 1 := by kernel_rfl
theorem sz4 : (Tryz.prog.info? 4).map (·.size) = some 1 := by kernel_rfl
set_option maxHeartbeats 800000 in
theorem dictRead {w : World} {aE aU aP : Addr} (hg : Glob w aE aU aP) (ys : List Nat) (rs : List Rl.Run) (zs : List Int) (A0 A2 Az : Option Addr) (n0 c0 n2 c2 m cz D W B0 B2 : Nat) (hy : Ls w B0 (.slice A0 n0 c0) (u8s ys)) (hyl : ys.length = 8 * D) (hn0 : n0 = 8 * D) (he : ∀ i, ys.getD i 0 < 256) (hD1 : 1 ≤ D) (hDm : D ≤ 1048576) (hx : Ls w B2 (.slice A2 n2 c2) (u8s (W :: Rl.enc W rs))) (hn2 : n2 = (Rl.enc W rs).length + 1) (hn22 : 2 ≤ n2) (hn23 : n2 ≤ 1048576) (hs8 : ∀ i, (W :: Rl.enc W rs).getD i 0 < 256) (hf : ∀ r, r ∈ rs → Rl.Fit W r) (hW1 : 1 ≤ W) (hW2 : W ≤ 20) (hz : Lu w w.heap.size (.slice Az m cz) (i64s zs)) (hm0 : m = (i64s zs).length) (hm50 : m ≤ 1048576) (hnv2 : (Rl.exp rs).length ≤ 1048576) (hfit : tpos (fun i => zs.getD i 0) m ≤ (Rl.exp rs).length) (hlt : ∀ j, j < (Rl.exp rs).length → (Rl.exp rs).getD j 0 < D) :
    Ret Tryz.prog 5 #[.slice A0 n0 c0, .int .i64 (D : Nat), .slice A2 n2 c2, .int .i64 ((Rl.exp rs).length : Nat), .slice Az m cz] w fun v w' => ∃ u, v = .tuple #[u, .bool true] ∧ LsV w' u ((tout (fun j => (Rl.exp rs).getD j 0) (fun i => zs.getD i 0) m).map fun x => vF (n8 (fun i => ys.getD i 0) x)) ∧ Same [] w w' := by
  have hS := Same.refl [] w
  have hgs := hg.size
  obtain ⟨lz, hlz⟩ : ∃ x, x = w.heap.size := ⟨_, rfl⟩
  rw [← hlz] at hz
  have hy2 : Lu w lz (.slice A0 n0 c0) (u8s ys) := by rw [hlz]; exact hy.lu
  have hx2 : Lu w lz (.slice A2 n2 c2) (u8s (W :: Rl.enc W rs)) := by rw [hlz]; exact hx.lu
  clear hy hx
  obtain ⟨b10, hb10⟩ : ∃ x, x = w.heap.size := ⟨_, rfl⟩
  obtain ⟨e, hee⟩ : ∃ e : Nat → Nat, e = fun i => ys.getD i 0 := ⟨_, rfl⟩
  rw [← hee]
  obtain ⟨z, hzd⟩ : ∃ z : Nat → Int, z = fun i => zs.getD i 0 := ⟨_, rfl⟩
  have hel : (u8s ys).length = 8 * D := by rw [u8s_length]; exact hyl
  have hel2 : (u8s (W :: Rl.enc W rs)).length = n2 := by rw [u8s_length]; simp [hn2]
  have hw0 := Nat.le_of_eq hb10
  refine Ret.enterD (vs := [.slice A0 n0 c0, .int .i64 (D : Nat), .slice A2 n2 c2, .int .i64 ((Rl.exp rs).length : Nat), .slice Az m cz]) Tryz.func5 Tryz.ntmps5 rfl rfl ?_
  refine WC.seq (WC.region ?_)
  refine WR.alloc dr_z10 rfl rfl ?_
  intro w1 hn hs
  have hc10 : Row w1 b10 22 1 (fun _ => .slice none 0 0) := by
    rw [hn, hb10]
    exact (Row.alloc w #[.slice none 0 0] 22).congr fun i hi => by
      obtain rfl : i = 0 := by simp at hi; omega
      rfl
  rw [← hb10]
  obtain ⟨b11, hb11⟩ : ∃ x, x = w1.heap.size := ⟨_, rfl⟩
  have hb89 := hc10.lt
  replace hw0 := Nat.le_trans hw0 hs.size
  replace hS := hS.trans hs (by simp <;> omega)
  replace hg := hg.same hs (by simp <;> omega)
  replace hz := hz.same hs (by simp <;> omega)
  replace hy2 := hy2.same hs (by simp <;> omega)
  replace hx2 := hx2.same hs (by simp <;> omega)
  clear hn hs
  refine WR.alloc dr_z11 rfl rfl ?_
  intro w2 hn hs
  have hc11 : Row w2 b11 4 1 (fun _ => .bool false) := by
    rw [hn, hb11]
    exact (Row.alloc _ #[.bool false] 4).congr fun i hi => by
      obtain rfl : i = 0 := by simp at hi; omega
      rfl
  rw [← hb11]
  have hl11 := hc11.lt
  replace hw0 := Nat.le_trans hw0 hs.size
  replace hS := hS.trans hs (by simp <;> omega)
  replace hg := hg.same hs (by simp <;> omega)
  replace hz := hz.same hs (by simp <;> omega)
  replace hy2 := hy2.same hs (by simp <;> omega)
  replace hx2 := hx2.same hs (by simp <;> omega)
  replace hc10 := hc10.same hs (by simp <;> omega)
  clear hn hs
  refine WR.nil (WN.seq ?_)
  refine WC.seq (WC.region ?_)
  refine WR.deferF rfl rfl ?_
  refine WR.nil (WN.seq ?_)
  refine WC.seq (WC.region ?_)
  refine WR.callF rfl rfl cf16 rfl rfl (newPlain _) ?_
  rintro _ w3 ⟨bP, rfl, hbP, hp, hs⟩
  have hpl := hp.lt
  replace hw0 := Nat.le_trans hw0 hs.size
  replace hS := hS.trans hs (by simp <;> omega)
  replace hg := hg.same hs (by simp <;> omega)
  replace hz := hz.same hs (by simp <;> omega)
  replace hy2 := hy2.same hs (by simp <;> omega)
  replace hx2 := hx2.same hs (by simp <;> omega)
  replace hc10 := hc10.same hs (by simp <;> omega)
  replace hc11 := hc11.same hs (by simp <;> omega)
  refine WR.assign rfl rfl ?_
  refine WR.nil (WN.seq ?_)
  refine WC.seq (WC.seq ?_)
  refine WC.perm [] [0, 1, 2, 3, 4, 5, 6, 7] mixed (by kernel_rfl) ?_
  replace hw0 := Nat.le_trans hw0 (Same.drew _).size
  replace hS := hS.trans (Same.drew _) (by simp <;> omega)
  replace hg := hg.same (Same.drew _) (by simp <;> omega)
  replace hz := hz.same (Same.drew _) (by simp <;> omega)
  replace hy2 := hy2.same (Same.drew _) (by simp <;> omega)
  replace hx2 := hx2.same (Same.drew _) (by simp <;> omega)
  replace hpl := Nat.lt_of_lt_of_le hpl (Same.drew _).size
  replace hc10 := hc10.same (Same.drew _) (by simp <;> omega)
  replace hc11 := hc11.same (Same.drew _) (by simp <;> omega)
  replace hp := hp.same (Same.drew _) (by simp <;> omega)
  refine WP.move rfl rfl rfl ?_
  refine WP.nilCheck rfl rfl rfl ?_
  refine WP.field rfl rfl fa61_0 rfl ?_
  refine WP.move rfl rfl rfl ?_
  refine WP.move rfl rfl rfl ?_
  refine WP.callF rfl rfl rfl cf18 rfl rfl (copied ys A0 n0 c0 0 hy2.ls (by omega) (by omega) (by omega)) ?_
  rintro _ w4 ⟨dv, cv, rfl, hdv1, hdl, hcv, hdv, hs⟩
  have hPd : bP < dv := by omega
  replace hw0 := Nat.le_trans hw0 hs.size
  replace hS := hS.trans hs (by simp <;> omega)
  replace hg := hg.same hs (by simp <;> omega)
  replace hz := hz.same hs (by simp <;> omega)
  replace hy2 := hy2.same hs (by simp <;> omega)
  replace hx2 := hx2.same hs (by simp <;> omega)
  replace hpl := Nat.lt_of_lt_of_le hpl hs.size
  replace hc10 := hc10.same hs (by simp <;> omega)
  replace hc11 := hc11.same hs (by simp <;> omega)
  replace hp := hp.same hs (by simp <;> omega)
  refine WP.callF rfl rfl rfl cf17 rfl rfl (setPlain bP D _ hp rfl) ?_
  rintro _ w5 ⟨rfl, hp', hs⟩
  replace hp := hp'
  clear hp'
  replace hw0 := Nat.le_trans hw0 hs.size
  replace hS := hS.trans hs (by simp <;> omega)
  replace hg := hg.same hs (by simp <;> omega)
  replace hz := hz.same hs (by simp <;> omega)
  replace hy2 := hy2.same hs (by simp <;> omega)
  replace hx2 := hx2.same hs (by simp <;> omega)
  replace hpl := Nat.lt_of_lt_of_le hpl hs.size
  replace hc10 := hc10.same hs (by simp <;> omega)
  replace hc11 := hc11.same hs (by simp <;> omega)
  replace hdv := hdv.same hs (by simp <;> omega) hdl
  replace hdl := Nat.lt_of_lt_of_le hdl hs.size
  refine WP.neqNil rfl rfl rfl Tryz.underlying54 rfl ?_
  refine WP.nil ?_
  refine WN.seq ?_
  refine WC.cond rfl (fun h474 => ?_) (fun h474 => ?_)
  · skip
    exact absurd h474 (by simp)
  · skip
    simp only at h474
    refine WC.skip (WN.seq ?_)
    refine WC.seq (WC.region ?_)
    refine WR.build rfl rfl (v := .agg #[]) (fun w => by kernel_rfl) rfl rfl ?_
    refine WR.mkIface rfl Tryz.underlying66 rfl rfl ?_
    refine WR.move rfl rfl ?_
    refine WR.mkIface rfl Tryz.underlying51 rfl rfl ?_
    refine WR.move rfl rfl ?_
    have hpl2 := hp.lt
    have hdl2 := hdl
    refine WR.callF rfl rfl cf19 rfl rfl (newDict bP D hpl2) ?_
    rintro _ w6 ⟨bD, bC, F, rfl, hbD, hbC, hDb, hF5, hF4, hC, hs⟩
    have hCl := hC.lt
    replace hw0 := Nat.le_trans hw0 hs.size
    replace hS := hS.trans hs (by simp <;> omega)
    replace hg := hg.same hs (by simp <;> omega)
    replace hz := hz.same hs (by simp <;> omega)
    replace hy2 := hy2.same hs (by simp <;> omega)
    replace hx2 := hx2.same hs (by simp <;> omega)
    replace hpl := Nat.lt_of_lt_of_le hpl hs.size
    replace hc10 := hc10.same hs (by simp <;> omega)
    replace hc11 := hc11.same hs (by simp <;> omega)
    replace hp := hp.same hs (by simp <;> omega)
    replace hdv := hdv.same hs (by simp <;> omega) hdl
    replace hdl := Nat.lt_of_lt_of_le hdl hs.size
    refine WR.assign rfl rfl ?_
    refine WR.nil (WN.seq ?_)
    refine WC.seq (WC.seq ?_)
    refine WC.perm [] [0, 1, 2, 3, 4, 5, 6, 7] mixed (by kernel_rfl) ?_
    replace hw0 := Nat.le_trans hw0 (Same.drew _).size
    replace hS := hS.trans (Same.drew _) (by simp <;> omega)
    replace hg := hg.same (Same.drew _) (by simp <;> omega)
    replace hz := hz.same (Same.drew _) (by simp <;> omega)
    replace hy2 := hy2.same (Same.drew _) (by simp <;> omega)
    replace hx2 := hx2.same (Same.drew _) (by simp <;> omega)
    replace hpl := Nat.lt_of_lt_of_le hpl (Same.drew _).size
    replace hCl := Nat.lt_of_lt_of_le hCl (Same.drew _).size
    replace hc10 := hc10.same (Same.drew _) (by simp <;> omega)
    replace hc11 := hc11.same (Same.drew _) (by simp <;> omega)
    replace hp := hp.same (Same.drew _) (by simp <;> omega)
    replace hdv := hdv.same (Same.drew _) (by simp <;> omega) hdl
    replace hdl := Nat.lt_of_lt_of_le hdl (Same.drew _).size
    replace hDb := hDb.same (Same.drew _) (by simp <;> omega)
    replace hC := hC.same (Same.drew _) (by simp <;> omega)
    refine WP.move rfl rfl rfl ?_
    refine WP.nilCheck rfl rfl rfl ?_
    refine WP.field rfl rfl fa78_0 rfl ?_
    refine WP.move rfl rfl rfl ?_
    refine WP.move rfl rfl rfl ?_
    refine WP.callF rfl rfl rfl cf18 rfl rfl (copied (W :: Rl.enc W rs) A2 n2 c2 0 hx2.ls hel2.symm (by omega) (by omega)) ?_
    rintro _ w7 ⟨db, cx, rfl, hdb1, hdbl, hcx, hdb, hs⟩
    have hCd : bC < db := by omega
    replace hw0 := Nat.le_trans hw0 hs.size
    replace hS := hS.trans hs (by simp <;> omega)
    replace hg := hg.same hs (by simp <;> omega)
    replace hz := hz.same hs (by simp <;> omega)
    replace hy2 := hy2.same hs (by simp <;> omega)
    replace hx2 := hx2.same hs (by simp <;> omega)
    replace hpl := Nat.lt_of_lt_of_le hpl hs.size
    replace hCl := Nat.lt_of_lt_of_le hCl hs.size
    replace hc10 := hc10.same hs (by simp <;> omega)
    replace hc11 := hc11.same hs (by simp <;> omega)
    replace hp := hp.same hs (by simp <;> omega)
    replace hdv := hdv.same hs (by simp <;> omega) hdl
    replace hdl := Nat.lt_of_lt_of_le hdl hs.size
    replace hDb := hDb.same hs (by simp <;> omega)
    replace hC := hC.same hs (by simp <;> omega)
    have hd0 : Rd w7 db 0 n2 (byt fun i => (W :: Rl.enc W rs).getD i 0) := hdb.congr (fun i hi => u8s_getD (by rw [← hel2, u8s_length] at hi; exact hi))
    refine WP.callF rfl rfl rfl cf20 rfl rfl (setDict bD (Rl.exp rs).length db 0 n2 cx W F (fun i => (W :: Rl.enc W rs).getD i 0) hDb hF5 hd0 (fun i _ => hs8 i) hdbl hn22 hcx (by omega) rfl hW2 (by omega) (by omega)) ?_
    rintro _ w8 ⟨rfl, bR, b, hbb, hbR, hR, ha, hs⟩
    replace hw0 := Nat.le_trans hw0 hs.size
    replace hS := hS.trans hs (by simp <;> omega)
    replace hg := hg.same hs (by simp <;> omega)
    replace hz := hz.same hs (by simp <;> omega)
    replace hy2 := hy2.same hs (by simp <;> omega)
    replace hx2 := hx2.same hs (by simp <;> omega)
    replace hpl := Nat.lt_of_lt_of_le hpl hs.size
    replace hCl := Nat.lt_of_lt_of_le hCl hs.size
    replace hc10 := hc10.same hs (by simp <;> omega)
    replace hc11 := hc11.same hs (by simp <;> omega)
    replace hp := hp.same hs (by simp <;> omega)
    replace hdv := hdv.same hs (by simp <;> omega) hdl
    replace hdl := Nat.lt_of_lt_of_le hdl hs.size
    replace hC := hC.same hs (by simp <;> omega)
    refine WP.neqNil rfl rfl rfl Tryz.underlying54 rfl ?_
    refine WP.nil ?_
    refine WN.seq ?_
    refine WC.cond rfl (fun h478 => ?_) (fun h478 => ?_)
    · skip
      exact absurd h478 (by simp)
    · skip
      simp only at h478
      refine WC.skip (WN.seq ?_)
      refine WC.seq (WC.region ?_)
      refine WR.move rfl rfl ?_
      refine WR.move rfl rfl ?_
      refine WR.mkFunc (fs := [.tmp 40]) rfl rfl rfl ?_
      refine WR.move rfl rfl ?_
      refine WR.mkFunc (fs := [.tmp 42]) rfl rfl rfl ?_
      have hSt := st_first hR ha hf (by omega) (fun i _ => rfl)
      have hP0 : PD w8 bP (D - 0) dv (fun i => e (8 * 0 + i)) := by
        rw [show (fun i => e (8 * 0 + i)) = e from funext fun i => by rw [Nat.mul_zero, Nat.zero_add]]
        refine ⟨0, cv, by rw [Nat.sub_zero, ← hn0]; exact hp, by omega, ?_, fun i _ => by rw [hee]; exact he i, hdl⟩
        rw [Nat.sub_zero, ← hn0]
        exact hdv.congr (fun i hi => by rw [u8s_getD (by omega), hee]; rfl)
      have hDC : DC w8 bC bP bC D 0 dv e := ⟨_, hC, Nat.zero_le _, Own.nil _ _ _, hP0, fun g hg => (by cases hg), hC.lt⟩
      have hDD : DD w8 bD (upd F 5 (.pointer (some ⟨bR, 0, none⟩))) (Rl.exp rs).length bR b db 2 (n2 - 1) (cx - 1) W (fun i => (W :: Rl.enc W rs).getD (i + 1) 0) (Rl.exp rs) bC bP bC D dv e := ⟨hF4, rfl, hSt, 0, hDC⟩
      have hRl := hR.lt
      have hw5 := hw0
      refine WR.callF rfl rfl cf21 rfl rfl (decoded hg bD _ (Rl.exp rs).length bR b db 2 (n2 - 1) (cx - 1) W _ (Rl.exp rs) bC bP bC D dv e m cz lz zs Az hDD hz hm0 hm50 (Nat.le_refl _) hfit hnv2 hlt (by omega) hDm hW1 hW2 (by omega) (by omega) (by omega) hbC (by omega) (by omega) hbR (.inl rfl)) ?_
      rintro _ w9 ⟨u, rfl, hO, hs⟩
      replace hw0 := Nat.le_trans hw0 hs.size
      replace hS := hS.trans hs (by simp <;> omega)
      replace hg := hg.same hs (by simp <;> omega)
      replace hz := hz.same hs (by simp <;> omega)
      replace hy2 := hy2.same hs (by simp <;> omega)
      replace hx2 := hx2.same hs (by simp <;> omega)
      replace hpl := Nat.lt_of_lt_of_le hpl hs.size
      replace hCl := Nat.lt_of_lt_of_le hCl hs.size
      replace hc10 := hc10.same hs (by simp <;> omega)
      replace hc11 := hc11.same hs (by simp <;> omega)
      replace hdv := hdv.same hs (by simp <;> omega) hdl
      replace hdl := Nat.lt_of_lt_of_le hdl hs.size
      refine WR.move rfl rfl ?_
      refine WR.extract rfl rfl rfl ?_
      refine WR.extract rfl rfl rfl ?_
      refine WR.assign rfl rfl ?_
      refine WR.storeK rfl rfl rfl sz4 (hc11.cell (by omega)) (hc11.fz _) ?_
      intro w10 hn hs
      replace hc11 := hc11.set' hn
      replace hw0 := Nat.le_trans hw0 hs.size
      replace hS := hS.trans hs (by simp <;> omega)
      replace hg := hg.same hs (by simp <;> omega)
      replace hz := hz.same hs (by simp <;> omega)
      replace hy2 := hy2.same hs (by simp <;> omega)
      replace hx2 := hx2.same hs (by simp <;> omega)
      replace hpl := Nat.lt_of_lt_of_le hpl hs.size
      replace hCl := Nat.lt_of_lt_of_le hCl hs.size
      replace hc10 := hc10.same hs (by simp <;> omega)
      replace hdv := hdv.same hs (by simp <;> omega) hdl
      replace hdl := Nat.lt_of_lt_of_le hdl hs.size
      replace hO := hO.same hs (by simp <;> omega)
      clear hn hs
      refine WR.nil (WN.seq (WC.seq ?_))
      obtain ⟨Au, cu, rfl⟩ := hO.shape
      have hO9 : Own w10.drew _ 2 _ _ := hO.same (Same.drew _) (by simp)
      have hOl := hO9.ls.lu
      have hXl : (xv e (tout (fun j => (Rl.exp rs).getD j 0) (fun i => zs.getD i 0) m)).length ≤ (Rl.exp rs).length := by rw [xv_length]; exact Nat.le_trans (tout_length _ _ _) hfit
      obtain ⟨hV0, hV1⟩ : ∃ x, x = w10.drew.heap.size := ⟨_, rfl⟩
      have hV2 := (hc10.same (Same.drew _) (by simp)).lt
      have hV3 := (hc11.same (Same.drew _) (by simp)).lt
      rw [← hV1] at hV2 hV3
      refine WC.late (qs := []) mixed (by kernel_rfl) rfl rfl rfl rfl rfl rfl cf24 rfl rfl rfl rfl rfl rfl (fun _ => rfl) Tryz.underlying4 rfl (hc11.cell (i := 0) (by decide)) (valued ((tout (fun j => (Rl.exp rs).getD j 0) (fun i => zs.getD i 0) m).map (n8 e)) Au _ cu hOl rfl (by omega) (fun i hi => n8_all (by rw [hee]; exact he) hi)) ?_ (by decide) (by decide) (by decide) ?_
      · rintro vv w11 ⟨hV, hs⟩
        exact (hc11.same ((Same.drew _).trans hs (by simp)) (by simp)).cell (i := 0) (by decide)
      rintro vv w11 ⟨hV, hs⟩
      replace hs := (Same.drew w10).trans hs (by simp)
      rw [← hV1] at hV
      rw [List.map_map] at hV
      replace hw0 := Nat.le_trans hw0 hs.size
      replace hS := hS.trans hs (by simp <;> omega)
      replace hg := hg.same hs (by simp <;> omega)
      replace hz := hz.same hs (by simp <;> omega)
      replace hy2 := hy2.same hs (by simp <;> omega)
      replace hx2 := hx2.same hs (by simp <;> omega)
      replace hpl := Nat.lt_of_lt_of_le hpl hs.size
      replace hCl := Nat.lt_of_lt_of_le hCl hs.size
      replace hc10 := hc10.same hs (by simp <;> omega)
      replace hc11 := hc11.same hs (by simp <;> omega)
      replace hdv := hdv.same hs (by simp <;> omega) hdl
      replace hdl := Nat.lt_of_lt_of_le hdl hs.size
      replace hO := hO.same hs (by simp <;> omega)
      clear hs
      refine WR.storeK rfl rfl hV.one sz22 (hc10.cell (by omega)) (hc10.fz _) ?_
      intro w12 hn hs
      replace hc10 := hc10.set' hn
      replace hw0 := Nat.le_trans hw0 hs.size
      replace hS := hS.trans hs (by simp <;> omega)
      replace hg := hg.same hs (by simp <;> omega)
      replace hz := hz.same hs (by simp <;> omega)
      replace hy2 := hy2.same hs (by simp <;> omega)
      replace hx2 := hx2.same hs (by simp <;> omega)
      replace hpl := Nat.lt_of_lt_of_le hpl hs.size
      replace hCl := Nat.lt_of_lt_of_le hCl hs.size
      replace hc11 := hc11.same hs (by simp <;> omega)
      replace hdv := hdv.same hs (by simp <;> omega) hdl
      replace hdl := Nat.lt_of_lt_of_le hdl hs.size
      replace hO := hO.same hs (by simp <;> omega)
      replace hV := hV.same hs (by simp <;> omega)
      clear hn hs
      refine WR.storeK rfl rfl rfl sz4 (hc11.cell (by omega)) (hc11.fz _) ?_
      intro w13 hn hs
      replace hc11 := hc11.set' hn
      replace hw0 := Nat.le_trans hw0 hs.size
      replace hS := hS.trans hs (by simp <;> omega)
      replace hg := hg.same hs (by simp <;> omega)
      replace hz := hz.same hs (by simp <;> omega)
      replace hy2 := hy2.same hs (by simp <;> omega)
      replace hx2 := hx2.same hs (by simp <;> omega)
      replace hpl := Nat.lt_of_lt_of_le hpl hs.size
      replace hCl := Nat.lt_of_lt_of_le hCl hs.size
      replace hc10 := hc10.same hs (by simp <;> omega)
      replace hdv := hdv.same hs (by simp <;> omega) hdl
      replace hdl := Nat.lt_of_lt_of_le hdl hs.size
      replace hO := hO.same hs (by simp <;> omega)
      replace hV := hV.same hs (by simp <;> omega)
      clear hn hs
      refine WR.nil (WN.seq ?_)
      refine WC.retD2 _ rfl rfl rfl Tryz.underlying22 rfl Tryz.underlying4 rfl (cf15 _ _) (noNums _ _ _) (hc10.cell (i := 0) (by decide)) (hc11.cell (i := 0) (by decide)) ?_
      exact ⟨_, rfl, hV.ls, hS⟩

end Go.Proofs.YthmknddfkmklfaaGreatDoor.Vm
