/- The thin package: bytes copied, batches decoded, numbers as values. -/
import Derived.Test.YthmknddfkmklfaaGreatDoorVmVal
namespace Go.Proofs.YthmknddfkmklfaaGreatDoor.Vm
open Go Mix Go.RowKit Num
set_option maxRecDepth 20000
set_option linter.unusedSimpArgs false
theorem back64 {m : Nat} (h : m < 18446744073709551616) : IntKind.u64.wrap (IntKind.i64.wrap ((m : Nat) : Int)) = ((m : Nat) : Int) := by
  simp [IntKind.wrap, IntKind.bits, IntKind.signed]
  omega
def w64s (ms : List Nat) : List Value := ms.map fun m => .int .i64 (IntKind.i64.wrap ((m : Nat) : Int))
theorem w64s_length (ms : List Nat) : (w64s ms).length = ms.length := by simp [w64s]
theorem w64s_getD {ms : List Nat} {i : Nat} (h : i < ms.length) : (w64s ms).getD i undef = .int .i64 (IntKind.i64.wrap ((ms.getD i 0 : Nat) : Int)) := by simp [w64s, h]
theorem take_snoc {ms : List Nat} {i : Nat} (h : i < ms.length) : ms.take (i + 1) = ms.take i ++ [ms.getD i 0] := by
  rw [List.take_add_one]
  simp [h]
/-- the number of eight bytes, at place x -/
def n8 (e : Nat → Nat) (x : Nat) : Nat := num (fun i => e (8 * x + i)) 8
def xv (e : Nat → Nat) (xs : List Nat) : List Value := w64s (xs.map (n8 e))
theorem xv_append (e : Nat → Nat) (xs ys : List Nat) : xv e (xs ++ ys) = xv e xs ++ xv e ys := by simp [xv, w64s]
theorem xv_length (e : Nat → Nat) (xs : List Nat) : (xv e xs).length = xs.length := by simp [xv, w64s]
theorem xv_getD {e : Nat → Nat} {xs : List Nat} {i : Nat} (h : i < xs.length) : (xv e xs).getD i undef = .int .i64 (i8 e (xs.getD i 0)) := by
  simp [xv, w64s, h, i8, n8]
theorem xv_one {e : Nat → Nat} {xs : List Nat} {i : Nat} (h : i < (xv e xs).length) : ((xv e xs).getD i undef).oneCell' = true := by
  rw [xv_length] at h
  rw [xv_getD h]; rfl
theorem tout_step {V : Nat → Nat} {z : Nat → Int} {i n : Nat} (h : z i = (n : Int)) : tout V z (i + 1) = tout V z i ++ (List.range n).map fun j => V (tpos z i + j) := by
  simp only [tout, h, Int.toNat_natCast]
theorem DD.lt {w : World} {bD : Nat} {F : Nat → Value} {nv bR b db dO len cap W : Nat} {d : Nat → Nat} {rest : List Nat} {bC bP q D dv : Nat} {e : Nat → Nat} (h : DD w bD F nv bR b db dO len cap W d rest bC bP q D dv e) : bR < w.heap.size ∧ q < w.heap.size := by
  obtain ⟨hF4, hF5, ⟨cur, rep, lit, pos, hR, _⟩, k, hDC⟩ := h
  exact ⟨hR.lt, hDC.lt.2.2.2.2⟩
theorem noNums (p1 p2 : Addr) (w : World) :
    CallsD Tryz.prog 15 #[.pointer (some p1), .pointer (some p2)] .returning w fun e u' w' => (∃ v, e = .returned v) ∧ u' = .returning ∧ w' = w := by
  refine callsD_of_wpS Tryz.func15 rfl fun c₀ cs hu => ?_
  apply wpS_seq
  apply wpS_region
  simp [wpOpsS, go_sem, recoverD, hu, Tryz.ntmps15, Exit.thenS]
  refine wpS_cond (t := false) (by simp [Act.eval, Array.replicate]) ?_
  simp only [Bool.false_eq_true, if_false]
  refine wpS_of_wp (wp_skip ?_)
  cases c₀
  simp_all [bodyPostS, results, Tryz.results15]
theorem cf22 (us : Array Value) (w : World) : (callFunc 22 us).run Tryz.prog w = .ok (.enter 22 us) w := by kernel_rfl
theorem cf23 (us : Array Value) (w : World) : (callFunc 23 us).run Tryz.prog w = .ok (.enter 23 us) w := by kernel_rfl
theorem cf25 (us : Array Value) (w : World) : (callFunc 25 us).run Tryz.prog w = .ok (.enter 25 us) w := by kernel_rfl
theorem mk5 : (Tryz.prog.info? 5).map (fun i => (i.size, i.bytes, i.zero)) = some (1, 1, some (.int .u8 0)) := by kernel_rfl
theorem sz35 : (Tryz.prog.info? 35).map (·.size) = some 4 := by kernel_rfl
set_option maxHeartbeats 200000 in
theorem copied {w : World} (ys : List Nat) (A : Option Addr) (n c B : Nat) (hL : Ls w B (.slice A n c) (u8s ys)) (hn : n = (u8s ys).length) (hn0 : 0 < n) (hn2 : n ≤ 1099511627776) :
    Ret Tryz.prog 18 #[.slice A n c] w fun v w' => ∃ g c', v = .slice (some ⟨g, 0, none⟩) n c' ∧ w.heap.size ≤ g ∧ g < w'.heap.size ∧ n ≤ c' ∧ Rd w' g 0 n (fun i => (u8s ys).getD i undef) ∧ Same [] w w' := by
  have hS := Same.refl [] w
  have hw0 := Nat.le_refl w.heap.size
  refine Ret.enter (vs := [.slice A n c]) Tryz.func18 Tryz.ntmps18 rfl rfl ?_
  refine WC.seq (WC.region ?_)
  refine WR.assign rfl rfl ?_
  refine WR.nil (WN.seq ?_)
  refine WC.seq (WC.region ?_)
  obtain ⟨nb, hnb⟩ : ∃ x, x = w.heap.size := ⟨_, rfl⟩
  refine WR.buildSl (E := 5) (cs := #[]) rfl rfl (fun w => by kernel_rfl) rfl rfl ?_
  rw [← hnb]
  intro w1 hM hs
  replace hw0 := Nat.le_trans hw0 hs.size
  replace hS := hS.trans hs (by simp <;> omega)
  replace hL := hL.same hs (by simp)
  clear hs
  refine WR.move rfl rfl ?_
  have hO : Own w1 nb 5 (.slice (some ⟨nb, 0, none⟩) 0 0) [] := hM.own rfl (fun i hi => absurd hi (Nat.not_lt_zero i)) (Nat.le_refl _) (by decide)
  have hML := hM.lt
  refine WR.appendL rfl hO rfl hL (fun i hi => u8s_one hi) Tryz.underlying28 mk5 rfl (by decide) (by simp <;> omega) (by omega) rfl rfl ?_
  intro u2 w2 S9 hn hs hS9
  replace hO := hn
  replace hw0 := Nat.le_trans hw0 hs.size
  replace hS := hS.trans hs (by first | (simp <;> omega) | (intro hm; have := hS9 _ hm; omega) | (intro g hm; have := hS9 _ hm; omega) | (intro g hm; have := hS9 _ hm; exact .inr (by omega)))
  rw [List.nil_append] at hO
  clear hn hs hS9
  refine WR.assign rfl rfl ?_
  refine WR.nil (WN.seq ?_)
  refine WC.retR rfl rfl ?_
  obtain ⟨g, c2, rfl, hg1, hg2, hg3, hg4⟩ := hO.full (by omega)
  rw [← hn] at hg3 hg4 ⊢
  exact ⟨g, c2, rfl, by omega, hg2, hg3, hg4, hS⟩

set_option maxHeartbeats 200000 in
theorem valueI {w : World} (m : Nat) (hm : m < 18446744073709551616) :
    Ret Tryz.prog 25 #[.int .i64 (IntKind.i64.wrap ((m : Nat) : Int))] w fun v w' => v = vN m ∧ Same [] w w' := by
  have hS := Same.refl [] w
  obtain ⟨bV, hbV⟩ : ∃ x, x = w.heap.size := ⟨_, rfl⟩
  refine Ret.enter (vs := [.int .i64 (IntKind.i64.wrap ((m : Nat) : Int))]) Tryz.func25 Tryz.ntmps25 rfl rfl ?_
  refine WC.seq (WC.region ?_)
  refine WR.alloc vv_zv rfl rfl ?_
  intro w1 hn hs
  have hV : Row w1 bV 35 4 (fun i => (#[.bool false, .int .u64 0, .string ⟨#[]⟩, .slice none 0 0] : Array Value).getD i undef) := by
    rw [hn, hbV]
    exact Row.alloc _ _ _
  rw [← hbV]
  replace hS := hS.trans hs (by simp <;> omega)
  clear hn hs
  refine WR.nil (WN.seq ?_)
  refine WC.seq (WC.region ?_)
  refine WR.move rfl rfl ?_
  refine WR.conv rfl Tryz.underlying2 Tryz.underlying33 (back64 hm) rfl ?_
  refine WR.build rfl rfl (v := vN m) (fun w => by kernel_rfl) rfl rfl ?_
  refine WR.storeAgg (n := 4) rfl rfl sz35 rfl (by simp [Value.oneCell']) hV (by decide) ?_
  intro w8 hn hs
  replace hV := hn
  replace hS := hS.trans hs (by simp <;> omega)
  refine WR.nil (WN.seq ?_)
  refine WC.retA rfl rfl Tryz.underlying35 rfl sz35 (hV.rd 0 4 (by decide)) ?_
  exact ⟨rfl, hS⟩

set_option maxHeartbeats 400000 in
theorem valued {w : World} (ms : List Nat) (A : Option Addr) (n c : Nat) (hz : Lu w w.heap.size (.slice A n c) (w64s ms)) (hn : n = (w64s ms).length) (hn2 : n ≤ 1048576) (hm : ∀ i, i < ms.length → ms.getD i 0 < 18446744073709551616) :
    Ret Tryz.prog 24 #[.slice A n c, .func (.func 25) #[] #[]] w fun v w' => OwV w' w.heap.size v (ms.map vF) ∧ Same [] w w' := by
  have hS := Same.refl [] w
  obtain ⟨H, hH⟩ : ∃ x, x = w.heap.size := ⟨_, rfl⟩
  rw [← hH] at hz ⊢
  have hw0 := Nat.le_of_eq hH
  have hln := w64s_length ms
  refine Ret.enter (vs := [.slice A n c, .func (.func 25) #[] #[]]) Tryz.func24 Tryz.ntmps24 rfl rfl ?_
  refine WC.seq (WC.region ?_)
  refine WR.assign rfl rfl ?_
  refine WR.nil (WN.seq ?_)
  refine WC.seq (WC.region ?_)
  refine WR.assign rfl rfl ?_
  refine WR.nil (WN.seq ?_)
  refine WC.seq (WC.seq (WC.region ?_))
  refine WR.move rfl rfl ?_
  refine WR.lenS rfl Tryz.underlying79 rfl ?_
  refine WR.move rfl rfl ?_
  refine WR.nil (WN.seq (WC.block ?_))
  have hO : OwV w H (.slice none 0 0) ((ms.take 0).map vF) := OwV.nil _ _
  refine WC.loop (fun s : Nat × Value => [(1, .func (.func 25) #[] #[]), (5, s.2), (8, .slice A n c), (9, .int .i64 (n : Nat)), (10, .int .i64 (s.1 : Nat))]) (fun k s w' => s.1 + k = n ∧ H ≤ w'.heap.size ∧ Same [] w w' ∧ Lu w' H (.slice A n c) (w64s ms) ∧ OwV w' H s.2 ((ms.take s.1).map vF)) n (0, .slice none 0 0) ⟨rfl, rfl, rfl, rfl, rfl, trivial⟩ ⟨by simp, hw0, hS, hz, hO⟩ ?_
  clear hS hw0 hz hO
  rintro k ⟨i, u⟩ w1 ⟨hk, hw0, hS, hz, hO⟩
  simp only at hk hO
  rcases (show i < n ∨ i = n by omega) with hi | rfl
  · skip
    obtain ⟨gz, oz, ez, hez, hgz, hlz2, hrz⟩ := hz.lit (by omega)
    simp only [Value.slice.injEq] at hez
    obtain ⟨rfl, -, rfl⟩ := hez
    have hmi := hm i (by omega)
    have htk : ((ms.take i).map vF).length = i := by simp; omega
    refine WC.seq (WC.region ?_)
    refine WR.bin rfl rfl rfl rfl ?_
    refine WR.nil (WN.seq (WC.seq ?_))
    refine WC.cond rfl (fun h316 => ?_) (fun h316 => ?_)
    · skip
      simp only [decide_eq_true_eq] at h316
      refine WC.skip (WN.seq ?_)
      refine WC.seq (WC.block ?_)
      refine WC.seq (WC.region ?_)
      refine WR.idx rfl rfl Tryz.underlying79 sz2 (by omega) (by omega) rfl ?_
      refine WR.load rfl Tryz.underlying2 rfl (show _ = some (Value.int .i64 (IntKind.i64.wrap ((ms.getD i 0 : Nat) : Int))) by rw [Nat.mul_one]; exact (hrz i (by omega)).trans (congrArg some (w64s_getD (by omega)))) rfl ?_
      refine WR.assign rfl rfl ?_
      refine WR.nil (WN.seq (WC.region ?_))
      refine WR.move rfl rfl ?_
      refine WR.move rfl rfl ?_
      refine WR.move rfl rfl ?_
      refine WR.callV rfl rfl rfl cf25 rfl rfl (valueI (ms.getD i 0) hmi) ?_
      rintro _ w2 ⟨rfl, hs⟩
      replace hw0 := Nat.le_trans hw0 hs.size
      replace hS := hS.trans hs (by simp <;> omega)
      replace hz := hz.same hs (by simp <;> omega)
      replace hO := hO.same hs (by first | (simp <;> omega) | (intro hm; have := hS9 _ hm; omega) | (intro g hm; have := hS9 _ hm; omega) | (intro g hm; have := hS9 _ hm; exact .inr (by omega)))
      obtain ⟨nb, hnb⟩ : ∃ x, x = w2.heap.size := ⟨_, rfl⟩
      refine WR.buildSl (E := 35) (cs := #[.bool false, .int .u64 (ms.getD i 0 : Nat), .string ⟨#[]⟩, .slice none 0 0]) rfl rfl (fun w => by kernel_rfl) rfl rfl ?_
      rw [← hnb]
      intro w3 hM hs
      replace hw0 := Nat.le_trans hw0 hs.size
      replace hS := hS.trans hs (by simp <;> omega)
      replace hz := hz.same hs (by simp <;> omega)
      replace hO := hO.same hs (by first | (simp <;> omega) | (intro hm; have := hS9 _ hm; omega) | (intro g hm; have := hS9 _ hm; omega) | (intro g hm; have := hS9 _ hm; exact .inr (by omega)))
      clear hs
      have hML := hM.lt
      refine WR.appendV (f := vF (ms.getD i 0)) rfl hO rfl ((hM.rd 0 4 (Nat.le_refl 4)).congr (fun j hj => by rcases (show j = 0 ∨ j = 1 ∨ j = 2 ∨ j = 3 by omega) with rfl | rfl | rfl | rfl <;> rfl)) (fun j hj => vF_one _ hj) Tryz.underlying22 mkV rfl (by decide) (by omega) (by omega) rfl rfl ?_
      intro u2 w4 S9 hn hs hS9
      replace hO := hn
      replace hw0 := Nat.le_trans hw0 hs.size
      replace hS := hS.trans hs (by first | (simp <;> omega) | (intro hm; have := hS9 _ hm; omega) | (intro g hm; have := hS9 _ hm; omega) | (intro g hm; have := hS9 _ hm; exact .inr (by omega)))
      replace hz := hz.same hs (by first | (simp <;> omega) | (intro hm; have := hS9 _ hm; omega) | (intro g hm; have := hS9 _ hm; omega) | (intro g hm; have := hS9 _ hm; exact .inr (by omega)))
      clear hn hs hS9
      refine WR.assign rfl rfl ?_
      refine WR.nil (WN.block ?_)
      refine WN.seq (WC.region ?_)
      (refine WR.bin rfl rfl (ar_add (wrap_i64 ?_ ?_)) rfl ?_; (omega); (omega))
      refine WR.move rfl rfl ?_
      refine WR.nil ?_
      exact WN.loop (k - 1) (i + 1, u2) (by omega) ⟨rfl, rfl, rfl, rfl, kint rfl (by omega), trivial⟩ ⟨show i + 1 + (k - 1) = n by omega, hw0, hS, hz, by rw [take_snoc (by omega), List.map_append]; exact hO⟩
    · skip
      simp only [decide_eq_false_iff_not, Int.not_lt] at h316
      omega
  · skip
    rw [List.take_of_length_le (by omega)] at hO
    refine WC.seq (WC.region ?_)
    refine WR.bin rfl rfl rfl rfl ?_
    refine WR.nil (WN.seq (WC.seq ?_))
    refine WC.cond rfl (fun h316 => ?_) (fun h316 => ?_)
    · skip
      simp only [decide_eq_true_eq] at h316
      omega
    · skip
      simp only [decide_eq_false_iff_not, Int.not_lt] at h316
      refine WC.exit rfl ?_
      refine WN.seq (WC.seq (WC.region ?_))
      refine WR.move rfl rfl ?_
      refine WR.assign rfl rfl ?_
      refine WR.nil (WN.seq ?_)
      refine WC.retR rfl rfl ?_
      exact ⟨hO, hS⟩

set_option maxHeartbeats 800000 in
theorem decoded {w : World} {aE aU aP : Addr} (hg : Glob w aE aU aP) (bD : Nat) (F : Nat → Value) (nv bR b db dO len cap W : Nat) (d : Nat → Nat) (rest : List Nat) (bC bP q D dv : Nat) (e : Nat → Nat) (m cz lz : Nat) (zs : List Int) (Az : Option Addr) (hDD : DD w bD F nv bR b db dO len cap W d rest bC bP q D dv e) (hz : Lu w lz (.slice Az m cz) (i64s zs)) (hm0 : m = (i64s zs).length) (hm50 : m ≤ 1048576) (hnr : nv ≤ rest.length) (hfit : tpos (fun i => zs.getD i 0) m ≤ nv) (hnv2 : nv ≤ 1048576) (hlt : ∀ j, j < nv → rest.getD j 0 < D) (hlz : lz ≤ bP) (hDm : D ≤ 1048576) (hW1 : 1 ≤ W) (hW2 : W ≤ 20) (h1 : 6 ≤ bP) (h2 : bP < dv) (h3 : dv < bD) (h4 : bD < bC) (h5 : bC < db) (h6 : db < b) (h7 : b < bR) (h9 : q = bC ∨ bR < q) :
    Ret Tryz.prog 21 #[.slice Az m cz, .func (.func 22) #[.pointer (some ⟨bD, 0, none⟩)] #[], .func (.func 23) #[.pointer (some ⟨bD, 0, none⟩)] #[]] w fun v w' => ∃ u, v = .tuple #[u, .bool true] ∧ Own w' w.heap.size 2 u (xv e (tout (fun j => rest.getD j 0) (fun i => zs.getD i 0) m)) ∧ Same [bR, b, bD, bC, bP, q] w w' := by
  have hS := Same.refl [bR, b, bD, bC, bP, q] w
  obtain ⟨H1, hH1⟩ : ∃ x, x = w.heap.size := ⟨_, rfl⟩
  obtain ⟨z, hzd⟩ : ∃ z : Nat → Int, z = fun i => zs.getD i 0 := ⟨_, rfl⟩
  rw [← hzd] at hfit ⊢
  obtain ⟨V, hV⟩ : ∃ V : Nat → Nat, V = fun j => rest.getD j 0 := ⟨_, rfl⟩
  rw [← hV, ← hH1]
  obtain ⟨hRl, hql⟩ := hDD.lt
  have hs1 := Nat.le_of_eq hH1
  refine Ret.enter (vs := [.slice Az m cz, .func (.func 22) #[.pointer (some ⟨bD, 0, none⟩)] #[], .func (.func 23) #[.pointer (some ⟨bD, 0, none⟩)] #[]]) Tryz.func21 Tryz.ntmps21 rfl rfl ?_
  refine WC.seq (WC.region ?_)
  refine WR.assign rfl rfl ?_
  refine WR.assign rfl rfl ?_
  refine WR.nil (WN.seq ?_)
  refine WC.seq (WC.seq (WC.region ?_))
  refine WR.move rfl rfl ?_
  refine WR.lenS rfl Tryz.underlying24 rfl ?_
  refine WR.move rfl rfl ?_
  refine WR.nil (WN.seq (WC.block ?_))
  have hO : Own w H1 2 (.slice none 0 0) (xv e (tout V z 0)) := Own.nil _ _ _
  refine WC.loop (fun s : Nat × Value => [(1, .func (.func 22) #[.pointer (some ⟨bD, 0, none⟩)] #[]), (2, .func (.func 23) #[.pointer (some ⟨bD, 0, none⟩)] #[]), (6, s.2), (15, .slice Az m cz), (16, .int .i64 (m : Nat)), (17, .int .i64 (s.1 : Nat))]) (fun k s w' => s.1 + k = m ∧ H1 ≤ w'.heap.size ∧ Same [bR, b, bD, bC, bP, q] w w' ∧ Glob w' aE aU aP ∧ Lu w' lz (.slice Az m cz) (i64s zs) ∧ Own w' H1 2 s.2 (xv e (tout V z s.1)) ∧ ∃ q1, DD w' bD F (nv - tpos z s.1) bR b db dO len cap W d (rest.drop (tpos z s.1)) bC bP q1 D dv e ∧ (q1 = q ∨ H1 ≤ q1) ∧ ∀ g, s.2.ownBlock = some g → H1 ≤ g ∧ g ≠ q1) m (0, .slice none 0 0) ⟨rfl, rfl, rfl, rfl, rfl, rfl, trivial⟩ ⟨by simp, hs1, hS, hg, hz, hO, q, hDD, .inl rfl, fun g hg => by cases hg⟩ ?_
  clear hS hg hz hO hDD hs1 hql
  rintro k ⟨i, u⟩ w1 ⟨hm, hs1, hS, hg, hz, hO, q1, hDD, hq1, hu⟩
  simp only at hm hO hDD hu
  obtain ⟨p, hp⟩ : ∃ p, p = tpos z i := ⟨_, rfl⟩
  have hout := tout_length V z i
  have hto : (xv e (tout V z i)).length = (tout V z i).length := xv_length _ _
  rw [← hp] at hout hDD
  obtain ⟨zi, hzi0⟩ : ∃ zi, zi = z i := ⟨_, rfl⟩
  have htp : tpos z (i + 1) = p + zi.natAbs := by simp only [tpos]; rw [← hp, ← hzi0]
  have hzi1 : zi = zs.getD i 0 := by rw [hzi0, hzd]
  obtain ⟨-, hql⟩ := hDD.lt
  have hul := fun (g : Nat) (h : u.ownBlock = some g) => (World.ownsRow.lt hO g h).2
  rcases (show i < m ∧ zi < 0 ∨ i < m ∧ 0 ≤ zi ∨ m ≤ i by omega) with ⟨hi, hzc⟩ | ⟨hi, hzc⟩ | hi
  · skip
    obtain ⟨gz, oz, ez, hez, hgz, hlz2, hrz⟩ := hz.lit (by omega)
    simp only [Value.slice.injEq] at hez
    obtain ⟨rfl, -, rfl⟩ := hez
    have hmono := tpos_mono z (show i + 1 ≤ m by omega)
    obtain ⟨n, rfl⟩ : ∃ n : Nat, zi = -(n : Int) := ⟨zi.natAbs, by omega⟩
    rw [show (-(n : Int)).natAbs = n by omega] at htp
    have hdl : (rest.drop p).length = rest.length - p := List.length_drop
    refine WC.seq (WC.region ?_)
    refine WR.bin rfl rfl rfl rfl ?_
    refine WR.nil (WN.seq (WC.seq ?_))
    refine WC.cond rfl (fun h332 => ?_) (fun h332 => ?_)
    · skip
      simp only [decide_eq_true_eq] at h332
      refine WC.skip (WN.seq ?_)
      refine WC.seq (WC.block ?_)
      refine WC.seq (WC.region ?_)
      refine WR.idx rfl rfl Tryz.underlying24 sz3 (by omega) (by omega) rfl ?_
      refine WR.load rfl Tryz.underlying3 rfl (show _ = some (Value.int .i64 _) by rw [Nat.mul_one]; exact (hrz i (by omega)).trans (congrArg some ((i64s_getD (by rw [i64s_length] at hm0; omega)).trans (by rw [← hzi1])))) rfl ?_
      refine WR.assign rfl rfl ?_
      refine WR.nil (WN.seq ?_)
      refine WC.seq (WC.seq (WC.region ?_))
      refine WR.move rfl rfl ?_
      refine WR.bin rfl rfl rfl rfl ?_
      refine WR.nil (WN.seq ?_)
      refine WC.cond rfl (fun h333 => ?_) (fun h333 => ?_)
      · skip
        simp only [decide_eq_true_eq] at h333
        refine WC.seq (WC.region ?_)
        refine WR.move rfl rfl ?_
        refine WR.move rfl rfl ?_
        refine WR.negOp rfl (z := ((n : Nat) : Int)) (by rw [wrap_i64 (by omega) (by omega)]; omega) rfl ?_
        refine WR.callB (fs := [.pointer (some ⟨bD, 0, none⟩)]) rfl rfl rfl cf23 rfl rfl (discardT hg bD F (nv - p) bR b db dO len cap W d (rest.drop p) bC bP q1 D dv e n hDD (by omega) (by omega) (by omega) (by omega) hDm hW1 hW2 h1 h2 h3 h4 h5 h6 h7 (by omega)) ?_
        rintro _ w2 ⟨rfl, hDD', hs⟩
        replace hDD := hDD'
        clear hDD'
        rw [Nat.sub_sub, List.drop_drop] at hDD
        replace hs1 := Nat.le_trans hs1 hs.size
        replace hS := hS.trans hs (by simp <;> omega)
        replace hg := hg.same hs (by simp <;> omega)
        replace hz := hz.same hs (by simp <;> omega)
        replace hO := hO.keep hs (by first | (intro g hm; simp; done) | (intro g hm; have := hu g hm; have := hul g hm; simp <;> omega))
        refine WR.move rfl rfl ?_
        refine WR.extract rfl rfl rfl ?_
        refine WR.extract rfl rfl rfl ?_
        refine WR.assign rfl rfl ?_
        refine WR.assign rfl rfl ?_
        refine WR.nil (WN.seq ?_)
        refine WC.seq (WC.seq (WC.region ?_))
        refine WR.move rfl rfl ?_
        refine WR.neqNil rfl rfl Tryz.underlying54 rfl ?_
        refine WR.nil (WN.seq ?_)
        refine WC.cond rfl (fun h335 => ?_) (fun h335 => ?_)
        · skip
          exact absurd h335 (by simp)
        · skip
          simp only at h335
          refine WC.skip (WN.seq ?_)
          refine WC.seq (WC.seq (WC.region ?_))
          refine WR.move rfl rfl ?_
          refine WR.move rfl rfl ?_
          refine WR.negOp rfl (z := ((n : Nat) : Int)) (by rw [wrap_i64 (by omega) (by omega)]; omega) rfl ?_
          refine WR.bin rfl rfl rfl rfl ?_
          refine WR.nil (WN.seq ?_)
          refine WC.cond rfl (fun h338 => ?_) (fun h338 => ?_)
          · skip
            exact absurd h338 (by simp)
          · skip
            simp only [bne_eq_false_iff_eq] at h338
            refine WC.skip (WN.seq ?_)
            refine WC.exit rfl ?_
            refine WN.seq (WC.region ?_)
            (refine WR.bin rfl rfl (ar_add (wrap_i64 ?_ ?_)) rfl ?_; (omega); (omega))
            refine WR.move rfl rfl ?_
            refine WR.nil ?_
            exact WN.loop (k - 1) (i + 1, u) (by omega) ⟨rfl, rfl, rfl, rfl, rfl, kint rfl (by omega), trivial⟩ ⟨show i + 1 + (k - 1) = m by omega, hs1, hS, hg, hz, by rw [tout_nonpos (by rw [← hzi0]; omega)]; exact hO, q1, by rw [htp]; exact hDD, hq1, hu⟩
      · skip
        simp only [decide_eq_false_iff_not, Int.not_lt] at h333
        omega
    · skip
      simp only [decide_eq_false_iff_not, Int.not_lt] at h332
      omega
  · skip
    obtain ⟨gz, oz, ez, hez, hgz, hlz2, hrz⟩ := hz.lit (by omega)
    simp only [Value.slice.injEq] at hez
    obtain ⟨rfl, -, rfl⟩ := hez
    have hmono := tpos_mono z (show i + 1 ≤ m by omega)
    have hs10 := hs1
    obtain ⟨n, rfl⟩ := Int.eq_ofNat_of_zero_le hzc
    rw [show ((n : Nat) : Int).natAbs = n by omega] at htp
    have hdl : (rest.drop p).length = rest.length - p := List.length_drop
    have hgd : ∀ j, (rest.drop p).getD j 0 = V (p + j) := fun j => by rw [hV]; simp
    refine WC.seq (WC.region ?_)
    refine WR.bin rfl rfl rfl rfl ?_
    refine WR.nil (WN.seq (WC.seq ?_))
    refine WC.cond rfl (fun h332 => ?_) (fun h332 => ?_)
    · skip
      simp only [decide_eq_true_eq] at h332
      refine WC.skip (WN.seq ?_)
      refine WC.seq (WC.block ?_)
      refine WC.seq (WC.region ?_)
      refine WR.idx rfl rfl Tryz.underlying24 sz3 (by omega) (by omega) rfl ?_
      refine WR.load rfl Tryz.underlying3 rfl (show _ = some (Value.int .i64 _) by rw [Nat.mul_one]; exact (hrz i (by omega)).trans (congrArg some ((i64s_getD (by rw [i64s_length] at hm0; omega)).trans (by rw [← hzi1])))) rfl ?_
      refine WR.assign rfl rfl ?_
      refine WR.nil (WN.seq ?_)
      refine WC.seq (WC.seq (WC.region ?_))
      refine WR.move rfl rfl ?_
      refine WR.bin rfl rfl rfl rfl ?_
      refine WR.nil (WN.seq ?_)
      refine WC.cond rfl (fun h333 => ?_) (fun h333 => ?_)
      · skip
        simp only [decide_eq_true_eq] at h333
        omega
      · skip
        simp only [decide_eq_false_iff_not, Int.not_lt] at h333
        refine WC.skip (WN.seq ?_)
        refine WC.seq (WC.region ?_)
        refine WR.move rfl rfl ?_
        obtain ⟨nT, hnT⟩ : ∃ x, x = w1.heap.size := ⟨_, rfl⟩
        refine WR.make (n := n) rfl rfl Tryz.underlying79 mk2 rfl (by decide) (by omega) rfl rfl ?_
        rw [← hnT]
        intro w2 hM hs
        replace hs1 := Nat.le_trans hs1 hs.size
        replace hS := hS.trans hs (by simp <;> omega)
        replace hg := hg.same hs (by simp <;> omega)
        replace hz := hz.same hs (by simp <;> omega)
        replace hDD := hDD.same hs (by first | (simp <;> omega) | (intro hm; have := hS9 _ hm; omega) | (intro g hm; have := hS9 _ hm; omega) | (intro g hm; have := hS9 _ hm; exact .inr (by omega))) (by first | (simp <;> omega) | (intro hm; have := hS9 _ hm; omega) | (intro g hm; have := hS9 _ hm; omega) | (intro g hm; have := hS9 _ hm; exact .inr (by omega))) (by first | (simp <;> omega) | (intro hm; have := hS9 _ hm; omega) | (intro g hm; have := hS9 _ hm; omega) | (intro g hm; have := hS9 _ hm; exact .inr (by omega))) (by first | (simp <;> omega) | (intro hm; have := hS9 _ hm; omega) | (intro g hm; have := hS9 _ hm; omega) | (intro g hm; have := hS9 _ hm; exact .inr (by omega))) (by first | (simp <;> omega) | (intro hm; have := hS9 _ hm; omega) | (intro g hm; have := hS9 _ hm; omega) | (intro g hm; have := hS9 _ hm; exact .inr (by omega))) (by first | (simp <;> omega) | (intro hm; have := hS9 _ hm; omega) | (intro g hm; have := hS9 _ hm; omega) | (intro g hm; have := hS9 _ hm; exact .inr (by omega))) (by first | (simp <;> omega) | (intro hm; have := hS9 _ hm; omega) | (intro g hm; have := hS9 _ hm; omega) | (intro g hm; have := hS9 _ hm; exact .inr (by omega))) (by first | (simp <;> omega) | (intro hm; have := hS9 _ hm; omega) | (intro g hm; have := hS9 _ hm; omega) | (intro g hm; have := hS9 _ hm; exact .inr (by omega)))
        replace hO := hO.keep hs (by first | (intro g hm; simp; done) | (intro g hm; have := hu g hm; have := hul g hm; simp <;> omega))
        clear hs
        refine WR.assign rfl rfl ?_
        refine WR.nil (WN.seq ?_)
        refine WC.seq (WC.region ?_)
        refine WR.move rfl rfl ?_
        refine WR.move rfl rfl ?_
        have hMl := hM.lt
        refine WR.callB (fs := [.pointer (some ⟨bD, 0, none⟩)]) rfl rfl rfl cf22 rfl rfl (decodeT hg bD F (nv - p) bR b db dO len cap W d (rest.drop p) bC bP q1 D dv e nT 0 n n _ n _ hDD hM (by omega) (by omega) (by omega) (by omega) (by omega) (by omega) (fun j hj => by rw [hgd, hV]; exact hlt (p + j) (by omega)) hDm hW1 hW2 h1 h2 h3 h4 h5 h6 h7 (by omega) (by omega) (by omega)) ?_
        rintro _ w3 ⟨rfl, ⟨q2, hDD', hq2⟩, ⟨F2, hM', hput⟩, hs⟩
        replace hDD := hDD'
        replace hM := hM'
        clear hDD' hM'
        rw [Nat.sub_sub, List.drop_drop] at hDD
        replace hs1 := Nat.le_trans hs1 hs.size
        replace hS := hS.trans hs (by simp <;> omega)
        replace hg := hg.same hs (by simp <;> omega)
        replace hz := hz.same hs (by simp <;> omega)
        replace hO := hO.keep hs (by first | (intro g hm; simp; done) | (intro g hm; have := hu g hm; have := hul g hm; simp <;> omega))
        refine WR.move rfl rfl ?_
        refine WR.extract rfl rfl rfl ?_
        refine WR.extract rfl rfl rfl ?_
        refine WR.assign rfl rfl ?_
        refine WR.assign rfl rfl ?_
        refine WR.nil (WN.seq ?_)
        refine WC.seq (WC.seq (WC.region ?_))
        refine WR.move rfl rfl ?_
        refine WR.neqNil rfl rfl Tryz.underlying54 rfl ?_
        refine WR.nil (WN.seq ?_)
        refine WC.cond rfl (fun h345 => ?_) (fun h345 => ?_)
        · skip
          exact absurd h345 (by simp)
        · skip
          simp only at h345
          refine WC.skip (WN.seq ?_)
          refine WC.seq (WC.region ?_)
          refine WR.move rfl rfl ?_
          refine WR.move rfl rfl ?_
          refine WR.move rfl rfl ?_
          refine WR.slice rfl Tryz.underlying79 sz2 ⟨_, _, rfl, by omega, by omega, show n = Int.toNat _ by omega⟩ rfl rfl ?_
          simp only [sl0]
          obtain ⟨-, hql2⟩ := hDD.lt
          have hS9 : ∀ g, g ∈ u.ownBlock.toList → H1 ≤ g ∧ g ≠ q2 := fun g hm => by have h11 := hu g (by simpa using hm); have h12 := hul g (by simpa using hm); exact ⟨h11.1, by omega⟩
          have hly : (xv e ((List.range n).map fun j => V (p + j))).length = n := by rw [xv_length]; simp
          have hsz2 := hs1
          refine WR.appendF rfl hO rfl (Row.ls (base := 0) (ys := xv e ((List.range n).map fun j => V (p + j))) (o := 0) hM hly (by omega) (Nat.zero_le _) (fun j hj => (hput.1 j hj).trans (by show Value.int .i64 (i8 e ((rest.drop p).getD j 0)) = _; rw [xv_getD (by simpa using hj), hgd]; simp [show j < n from hj]))) (fun i hi => xv_one hi) Tryz.underlying79 mk2 rfl (by decide) (by rw [hly]; omega) (by omega) rfl rfl ?_
          intro u2 w4 hn hs hfr
          replace hO := hn
          replace hs1 := Nat.le_trans hs1 hs.size
          replace hS := hS.trans hs (by first | (simp <;> omega) | (intro hm; have := hS9 _ hm; omega) | (intro g hm; have := hS9 _ hm; omega) | (intro g hm; have := hS9 _ hm; exact .inr (by omega)))
          replace hg := hg.same hs (by first | (simp <;> omega) | (intro hm; have := hS9 _ hm; omega) | (intro g hm; have := hS9 _ hm; omega) | (intro g hm; have := hS9 _ hm; exact .inr (by omega)))
          replace hz := hz.same hs (by first | (simp <;> omega) | (intro hm; have := hS9 _ hm; omega) | (intro g hm; have := hS9 _ hm; omega) | (intro g hm; have := hS9 _ hm; exact .inr (by omega)))
          replace hDD := hDD.same hs (by first | (simp <;> omega) | (intro hm; have := hS9 _ hm; omega) | (intro g hm; have := hS9 _ hm; omega) | (intro g hm; have := hS9 _ hm; exact .inr (by omega))) (by first | (simp <;> omega) | (intro hm; have := hS9 _ hm; omega) | (intro g hm; have := hS9 _ hm; omega) | (intro g hm; have := hS9 _ hm; exact .inr (by omega))) (by first | (simp <;> omega) | (intro hm; have := hS9 _ hm; omega) | (intro g hm; have := hS9 _ hm; omega) | (intro g hm; have := hS9 _ hm; exact .inr (by omega))) (by first | (simp <;> omega) | (intro hm; have := hS9 _ hm; omega) | (intro g hm; have := hS9 _ hm; omega) | (intro g hm; have := hS9 _ hm; exact .inr (by omega))) (by first | (simp <;> omega) | (intro hm; have := hS9 _ hm; omega) | (intro g hm; have := hS9 _ hm; omega) | (intro g hm; have := hS9 _ hm; exact .inr (by omega))) (by first | (simp <;> omega) | (intro hm; have := hS9 _ hm; omega) | (intro g hm; have := hS9 _ hm; omega) | (intro g hm; have := hS9 _ hm; exact .inr (by omega))) (by first | (simp <;> omega) | (intro hm; have := hS9 _ hm; omega) | (intro g hm; have := hS9 _ hm; omega) | (intro g hm; have := hS9 _ hm; exact .inr (by omega))) (by first | (simp <;> omega) | (intro hm; have := hS9 _ hm; omega) | (intro g hm; have := hS9 _ hm; omega) | (intro g hm; have := hS9 _ hm; exact .inr (by omega)))
          have hu2 : ∀ g, u2.ownBlock = some g → H1 ≤ g ∧ g ≠ q2 := fun g h => by
            rcases hfr g h with h | h
            · exact hS9 g (by simpa using h)
            · exact ⟨by omega, by omega⟩
          clear hn hs
          refine WR.assign rfl rfl ?_
          refine WR.nil (WN.seq ?_)
          refine WC.seq (WC.region ?_)
          refine WR.move rfl rfl ?_
          refine WR.move rfl rfl ?_
          refine WR.bin rfl rfl rfl rfl ?_
          refine WR.nil (WN.seq ?_)
          refine WC.cond rfl (fun h349 => ?_) (fun h349 => ?_)
          · skip
            exact absurd h349 (by simp)
          · skip
            simp only [bne_eq_false_iff_eq] at h349
            refine WC.skip (WN.block ?_)
            refine WN.seq (WC.region ?_)
            (refine WR.bin rfl rfl (ar_add (wrap_i64 ?_ ?_)) rfl ?_; (omega); (omega))
            refine WR.move rfl rfl ?_
            refine WR.nil ?_
            exact WN.loop (k - 1) (i + 1, u2) (by omega) ⟨rfl, rfl, rfl, rfl, rfl, kint rfl (by omega), trivial⟩ ⟨show i + 1 + (k - 1) = m by omega, hs1, hS, hg, hz, by rw [tout_step (n := n) (by rw [← hzi0]), ← hp, xv_append]; exact hO, q2, by rw [htp]; exact hDD, by omega, hu2⟩
    · skip
      simp only [decide_eq_false_iff_not, Int.not_lt] at h332
      omega
  · skip
    obtain rfl : i = m := by omega
    refine WC.seq (WC.region ?_)
    refine WR.bin rfl rfl rfl rfl ?_
    refine WR.nil (WN.seq (WC.seq ?_))
    refine WC.cond rfl (fun h332 => ?_) (fun h332 => ?_)
    · skip
      simp only [decide_eq_true_eq] at h332
      omega
    · skip
      simp only [decide_eq_false_iff_not, Int.not_lt] at h332
      refine WC.exit rfl ?_
      refine WN.seq (WC.seq (WC.region ?_))
      refine WR.move rfl rfl ?_
      refine WR.assign rfl rfl ?_
      refine WR.assign rfl rfl ?_
      refine WR.nil (WN.seq ?_)
      refine WC.retR rfl rfl ?_
      exact ⟨u, rfl, hO, hS⟩

end Go.Proofs.YthmknddfkmklfaaGreatDoor.Vm
