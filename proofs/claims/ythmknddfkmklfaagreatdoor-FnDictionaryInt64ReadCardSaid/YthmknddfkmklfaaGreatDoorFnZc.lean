/- The dictionary's decoder: made, set, read. -/
import Derived.Test.YthmknddfkmklfaaGreatDoorFnZb
namespace Go.Proofs.YthmknddfkmklfaaGreatDoor.Vm
open Go Mix Go.RowKit Num
set_option maxRecDepth 20000
set_option linter.unusedSimpArgs false
theorem Row.own {w : World} {b E n base : Nat} {F : Nat → Value} {xs : List Value} (h : Row w b E n F) (hl : xs.length = n) (he : ∀ i, i < n → F i = xs.getD i undef) (hb : base ≤ b) (hm : n ≤ 1099511627776) : Own w base E (.slice (some ⟨b, 0, none⟩) n n) xs := by
  obtain ⟨c, hc, hn, hf⟩ := h
  subst hl
  refine ⟨by simp, .inr ⟨b, xs.length, c, rfl, hb, hc, Nat.le_refl _, by simp only [maxLen]; omega, by omega, ?_⟩⟩
  refine List.ext_getElem (by simp [hn]) fun i h1 h2 => ?_
  have h3 := hf i h2
  rw [he i h2] at h3
  simp only [List.getElem_take, Array.getElem_toList]
  rw [Array.getElem?_eq_getElem (by omega)] at h3
  simp [h2] at h3
  exact h3
theorem run_equal_none {P : Program} {T E s : Nat} (hT : P.underlying T = some (.pointer E)) (hs : (P.info? E).map (·.size) = some s) (w : World) : (Op.equal T (.pointer none) (.pointer none)).run P w = .ok true w := by
  unfold Op.equal
  rw [show Op.maxDepth = 9999 + 1 from rfl]
  unfold Op.equalIn
  simp only [Sem.run_bind, run_underlying hT, Result.andThen_ok, run_sizeOf hs]
  try simp [sameAddr]
section
variable {X : Cx} {m : Option (List Nat)} {ops : Array Oper} {rest : List Oper} {ks : List KI} {ds : List Deferred} {l : Kn} {w : World} {d ty : Nat} {pos : String} {aft : Array Edge} {v : Value}
theorem WR.eqlNone {t t' E s : TypeId} {x : Operand} (hx : ev l x = some (.pointer none)) (hT : X.P.underlying t = some (.pointer E)) (hs : (X.P.info? E).map (·.size) = some s) (hd : Nat.blt d X.n = true)
    (kk : WR X m ops rest ks ds ((d, .bool true) :: l) w) : WR X m ops (⟨some d, .binOp .eql t x (.const (.pointer none)) t', ty, pos, aft, none⟩ :: rest) ks ds l w :=
  WR.still hd (by cases m <;> rfl) (fun a ha => by
    have hcn : a.eval (.const (.pointer none)) = .pointer none := rfl
    simp only [execOp, ha.ev hx, hcn, Sem.run_bind]
    have hg : (eqGuard .eql t x (.const (.pointer none)) (.pointer none) (.pointer none)).run X.P w = .ok () w := by
      unfold eqGuard
      simp
    rw [hg]
    have he := run_equal_none hT hs w
    simp [binOp, he]) kk
end
def RB.put (rb : RB) (i : Nat) (v : Value) : RB := ⟨rb.blk, rb.off, rb.T, rb.n, upd rb.base i v⟩
theorem rbF_put (rb : RB) (g : Nat → Value) {i : Nat} (hi : i < rb.off ∨ rb.off + 3 ≤ i) (v : Value) (j : Nat) : upd (rbF rb g) i v j = rbF (rb.put i v) g j := by
  unfold upd rbF RB.put upd
  simp only
  by_cases h : j = i
  · subst h
    rw [if_pos rfl, if_neg (by omega), if_pos rfl]
  · rw [if_neg h, if_neg h]
section
variable {w w' : World} {bR T b db dO len cap pos W i : Nat} {rb : RB} {d : Nat → Nat} {rest : List Nat} {S : List Nat} {v : Value}
theorem At.put (h : At w b rb db dO len cap d pos) (hw : w' = w.setCell ⟨rb.blk, i, none⟩ v) (hi : i < rb.off ∨ rb.off + 3 ≤ i) (h1 : b ≠ rb.blk) (h2 : db ≠ rb.blk) : At w' b (rb.put i v) db dO len cap d pos := by
  have hs : Same [rb.blk] w w' := by rw [hw]; exact Same.setCell w ⟨rb.blk, i, none⟩ v
  obtain ⟨bo, bit, B, V, raw, unp, p, r, hb, hr, h⟩ := h
  have hb2 : BR w' b (rb.put i v) B bo bit V raw unp := BR.same hb hs (by simpa using h1)
  refine ⟨bo, bit, B, V, raw, unp, p, r, hb2, ⟨⟨Row.congr (Row.set' hr.rd.row hw) fun j _ => rbF_put rb _ hi v j, hr.rd.fit⟩, hr.data.same hs (by simpa using h2) hr.lt, hr.small, hr.cap_, hr.len_, Nat.lt_of_lt_of_le hr.lt hs.size, hr.ten, hr.nz⟩, h⟩
theorem At.cell (h : At w b rb db dO len cap d pos) (hi : i < rb.n) (ho : i < rb.off ∨ rb.off + 3 ≤ i) : w.cell? ⟨rb.blk, i, none⟩ = some (rb.base i) := by
  obtain ⟨bo, bit, B, V, raw, unp, p, r, hb, hr, h⟩ := h
  rw [Row.cell hr.rd.row hi]
  unfold rbF
  rw [if_neg (by omega)]
theorem At.fz (h : At w b rb db dO len cap d pos) : w.frozen? ⟨rb.blk, i, none⟩ = false := by
  obtain ⟨bo, bit, B, V, raw, unp, p, r, hb, hr, h⟩ := h
  exact Row.fz hr.rd.row _
end
def rbD (bD : Nat) (F : Nat → Value) (nv : Nat) : RB := ⟨bD, 6, 78, 12, upd F 0 (.int .i64 (nv : Nat))⟩
theorem rbD_put (bD : Nat) (F : Nat → Value) (nv x : Nat) : (rbD bD F nv).put 0 (.int .i64 (x : Nat)) = rbD bD F x := by
  unfold RB.put rbD
  simp only [RB.mk.injEq, true_and]
  funext i
  unfold upd
  split <;> rfl
section
variable {w w' : World} {bR T b db dO len cap W nv bD x : Nat} {F : Nat → Value} {d : Nat → Nat} {rest : List Nat} {S : List Nat} {v : Value}
theorem St.c0 (h : St w bR T b (rbD bD F nv) db dO len cap d W rest) : w.cell? ⟨bD, 0, none⟩ = some (.int .i64 (nv : Nat)) := by
  obtain ⟨cur, rep, lit, pos, hR, ha, hD⟩ := h
  exact ha.cell (i := 0) (show 0 < 12 by decide) (.inl (show 0 < 6 by decide))
theorem St.c4 (h : St w bR T b (rbD bD F nv) db dO len cap d W rest) (h4 : F 4 = v) : w.cell? ⟨bD, 4, none⟩ = some v := by
  obtain ⟨cur, rep, lit, pos, hR, ha, hD⟩ := h
  rw [← h4]
  exact ha.cell (i := 4) (show 4 < 12 by decide) (.inl (show 4 < 6 by decide))
theorem St.c5 (h : St w bR T b (rbD bD F nv) db dO len cap d W rest) (h5 : F 5 = v) : w.cell? ⟨bD, 5, none⟩ = some v := by
  obtain ⟨cur, rep, lit, pos, hR, ha, hD⟩ := h
  rw [← h5]
  exact ha.cell (i := 5) (show 5 < 12 by decide) (.inl (show 5 < 6 by decide))
theorem St.fz (h : St w bR T b (rbD bD F nv) db dO len cap d W rest) : w.frozen? ⟨bD, 0, none⟩ = false := by
  obtain ⟨cur, rep, lit, pos, hR, ha, hD⟩ := h
  exact ha.fz
theorem St.s0 (h : St w bR T b (rbD bD F nv) db dO len cap d W rest) (hw : w' = w.setCell ⟨bD, 0, none⟩ (.int .i64 (x : Nat))) (h1 : bR ≠ bD) (h2 : b ≠ bD) (h3 : db ≠ bD) : St w' bR T b (rbD bD F x) db dO len cap d W rest := by
  obtain ⟨cur, rep, lit, pos, hR, ha, hD⟩ := h
  have hs : Same [bD] w w' := by rw [hw]; exact Same.setCell w ⟨bD, 0, none⟩ _
  have ha2 := ha.put (i := 0) hw (.inl (show 0 < 6 by decide)) h2 h3
  rw [rbD_put] at ha2
  exact ⟨cur, rep, lit, pos, hR.same hs (by simpa using h1), ha2, hD⟩
end
theorem St.same {w w' : World} {bR T b db dO len cap W : Nat} {rb : RB} {d : Nat → Nat} {rest : List Nat} {S : List Nat} (h : St w bR T b rb db dO len cap d W rest) (hs : Same S w w') (h1 : bR ∉ S) (h2 : b ∉ S) (h3 : rb.blk ∉ S) (h4 : db ∉ S) : St w' bR T b rb db dO len cap d W rest := by
  obtain ⟨cur, rep, lit, pos, hR, ha, hD⟩ := h
  exact ⟨cur, rep, lit, pos, hR.same hs h1, ha.same hs h2 h3 h4, hD⟩
/-- a dictionary's decoder at work -/
def DD (w : World) (bD : Nat) (F : Nat → Value) (nv bR b db dO len cap W : Nat) (d : Nat → Nat) (rest : List Nat) (bC bP q D dv : Nat) (e : Nat → Nat) : Prop :=
  F 4 = .iface 99 (.pointer (some ⟨bC, 0, none⟩)) ∧ F 5 = .pointer (some ⟨bR, 0, none⟩) ∧ St w bR 126 b (rbD bD F nv) db dO len cap d W rest ∧ ∃ k, DC w bC bP q D k dv e
theorem DD.same {w w' : World} {S : List Nat} {bD : Nat} {F : Nat → Value} {nv bR b db dO len cap W : Nat} {d : Nat → Nat} {rest : List Nat} {bC bP q D dv : Nat} {e : Nat → Nat} (h : DD w bD F nv bR b db dO len cap W d rest bC bP q D dv e) (hs : Same S w w')
    (h1 : bR ∉ S) (h2 : b ∉ S) (h3 : bD ∉ S) (h4 : db ∉ S) (h5 : bC ∉ S) (h6 : bP ∉ S) (h7 : q ∉ S) (h8 : dv ∉ S) : DD w' bD F nv bR b db dO len cap W d rest bC bP q D dv e := by
  obtain ⟨hF4, hF5, hSt, k, hDC⟩ := h
  exact ⟨hF4, hF5, hSt.same hs h1 h2 h3 h4, k, hDC.same hs h5 h6 h7 h8⟩
def ddZ : Array Value := #[.int .i64 0, .slice none 0 0, .int .i64 0, .iface 66 (.agg #[]), .nilIface, .pointer none, .slice none 0 0, .int .i64 0, .int .i64 0, .slice none 0 0, .slice none 0 0, .slice none 0 0]
theorem zc_dec (w : World) : (zeroValue 57).run Tryz.prog w = .ok (.agg #[.int .i64 0, .slice none 0 0, .int .i64 0]) w := by kernel_rfl
theorem cf33 (us : Array Value) (w : World) : (callFunc 33 us).run Tryz.prog w = .ok (.enter 33 us) w := by kernel_rfl
theorem cf34 (us : Array Value) (w : World) : (callFunc 34 us).run Tryz.prog w = .ok (.enter 34 us) w := by kernel_rfl
theorem cf36 (us : Array Value) (w : World) : (callFunc 36 us).run Tryz.prog w = .ok (.enter 36 us) w := by kernel_rfl
theorem cf37 (us : Array Value) (w : World) : (callFunc 37 us).run Tryz.prog w = .ok (.enter 37 us) w := by kernel_rfl
theorem cf45 (us : Array Value) (w : World) : (callFunc 45 us).run Tryz.prog w = .ok (.enter 45 us) w := by kernel_rfl
theorem cf46 (us : Array Value) (w : World) : (callFunc 46 us).run Tryz.prog w = .ok (.enter 46 us) w := by kernel_rfl
theorem cf48 (us : Array Value) (w : World) : (callFunc 48 us).run Tryz.prog w = .ok (.enter 48 us) w := by kernel_rfl
theorem cf49 (us : Array Value) (w : World) : (callFunc 49 us).run Tryz.prog w = .ok (.enter 49 us) w := by kernel_rfl
theorem cf53 (us : Array Value) (w : World) : (callFunc 53 us).run Tryz.prog w = .ok (.enter 53 us) w := by kernel_rfl
theorem fa76_0 (b o : Nat) (w : World) : (Instr.fieldAt 76 (.pointer (some ⟨b, o, none⟩)) 0).run Tryz.prog w = .ok (.pointer (some ⟨b, o + 0, none⟩)) w := by kernel_rfl
theorem fa76_2 (b o : Nat) (w : World) : (Instr.fieldAt 76 (.pointer (some ⟨b, o, none⟩)) 2).run Tryz.prog w = .ok (.pointer (some ⟨b, o + 4, none⟩)) w := by kernel_rfl
theorem fa76_3 (b o : Nat) (w : World) : (Instr.fieldAt 76 (.pointer (some ⟨b, o, none⟩)) 3).run Tryz.prog w = .ok (.pointer (some ⟨b, o + 5, none⟩)) w := by kernel_rfl
theorem fa76_4 (b o : Nat) (w : World) : (Instr.fieldAt 76 (.pointer (some ⟨b, o, none⟩)) 4).run Tryz.prog w = .ok (.pointer (some ⟨b, o + 6, none⟩)) w := by kernel_rfl
theorem fa78_0 (b o : Nat) (w : World) : (Instr.fieldAt 78 (.pointer (some ⟨b, o, none⟩)) 0).run Tryz.prog w = .ok (.pointer (some ⟨b, o + 0, none⟩)) w := by kernel_rfl
theorem sz126 : (Tryz.prog.info? 126).map (·.size) = some 5 := by kernel_rfl
theorem sz57 : (Tryz.prog.info? 57).map (·.size) = some 3 := by kernel_rfl
theorem sz70 : (Tryz.prog.info? 70).map (·.size) = some 1 := by kernel_rfl
theorem sz71 : (Tryz.prog.info? 71).map (·.size) = some 1 := by kernel_rfl
theorem sz73 : (Tryz.prog.info? 73).map (·.size) = some 3 := by kernel_rfl
set_option maxHeartbeats 200000 in
theorem newBase (w : World) :
    Ret Tryz.prog 33 #[] w fun v w' => v = .agg #[.int .i64 0, .slice none 0 0, .int .i64 0] ∧ Same [] w w' := by
  have hS := Same.refl [] w
  obtain ⟨bV, hbV⟩ : ∃ x, x = w.heap.size := ⟨_, rfl⟩
  refine Ret.enter (vs := []) Tryz.func33 Tryz.ntmps33 rfl rfl ?_
  refine WC.seq (WC.region ?_)
  refine WR.alloc zc_dec rfl rfl ?_
  intro w1 hn hs
  have hV : Row w1 bV 57 3 (fun i => (#[.int .i64 0, .slice none 0 0, .int .i64 0] : Array Value).getD i undef) := by
    rw [hn, hbV]
    exact Row.alloc _ _ _
  rw [← hbV]
  replace hS := hS.trans hs (by simp <;> omega)
  clear hn hs
  refine WR.nil (WN.seq ?_)
  refine WC.seq (WC.region ?_)
  refine WR.build rfl rfl (v := .agg #[.int .i64 0, .slice none 0 0, .int .i64 0]) (fun w => by kernel_rfl) rfl rfl ?_
  refine WR.storeAgg (n := 3) rfl rfl sz57 rfl (by decide) hV (by decide) ?_
  intro w8 hn hs
  replace hV := hn
  replace hS := hS.trans hs (by simp <;> omega)
  refine WR.nil (WN.seq ?_)
  refine WC.retA rfl rfl Tryz.underlying57 rfl sz57 (hV.rd 0 3 (by decide)) ?_
  exact ⟨rfl, hS⟩

set_option maxHeartbeats 200000 in
theorem newPlain (w : World) :
    Ret Tryz.prog 16 #[] w fun v w' => ∃ bP, v = .pointer (some ⟨bP, 0, none⟩) ∧ w.heap.size ≤ bP ∧ PDr w' bP 0 (.slice none 0 0) ∧ Same [] w w' := by
  have hS := Same.refl [] w
  refine Ret.enter (vs := []) Tryz.func16 Tryz.ntmps16 rfl rfl ?_
  refine WC.seq (WC.region ?_)
  refine WR.assign rfl rfl ?_
  refine WR.nil (WN.seq ?_)
  refine WC.seq (WC.region ?_)
  refine WR.callF rfl rfl cf33 rfl rfl (newBase _) ?_
  rintro _ w1 ⟨rfl, hs⟩
  have hsz := hs.size
  replace hS := hS.trans hs (by simp <;> omega)
  refine WR.build rfl rfl (v := .agg #[.int .i64 0, .slice none 0 0, .int .i64 0, .nilIface]) (fun w => by kernel_rfl) rfl rfl ?_
  refine WR.box rfl rfl rfl ?_
  intro w2 hn hs
  replace hS := hS.trans hs (by simp <;> omega)
  have hp : PDr w2 w1.heap.size 0 (.slice none 0 0) := by
    rw [hn]
    exact (Row.alloc w1 #[.int .i64 0, .slice none 0 0, .int .i64 0, .nilIface] 61).congr fun i hi => by
      rcases pd4 hi with rfl | rfl | rfl | rfl <;> rfl
  clear hn hs
  refine WR.assign rfl rfl ?_
  refine WR.nil (WN.seq ?_)
  refine WC.retR rfl rfl ?_
  exact ⟨_, rfl, hsz, hp, hS⟩

set_option maxHeartbeats 200000 in
theorem setPlain {w : World} (bP n : Nat) (s : Value) (hp : PDr w bP 0 (.slice none 0 0)) (h1 : s.oneCell' = true) :
    Ret Tryz.prog 17 #[.pointer (some ⟨bP, 0, none⟩), .int .i64 (n : Nat), s] w fun v w' => v = .nilIface ∧ PDr w' bP n s ∧ Same [bP] w w' := by
  have hS := Same.refl [bP] w
  refine Ret.enter (vs := [.pointer (some ⟨bP, 0, none⟩), .int .i64 (n : Nat), s]) Tryz.func17 Tryz.ntmps17 rfl rfl ?_
  refine WC.seq (WC.region ?_)
  refine WR.assign rfl rfl ?_
  refine WR.nil (WN.seq ?_)
  refine WC.seq (WC.region ?_)
  refine WR.move rfl rfl ?_
  refine WR.move rfl rfl ?_
  refine WR.nilCheckP rfl rfl ?_
  refine WR.field rfl fa57_1 rfl ?_
  refine WR.storeK rfl rfl h1 sz28 hp.c1 (hp.fz 1) ?_
  intro w1 hn hs
  replace hp := hp.s1 hn
  replace hS := hS.trans hs (by simp <;> omega)
  clear hn hs
  refine WR.nil (WN.seq ?_)
  refine WC.seq (WC.region ?_)
  refine WR.move rfl rfl ?_
  refine WR.move rfl rfl ?_
  refine WR.nilCheckP rfl rfl ?_
  refine WR.field rfl fa57_0 rfl ?_
  refine WR.storeK rfl rfl rfl sz3 hp.c0 (hp.fz 0) ?_
  intro w2 hn hs
  replace hp := hp.s0 hn
  replace hS := hS.trans hs (by simp <;> omega)
  clear hn hs
  refine WR.nil (WN.seq ?_)
  refine WC.seq (WC.region ?_)
  refine WR.assign rfl rfl ?_
  refine WR.nil (WN.seq ?_)
  refine WC.retR rfl rfl ?_
  exact ⟨rfl, hp, hS⟩

set_option maxHeartbeats 200000 in
theorem newRle {w : World} (rb : RB) (db dO len cap W : Nat) (p r : Int) (d : Nat → Nat) (hr : Src w rb db dO len cap p r d) :
    Ret Tryz.prog 46 #[.pointer (some ⟨rb, rb.off, none⟩), .int .i64 (W : Nat)] w fun v w' => ∃ bR b, v = .pointer (some ⟨bR, 0, none⟩) ∧ w.heap.size ≤ b ∧ b < bR ∧ RL w' bR 126 b (W : Nat) (0 : Nat) (0 : Nat) (0 : Nat) ∧ At w' b rb db dO len cap d 0 ∧ Same [] w w' := by
  have hS := Same.refl [] w
  refine Ret.enter (vs := [.pointer (some ⟨rb, rb.off, none⟩), .int .i64 (W : Nat)]) Tryz.func46 Tryz.ntmps46 rfl rfl ?_
  refine WC.seq (WC.region ?_)
  refine WR.assign rfl rfl ?_
  refine WR.nil (WN.seq ?_)
  refine WC.seq (WC.region ?_)
  refine WR.move rfl rfl ?_
  refine WR.mkIface rfl Tryz.underlying120 rfl rfl ?_
  refine WR.callF rfl rfl cf53 rfl rfl (newBitReader rb db dO len cap p r d hr) ?_
  rintro _ w1 ⟨b, hbl, rfl, ha, hs⟩
  obtain ⟨hl1, hl2, hl3⟩ := ha.lt
  replace hS := hs
  refine WR.move rfl rfl ?_
  refine WR.build rfl rfl (v := .agg #[.pointer (some ⟨b, 0, none⟩), .int .i64 (W : Nat), .int .u64 0, .int .i32 0, .int .i32 0]) (fun w => by kernel_rfl) rfl rfl ?_
  refine WR.build rfl rfl (v := .agg #[.pointer (some ⟨b, 0, none⟩), .int .i64 (W : Nat), .int .u64 0, .int .i32 0, .int .i32 0]) (fun w => by kernel_rfl) rfl rfl ?_
  refine WR.box rfl rfl rfl ?_
  intro w2 hn hs
  replace hS := hS.trans hs (by simp <;> omega)
  replace ha := ha.same hs (by simp) (by simp) (by simp)
  have hR : RL w2 w1.heap.size 126 b (W : Nat) (0 : Nat) (0 : Nat) (0 : Nat) := by
    rw [hn]
    exact (Row.alloc w1 #[.pointer (some ⟨b, 0, none⟩), .int .i64 (W : Nat), .int .u64 0, .int .i32 0, .int .i32 0] 126).congr fun i hi => by
      rcases rl5 hi with rfl | rfl | rfl | rfl | rfl <;> rfl
  clear hn hs
  refine WR.assign rfl rfl ?_
  refine WR.nil (WN.seq ?_)
  refine WC.retR rfl rfl ?_
  exact ⟨_, b, rfl, hbl, hl1, hR, ha, hS⟩

set_option maxHeartbeats 200000 in
theorem rdReset {w : World} (bD off T n : Nat) (F : Nat → Value) (hF : Row w bD T n F) (hfit : off + 3 ≤ n) (A : Option Addr) (k c : Nat) :
    Ret Tryz.prog 45 #[.pointer (some ⟨bD, off, none⟩), .slice A k c] w fun v w' => v = .tuple #[] ∧ Row w' bD T n (ovr F off [.slice A k c, .int .i64 0, .int .i64 (-1)]) ∧ Same [bD] w w' := by
  have hS := Same.refl [bD] w
  refine Ret.enter (vs := [.pointer (some ⟨bD, off, none⟩), .slice A k c]) Tryz.func45 Tryz.ntmps45 rfl rfl ?_
  refine WC.region ?_
  refine WR.move rfl rfl ?_
  refine WR.move rfl rfl ?_
  refine WR.build rfl rfl (v := .agg #[.slice A k c, .int .i64 0, .int .i64 (-1)]) (fun w => by kernel_rfl) rfl rfl ?_
  refine WR.nilCheckP rfl rfl ?_
  refine WR.storeAgg (n := n) rfl rfl sz73 rfl (by simp [Value.oneCell']) hF hfit ?_
  intro w8 hn hs
  replace hF := hn
  replace hS := hS.trans hs (by simp <;> omega)
  refine WR.nil ?_
  refine WN.endR rfl rfl ?_
  exact ⟨rfl, hF, hS⟩

set_option maxHeartbeats 400000 in
theorem resetIdx {w : World} (bD nv db dO len cap W : Nat) (F : Nat → Value) (d : Nat → Nat) (hF : Row w bD 78 12 (upd F 0 (.int .i64 (nv : Nat)))) (hF5 : F 5 = .pointer none) (hd : Src2 w (rbD bD F nv) db dO len cap d) (hbD : 6 ≤ bD) (hne : db ≠ bD) :
    Ret Tryz.prog 34 #[.pointer (some ⟨bD, 0, none⟩), .slice (ad db dO) len cap, .int .i64 (W : Nat)] w fun v w' => v = .tuple #[] ∧ ∃ bR b, w.heap.size ≤ b ∧ b < bR ∧ RL w' bR 126 b (W : Nat) (0 : Nat) (0 : Nat) (0 : Nat) ∧ At w' b (rbD bD (upd F 5 (.pointer (some ⟨bR, 0, none⟩))) nv) db dO len cap d 0 ∧ Same [bD] w w' := by
  have hS := Same.refl [bD] w
  have hl0 := hF.lt
  have hdl := hd.lt
  refine Ret.enter (vs := [.pointer (some ⟨bD, 0, none⟩), .slice (ad db dO) len cap, .int .i64 (W : Nat)]) Tryz.func34 Tryz.ntmps34 rfl rfl ?_
  refine WC.seq (WC.region ?_)
  refine WR.move rfl rfl ?_
  refine WR.nilCheckP rfl rfl ?_
  refine WR.field rfl fa76_4 rfl ?_
  refine WR.move rfl rfl ?_
  refine WR.callF rfl rfl cf45 rfl rfl (rdReset bD 6 78 12 _ hF (by decide) (ad db dO) len cap) ?_
  rintro _ w1 ⟨rfl, hF', hs⟩
  replace hF := hF'
  clear hF'
  replace hS := hS.trans hs (by simp <;> omega)
  replace hd := hd.same hs (by simp <;> omega)
  refine WR.nil (WN.seq ?_)
  refine WC.seq (WC.seq (WC.region ?_))
  refine WR.move rfl rfl ?_
  refine WR.nilCheckP rfl rfl ?_
  refine WR.field rfl fa76_3 rfl ?_
  refine WR.load rfl Tryz.underlying71 rfl (show _ = some (Value.pointer none) from (hF.cell (i := 5) (by decide)).trans (congrArg some (show ovr (upd F 0 (.int .i64 (nv : Nat))) 6 _ 5 = _ by unfold ovr upd; rw [if_neg (by omega), if_neg (by omega)]; exact hF5))) rfl ?_
  refine WR.eqlNone rfl Tryz.underlying71 sz126 rfl ?_
  refine WR.nil (WN.seq ?_)
  refine WC.cond rfl (fun h87 => ?_) (fun h87 => ?_)
  · skip
    simp only at h87
    refine WC.seq (WC.region ?_)
    refine WR.move rfl rfl ?_
    refine WR.move rfl rfl ?_
    refine WR.nilCheckP rfl rfl ?_
    refine WR.field rfl fa76_4 rfl ?_
    refine WR.move rfl rfl ?_
    obtain ⟨rb, hrb⟩ : ∃ rb : RB, rb = rbD bD F nv := ⟨_, rfl⟩
    have hsrc : Src w1 rb db dO len cap 0 (-1) d := by
      rw [hrb]
      refine Src.of_two (⟨hd.data, hd.small, hd.cap_, hd.len_, hd.lt, hd.nz⟩) ⟨hF.congr fun i hi => ?_, show 6 + 3 ≤ 12 by decide⟩ hbD
      unfold rbF ovr rbD
      simp only [List.length_cons, List.length_nil]
      by_cases h : 6 ≤ i ∧ i < 6 + 3
      · rw [if_pos h, if_pos h]
        rcases (show i = 6 ∨ i = 7 ∨ i = 8 by omega) with rfl | rfl | rfl <;> rfl
      · rw [if_neg h, if_neg h]
    rw [show (⟨bD, 0 + 6, none⟩ : Addr) = ⟨rb.blk, rb.off, none⟩ by rw [hrb]; rfl]
    refine WR.callF rfl rfl cf46 rfl rfl (newRle rb db dO len cap W 0 (-1) d hsrc) ?_
    rintro _ w2 ⟨bR, b, rfl, hbl, hlt, hR, ha, hs⟩
    have hls := hS.size
    have hlR := hR.lt
    replace hS := hS.trans hs (by simp <;> omega)
    replace hF := hF.same hs (by simp <;> omega)
    replace hd := hd.same hs (by simp <;> omega)
    refine WR.nilCheckP rfl rfl ?_
    refine WR.field rfl fa76_3 rfl ?_
    refine WR.storeK rfl rfl rfl sz71 (hF.cell (i := 5) (by decide)) (hF.fz _) ?_
    intro w20 hn hs
    subst hrb
    replace ha := ha.put (i := 5) hn (.inl (show 5 < 6 by decide)) (show b ≠ bD by omega) (show db ≠ bD by omega)
    replace hR := hR.same hs (by simp <;> omega)
    replace hS := hS.trans hs (by simp <;> omega)
    refine WR.nil (WN.seq ?_)
    refine WC.retR rfl rfl ?_
    refine ⟨rfl, bR, b, by omega, hlt, hR, ?_, hS⟩
    rw [show (rbD bD F nv).put 5 (.pointer (some ⟨bR, 0, none⟩)) = rbD bD (upd F 5 (.pointer (some ⟨bR, 0, none⟩))) nv by
        unfold RB.put rbD
        simp only [RB.mk.injEq, true_and]
        funext i
        unfold upd
        by_cases h0 : i = 0
        · subst h0; rfl
        · rw [if_neg h0, if_neg h0]] at ha
    exact ha
  · skip
    cases h87

set_option maxHeartbeats 400000 in
theorem newDict {w : World} (bP D : Nat) (hbP : bP < w.heap.size) :
    Ret Tryz.prog 19 #[.iface 66 (.agg #[]), .iface 51 (.pointer (some ⟨bP, 0, none⟩)), .int .i64 (D : Nat)] w fun v w' => ∃ bD bC F, v = .pointer (some ⟨bD, 0, none⟩) ∧ w.heap.size ≤ bD ∧ bD < bC ∧ Row w' bD 78 12 F ∧ F 5 = .pointer none ∧ F 4 = .iface 99 (.pointer (some ⟨bC, 0, none⟩)) ∧ DCr w' bC bP D (.slice none 0 0) ∧ Same [] w w' := by
  have hS := Same.refl [] w
  refine Ret.enter (vs := [.iface 66 (.agg #[]), .iface 51 (.pointer (some ⟨bP, 0, none⟩)), .int .i64 (D : Nat)]) Tryz.func19 Tryz.ntmps19 rfl rfl ?_
  refine WC.seq (WC.region ?_)
  refine WR.assign rfl rfl ?_
  refine WR.nil (WN.seq ?_)
  refine WC.seq (WC.region ?_)
  refine WR.callF rfl rfl cf33 rfl rfl (newBase _) ?_
  rintro _ w1 ⟨rfl, hs⟩
  have hsz := hs.size
  replace hS := hS.trans hs (by simp <;> omega)
  refine WR.move rfl rfl ?_
  refine WR.build rfl rfl (v := .agg ddZ) (fun w => by kernel_rfl) rfl rfl ?_
  refine WR.build rfl rfl (v := .agg ddZ) (fun w => by kernel_rfl) rfl rfl ?_
  refine WR.box rfl rfl rfl ?_
  intro w2 hn hs
  replace hS := hS.trans hs (by simp <;> omega)
  obtain ⟨bD, hbD⟩ : ∃ x, x = w1.heap.size := ⟨_, rfl⟩
  have hD : Row w2 bD 78 12 (fun i => ddZ.getD i undef) := by
    rw [hn, hbD]
    exact Row.alloc w1 ddZ 78
  rw [← hbD]
  have hlD := hD.lt
  clear hn hs
  refine WR.assign rfl rfl ?_
  refine WR.nil (WN.seq ?_)
  refine WC.seq (WC.region ?_)
  refine WR.move rfl rfl ?_
  refine WR.move rfl rfl ?_
  refine WR.move rfl rfl ?_
  refine WR.build rfl rfl (v := .agg #[.iface 51 (.pointer (some ⟨bP, 0, none⟩)), .int .i64 (D : Nat), .slice none 0 0, .int .i64 0]) (fun w => by kernel_rfl) rfl rfl ?_
  refine WR.box rfl rfl rfl ?_
  intro w3 hn hs
  replace hS := hS.trans hs (by simp <;> omega)
  replace hD := hD.same hs (by simp <;> omega)
  obtain ⟨bC, hbC⟩ : ∃ x, x = w2.heap.size := ⟨_, rfl⟩
  have hC : DCr w3 bC bP D (.slice none 0 0) := by
    rw [hn, hbC]
    exact (Row.alloc w2 #[.iface 51 (.pointer (some ⟨bP, 0, none⟩)), .int .i64 (D : Nat), .slice none 0 0, .int .i64 0] 101).congr fun i hi => by
      rcases pd4 hi with rfl | rfl | rfl | rfl <;> rfl
  rw [← hbC]
  clear hn hs
  refine WR.mkIface rfl Tryz.underlying99 rfl rfl ?_
  refine WR.nilCheckP rfl rfl ?_
  refine WR.field rfl fa78_0 rfl ?_
  refine WR.field rfl fa76_2 rfl ?_
  refine WR.storeK rfl rfl rfl sz70 (hD.cell (i := 4) (by decide)) (hD.fz _) ?_
  intro w20 hn hs
  replace hD := hD.set' hn
  replace hC := hC.same hs (by simp <;> omega)
  replace hS := hS.trans hs (by simp <;> omega)
  refine WR.nil (WN.seq ?_)
  refine WC.seq (WC.region ?_)
  refine WR.move rfl rfl ?_
  refine WR.assign rfl rfl ?_
  refine WR.nil (WN.seq ?_)
  refine WC.retR rfl rfl ?_
  exact ⟨bD, bC, _, rfl, by omega, by omega, hD, rfl, rfl, hC, hS⟩

set_option maxHeartbeats 400000 in
theorem setDict {w : World} (bD nv db o L c W : Nat) (F : Nat → Value) (d0 : Nat → Nat) (hF : Row w bD 78 12 F) (hF5 : F 5 = .pointer none) (hd : Rd w db o L (byt d0)) (hs8 : ∀ i, i < L → d0 i < 256) (hlt : db < w.heap.size) (hL2 : 2 ≤ L) (hLc : L ≤ c) (hL : L ≤ 1099511627776) (hw0 : d0 0 = W) (hW : W ≤ 20) (hbD : 6 ≤ bD) (hne : db ≠ bD) :
    Ret Tryz.prog 20 #[.pointer (some ⟨bD, 0, none⟩), .int .i64 (nv : Nat), .slice (some ⟨db, o, none⟩) L c] w fun v w' => v = .nilIface ∧ ∃ bR b, w.heap.size ≤ b ∧ b < bR ∧ RL w' bR 126 b (W : Nat) (0 : Nat) (0 : Nat) (0 : Nat) ∧ At w' b (rbD bD (upd F 5 (.pointer (some ⟨bR, 0, none⟩))) nv) db (o + 2) (L - 1) (c - 1) (fun i => d0 (i + 1)) 0 ∧ Same [bD] w w' := by
  have hS := Same.refl [bD] w
  refine Ret.enter (vs := [.pointer (some ⟨bD, 0, none⟩), .int .i64 (nv : Nat), .slice (some ⟨db, o, none⟩) L c]) Tryz.func20 Tryz.ntmps20 rfl rfl ?_
  refine WC.seq (WC.region ?_)
  refine WR.assign rfl rfl ?_
  refine WR.nil (WN.seq ?_)
  refine WC.seq (WC.region ?_)
  refine WR.move rfl rfl ?_
  refine WR.move rfl rfl ?_
  refine WR.nilCheckP rfl rfl ?_
  refine WR.field rfl fa76_0 rfl ?_
  refine WR.field rfl fa57_0 rfl ?_
  refine WR.storeK rfl rfl rfl sz3 (hF.cell (i := 0) (by decide)) (hF.fz _) ?_
  intro w20 hn hs
  replace hF := hF.set' hn
  replace hd := hd.same hs (by simp <;> omega) hlt
  replace hlt := Nat.lt_of_lt_of_le hlt hs.size
  replace hS := hS.trans hs (by simp <;> omega)
  have hsz20 := hs.size
  clear hn hs
  refine WR.nil (WN.seq ?_)
  refine WC.seq (WC.seq (WC.region ?_))
  refine WR.move rfl rfl ?_
  refine WR.lenS rfl Tryz.underlying28 rfl ?_
  refine WR.bin rfl rfl rfl rfl ?_
  refine WR.nil (WN.seq ?_)
  refine WC.cond rfl (fun h68 => ?_) (fun h68 => ?_)
  · skip
    simp only [beq_iff_eq] at h68
    omega
  · skip
    simp only [beq_eq_false_iff_ne, ne_eq] at h68
    refine WC.skip (WN.seq ?_)
    refine WC.seq (WC.region ?_)
    refine WR.move rfl rfl ?_
    refine WR.idx rfl rfl Tryz.underlying28 sz5 (by decide) (by omega) rfl ?_
    refine WR.load rfl Tryz.underlying5 rfl (show _ = some (Value.int .u8 (d0 0 : Nat)) from hd 0 (by omega)) rfl ?_
    refine WR.assign rfl rfl ?_
    refine WR.nil (WN.seq ?_)
    refine WC.seq (WC.seq (WC.region ?_))
    refine WR.move rfl rfl ?_
    refine WR.bin rfl rfl rfl rfl ?_
    refine WR.nil (WN.seq ?_)
    refine WC.cond rfl (fun h76 => ?_) (fun h76 => ?_)
    · skip
      simp only [ge_iff_le, decide_eq_true_eq] at h76
      omega
    · skip
      simp only [ge_iff_le, decide_eq_false_iff_not, Int.not_le] at h76
      refine WC.skip (WN.seq ?_)
      refine WC.seq (WC.region ?_)
      refine WR.move rfl rfl ?_
      refine WR.move rfl rfl ?_
      refine WR.slice rfl Tryz.underlying28 sz5 rfl ⟨_, _, rfl, by omega, by omega, show 1 = Int.toNat _ by omega⟩ rfl ?_
      refine WR.move rfl rfl ?_
      (refine WR.conv rfl Tryz.underlying5 Tryz.underlying3 (wrap_i64 ?_ ?_) rfl ?_; (omega); (omega))
      rw [if_neg (show ¬ c = 1 by omega), hw0]
      have hsrc : Src2 w20 (rbD bD F nv) db (o + 1 + 1) (L - 1) (c - 1) (fun i => d0 (i + 1)) := ⟨fun i hi => by
          rw [show o + 1 + 1 - 1 + i = o + (i + 1) by omega]
          exact hd (i + 1) (by omega), fun i hi => hs8 _ (by omega), by omega, by omega, hlt, fun _ => by omega⟩
      rw [show (Value.slice (some ⟨db, o + 1 * 1, none⟩) (L - 1) (c - 1)) = .slice (ad db (o + 1 + 1)) (L - 1) (c - 1) from rfl]
      refine WR.callF rfl rfl cf34 rfl rfl (resetIdx bD nv db (o + 1 + 1) (L - 1) (c - 1) W F (fun i => d0 (i + 1)) hF hF5 hsrc hbD hne) ?_
      rintro _ w1 ⟨rfl, bR, b, hbl, hltb, hR, ha, hs⟩
      replace hS := hS.trans hs (by simp <;> omega)
      replace hd := hd.same hs (by simp <;> omega) hlt
      replace hlt := Nat.lt_of_lt_of_le hlt hs.size
      refine WR.nil (WN.seq ?_)
      refine WC.seq (WC.region ?_)
      refine WR.assign rfl rfl ?_
      refine WR.nil (WN.seq ?_)
      refine WC.retR rfl rfl ?_
      exact ⟨rfl, bR, b, by omega, hltb, hR, ha, hS⟩

set_option maxHeartbeats 400000 in
theorem decodeD {w : World} {aE aU aP : Addr} (hg : Glob w aE aU aP) (bD : Nat) (F : Nat → Value) (nv bR b db dO len cap W : Nat) (d : Nat → Nat) (rest : List Nat) (bC bP q D dv : Nat) (e : Nat → Nat) (g o L c t N : Nat) (f : Nat → Value) (hDD : DD w bD F nv bR b db dO len cap W d rest bC bP q D dv e) (hF : Row w g t N f) (hfit : o + L ≤ N) (hLc : L ≤ c) (hLr : L ≤ rest.length) (hnv : L ≤ nv) (hn2 : L ≤ 1048576) (hnv2 : nv ≤ 1048576) (hlt : ∀ j, j < L → rest.getD j 0 < D) (hDm : D ≤ 1048576) (hW1 : 1 ≤ W) (hW2 : W ≤ 20) (h1 : 6 ≤ bP) (h2 : bP < dv) (h3 : dv < bD) (h4 : bD < bC) (h5 : bC < db) (h6 : db < b) (h7 : b < bR) (h8 : bR < g) (h9 : q = bC ∨ bR < q) (h10 : q ≠ g) :
    Ret Tryz.prog 36 #[.pointer (some ⟨bD, 0, none⟩), .slice (some ⟨g, o, none⟩) L c] w fun v w' => v = .tuple #[.int .i64 (L : Nat), .nilIface] ∧ (∃ q', DD w' bD F (nv - L) bR b db dO len cap W d (rest.drop L) bC bP q' D dv e ∧ (q' = q ∨ w.heap.size ≤ q')) ∧ (∃ F, Row w' g t N F ∧ Put F f o L L (fun j => Value.int .i64 (i8 e (rest.getD j 0)))) ∧ Same [bR, b, bD, bC, bP, q, g] w w' := by
  have hS := Same.refl [bR, b, bD, bC, bP, q, g] w
  obtain ⟨hF4, hF5, hSt, k, hDC⟩ := hDD
  have hblk : (rbD bD F nv).blk = bD := rfl
  refine Ret.enter (vs := [.pointer (some ⟨bD, 0, none⟩), .slice (some ⟨g, o, none⟩) L c]) Tryz.func36 Tryz.ntmps36 rfl rfl ?_
  refine WC.seq (WC.region ?_)
  refine WR.assign rfl rfl ?_
  refine WR.assign rfl rfl ?_
  refine WR.nil (WN.seq (WC.seq ?_))
  refine WC.mix [] mixed (by kernel_rfl) ?_
  replace hg := hg.same (Same.drew _) (by simp <;> omega)
  replace hS := hS.trans (Same.drew _) (by simp <;> omega)
  replace hSt := hSt.same (Same.drew _) (by simp <;> omega) (by simp <;> omega) (by simp <;> omega) (by simp <;> omega)
  replace hDC := hDC.same (Same.drew _) (by simp <;> omega) (by simp <;> omega) (by simp <;> omega) (by simp <;> omega)
  replace hF := hF.same (Same.drew _) (by simp <;> omega)
  refine WR.move rfl rfl ?_
  refine WR.nilCheckP rfl rfl ?_
  refine WR.field rfl fa76_3 rfl ?_
  refine WR.load rfl Tryz.underlying71 rfl (hSt.c5 hF5) rfl ?_
  refine WR.move rfl rfl ?_
  refine WR.nilCheckP rfl rfl ?_
  refine WR.field rfl fa76_2 rfl ?_
  refine WR.load rfl Tryz.underlying70 rfl (hSt.c4 hF4) rfl ?_
  refine WR.move rfl rfl ?_
  refine WR.callF rfl rfl cf48 rfl rfl (batchDict hg bR 126 b (rbD bD F nv) db dO len cap W d rest bC bP q D k dv e g o L c t N f hSt hDC hF hfit hLc hLr hn2 hlt hDm hW1 hW2 h1 h2 (by omega) (by omega) h5 h6 h7 h8 h9 h10) ?_
  rintro _ w1 ⟨rfl, hSt', ⟨k2, q2, hDC', hq2⟩, ⟨F2, hF', hput⟩, hs⟩
  have hql := hDC.lt.2.2.2.2
  have hgl := hF.lt
  have hbl : bC < w.heap.size := hDC.lt.1
  replace hSt := hSt'
  replace hDC := hDC'
  replace hF := hF'
  clear hSt' hDC' hF'
  replace hg := hg.same hs (by simp <;> omega)
  replace hS := hS.trans hs (by simp <;> omega)
  refine WR.move rfl rfl ?_
  refine WR.extract rfl rfl rfl ?_
  refine WR.extract rfl rfl rfl ?_
  refine WR.assign rfl rfl ?_
  refine WR.assign rfl rfl ?_
  refine WR.nil (WN.seq ?_)
  refine WC.seq (WC.region ?_)
  refine WR.move rfl rfl ?_
  refine WR.nilCheckP rfl rfl ?_
  refine WR.field rfl fa76_0 rfl ?_
  refine WR.field rfl fa57_0 rfl ?_
  refine WR.load rfl Tryz.underlying3 rfl hSt.c0 rfl ?_
  refine WR.move rfl rfl ?_
  (refine WR.bin rfl rfl (ar_sub (z := ((nv - L : Nat) : Int)) ?_) rfl ?_; (rw [wrap_i64 (by omega) (by omega)]; omega))
  refine WR.nilCheckP rfl rfl ?_
  refine WR.field rfl fa76_0 rfl ?_
  refine WR.field rfl fa57_0 rfl ?_
  refine WR.storeK rfl rfl rfl sz3 hSt.c0 hSt.fz ?_
  intro w20 hn hs
  replace hSt := hSt.s0 hn (by omega) (by omega) (by omega)
  replace hS := hS.trans hs (by simp <;> omega)
  replace hDC := hDC.same hs (by simp <;> omega) (by simp <;> omega) (by simp <;> omega) (by simp <;> omega)
  replace hF := hF.same hs (by simp <;> omega)
  clear hn hs
  refine WR.nil (WN.seq ?_)
  refine WC.seq (WC.region ?_)
  refine WR.move rfl rfl ?_
  refine WR.move rfl rfl ?_
  refine WR.assign rfl rfl ?_
  refine WR.assign rfl rfl ?_
  refine WR.nil (WN.seq ?_)
  refine WC.retR rfl rfl ?_
  exact ⟨rfl, ⟨q2, ⟨hF4, hF5, hSt, k2, hDC⟩, hq2⟩, ⟨F2, hF, hput⟩, hS⟩

set_option maxHeartbeats 400000 in
theorem decodeT {w : World} {aE aU aP : Addr} (hg : Glob w aE aU aP) (bD : Nat) (F : Nat → Value) (nv bR b db dO len cap W : Nat) (d : Nat → Nat) (rest : List Nat) (bC bP q D dv : Nat) (e : Nat → Nat) (g o L c t N : Nat) (f : Nat → Value) (hDD : DD w bD F nv bR b db dO len cap W d rest bC bP q D dv e) (hF : Row w g t N f) (hfit : o + L ≤ N) (hLc : L ≤ c) (hLr : L ≤ rest.length) (hnv : L ≤ nv) (hn2 : L ≤ 1048576) (hnv2 : nv ≤ 1048576) (hlt : ∀ j, j < L → rest.getD j 0 < D) (hDm : D ≤ 1048576) (hW1 : 1 ≤ W) (hW2 : W ≤ 20) (h1 : 6 ≤ bP) (h2 : bP < dv) (h3 : dv < bD) (h4 : bD < bC) (h5 : bC < db) (h6 : db < b) (h7 : b < bR) (h8 : bR < g) (h9 : q = bC ∨ bR < q) (h10 : q ≠ g) :
    Ret Tryz.prog 22 #[.pointer (some ⟨bD, 0, none⟩), .slice (some ⟨g, o, none⟩) L c] w fun v w' => v = .tuple #[.int .i64 (L : Nat), .nilIface] ∧ (∃ q', DD w' bD F (nv - L) bR b db dO len cap W d (rest.drop L) bC bP q' D dv e ∧ (q' = q ∨ w.heap.size ≤ q')) ∧ (∃ F, Row w' g t N F ∧ Put F f o L L (fun j => Value.int .i64 (i8 e (rest.getD j 0)))) ∧ Same [bR, b, bD, bC, bP, q, g] w w' := by
  have hS := Same.refl [bR, b, bD, bC, bP, q, g] w
  have hSt := hDD.2.2.1
  refine Ret.enter (vs := [.pointer (some ⟨bD, 0, none⟩), .slice (some ⟨g, o, none⟩) L c]) Tryz.func22 Tryz.ntmps22 rfl rfl ?_
  refine WC.seq (WC.region ?_)
  refine WR.assign rfl rfl ?_
  refine WR.assign rfl rfl ?_
  refine WR.nil (WN.seq ?_)
  refine WC.seq (WC.region ?_)
  refine WR.move rfl rfl ?_
  refine WR.lenS rfl Tryz.underlying79 rfl ?_
  refine WR.move rfl rfl ?_
  refine WR.nilCheckP rfl rfl ?_
  refine WR.field rfl fa78_0 rfl ?_
  refine WR.field rfl fa76_0 rfl ?_
  refine WR.field rfl fa57_0 rfl ?_
  refine WR.load rfl Tryz.underlying3 rfl hSt.c0 rfl ?_
  refine WR.min2 rfl rfl rfl ?_
  rw [show (if ((nv : Nat) : Int) < ((L : Nat) : Int) then ((nv : Nat) : Int) else ((L : Nat) : Int)) = ((L : Nat) : Int) by split <;> omega]
  refine WR.assign rfl rfl ?_
  refine WR.nil (WN.seq (WC.seq ?_))
  refine WC.mix [] mixed (by kernel_rfl) ?_
  replace hg := hg.same (Same.drew _) (by simp <;> omega)
  replace hS := hS.trans (Same.drew _) (by simp <;> omega)
  replace hDD := hDD.same (Same.drew _) (by simp) (by simp) (by simp) (by simp) (by simp) (by simp) (by simp) (by simp)
  replace hF := hF.same (Same.drew _) (by simp <;> omega)
  refine WR.move rfl rfl ?_
  refine WR.nilCheckP rfl rfl ?_
  refine WR.field rfl fa78_0 rfl ?_
  refine WR.move rfl rfl ?_
  refine WR.move rfl rfl ?_
  refine WR.slice rfl Tryz.underlying79 sz2 ⟨_, _, rfl, by omega, by omega, show L = Int.toNat _ by omega⟩ rfl rfl ?_
  simp only [sl0, Nat.sub_zero]
  refine WR.callF rfl rfl cf36 rfl rfl (decodeD hg bD F nv bR b db dO len cap W d rest bC bP q D dv e g o L c t N f hDD hF hfit hLc hLr hnv hn2 hnv2 hlt hDm hW1 hW2 h1 h2 h3 h4 h5 h6 h7 h8 h9 h10) ?_
  rintro _ w1 ⟨rfl, hD', hF', hs⟩
  replace hg := hg.same hs (by simp <;> omega)
  replace hS := hS.trans hs (by simp <;> omega)
  refine WR.move rfl rfl ?_
  refine WR.extract rfl rfl rfl ?_
  refine WR.extract rfl rfl rfl ?_
  refine WR.assign rfl rfl ?_
  refine WR.assign rfl rfl ?_
  refine WR.nil (WN.seq ?_)
  refine WC.seq (WC.seq (WC.region ?_))
  refine WR.move rfl rfl ?_
  refine WR.neqNil rfl rfl Tryz.underlying54 rfl ?_
  refine WR.nil (WN.seq ?_)
  refine WC.cond rfl (fun h79 => ?_) (fun h79 => ?_)
  · skip
    exact absurd h79 (by simp)
  · skip
    simp only at h79
    refine WC.skip (WN.seq ?_)
    refine WC.seq (WC.seq (WC.region ?_))
    refine WR.move rfl rfl ?_
    refine WR.move rfl rfl ?_
    refine WR.bin rfl rfl rfl rfl ?_
    refine WR.nil (WN.seq ?_)
    refine WC.cond rfl (fun h83 => ?_) (fun h83 => ?_)
    · skip
      exact absurd h83 (by simp)
    · skip
      simp only [bne_eq_false_iff_eq] at h83
      refine WC.skip (WN.seq ?_)
      refine WC.seq (WC.region ?_)
      refine WR.move rfl rfl ?_
      refine WR.assign rfl rfl ?_
      refine WR.assign rfl rfl ?_
      refine WR.nil (WN.seq ?_)
      refine WC.retR rfl rfl ?_
      exact ⟨rfl, hD', hF', hS⟩

set_option maxHeartbeats 400000 in
theorem discardD {w : World} {aE aU aP : Addr} (hg : Glob w aE aU aP) (bD : Nat) (F : Nat → Value) (nv bR b db dO len cap W : Nat) (d : Nat → Nat) (rest : List Nat) (bC bP q D dv : Nat) (e : Nat → Nat) (L : Nat) (hDD : DD w bD F nv bR b db dO len cap W d rest bC bP q D dv e) (hLr : L ≤ rest.length) (hnv : L ≤ nv) (hn2 : L ≤ 1048576) (hnv2 : nv ≤ 1048576) (hDm : D ≤ 1048576) (hW1 : 1 ≤ W) (hW2 : W ≤ 20) (h1 : 6 ≤ bP) (h2 : bP < dv) (h3 : dv < bD) (h4 : bD < bC) (h5 : bC < db) (h6 : db < b) (h7 : b < bR) (h9 : q = bC ∨ bR < q) :
    Ret Tryz.prog 37 #[.pointer (some ⟨bD, 0, none⟩), .int .i64 (L : Nat)] w fun v w' => v = .tuple #[.int .i64 (L : Nat), .nilIface] ∧ DD w' bD F (nv - L) bR b db dO len cap W d (rest.drop L) bC bP q D dv e ∧ Same [bR, b, bD] w w' := by
  have hS := Same.refl [bR, b, bD] w
  obtain ⟨hF4, hF5, hSt, k, hDC⟩ := hDD
  have hblk : (rbD bD F nv).blk = bD := rfl
  refine Ret.enter (vs := [.pointer (some ⟨bD, 0, none⟩), .int .i64 (L : Nat)]) Tryz.func37 Tryz.ntmps37 rfl rfl ?_
  refine WC.seq (WC.region ?_)
  refine WR.assign rfl rfl ?_
  refine WR.assign rfl rfl ?_
  refine WR.nil (WN.seq ?_)
  refine WC.seq (WC.region ?_)
  refine WR.move rfl rfl ?_
  refine WR.nilCheckP rfl rfl ?_
  refine WR.field rfl fa76_3 rfl ?_
  refine WR.load rfl Tryz.underlying71 rfl (hSt.c5 hF5) rfl ?_
  refine WR.nilCheckP rfl rfl ?_
  refine WR.field rfl fa126_0 rfl ?_
  refine WR.move rfl rfl ?_
  refine WR.callF rfl rfl cf49 rfl rfl (rleDiscard hg bR 126 b (rbD bD F nv) db dO len cap W L d rest hSt hLr hn2 hW1 hW2 (by omega) (by omega) (by omega) (by omega) (by omega) (by omega) (by omega) (by omega) (by omega)) ?_
  rintro _ w1 ⟨rfl, hSt', hs⟩
  replace hSt := hSt'
  clear hSt'
  replace hg := hg.same hs (by simp <;> omega)
  replace hS := hS.trans hs (by simp <;> omega)
  replace hDC := hDC.same hs (by simp <;> omega) (by simp <;> omega) (by simp <;> omega) (by simp <;> omega)
  refine WR.assign rfl rfl ?_
  refine WR.nil (WN.seq ?_)
  refine WC.seq (WC.region ?_)
  refine WR.move rfl rfl ?_
  refine WR.nilCheckP rfl rfl ?_
  refine WR.field rfl fa76_0 rfl ?_
  refine WR.field rfl fa57_0 rfl ?_
  refine WR.load rfl Tryz.underlying3 rfl hSt.c0 rfl ?_
  refine WR.move rfl rfl ?_
  (refine WR.bin rfl rfl (ar_sub (z := ((nv - L : Nat) : Int)) ?_) rfl ?_; (rw [wrap_i64 (by omega) (by omega)]; omega))
  refine WR.nilCheckP rfl rfl ?_
  refine WR.field rfl fa76_0 rfl ?_
  refine WR.field rfl fa57_0 rfl ?_
  refine WR.storeK rfl rfl rfl sz3 hSt.c0 hSt.fz ?_
  intro w20 hn hs
  replace hSt := hSt.s0 hn (by omega) (by omega) (by omega)
  replace hS := hS.trans hs (by simp <;> omega)
  replace hDC := hDC.same hs (by simp <;> omega) (by simp <;> omega) (by simp <;> omega) (by simp <;> omega)
  clear hn hs
  refine WR.nil (WN.seq ?_)
  refine WC.seq (WC.region ?_)
  refine WR.move rfl rfl ?_
  refine WR.assign rfl rfl ?_
  refine WR.assign rfl rfl ?_
  refine WR.nil (WN.seq ?_)
  refine WC.retR rfl rfl ?_
  exact ⟨rfl, ⟨hF4, hF5, hSt, k, hDC⟩, hS⟩

set_option maxHeartbeats 400000 in
theorem discardT {w : World} {aE aU aP : Addr} (hg : Glob w aE aU aP) (bD : Nat) (F : Nat → Value) (nv bR b db dO len cap W : Nat) (d : Nat → Nat) (rest : List Nat) (bC bP q D dv : Nat) (e : Nat → Nat) (L : Nat) (hDD : DD w bD F nv bR b db dO len cap W d rest bC bP q D dv e) (hLr : L ≤ rest.length) (hnv : L ≤ nv) (hn2 : L ≤ 1048576) (hnv2 : nv ≤ 1048576) (hDm : D ≤ 1048576) (hW1 : 1 ≤ W) (hW2 : W ≤ 20) (h1 : 6 ≤ bP) (h2 : bP < dv) (h3 : dv < bD) (h4 : bD < bC) (h5 : bC < db) (h6 : db < b) (h7 : b < bR) (h9 : q = bC ∨ bR < q) :
    Ret Tryz.prog 23 #[.pointer (some ⟨bD, 0, none⟩), .int .i64 (L : Nat)] w fun v w' => v = .tuple #[.int .i64 (L : Nat), .nilIface] ∧ DD w' bD F (nv - L) bR b db dO len cap W d (rest.drop L) bC bP q D dv e ∧ Same [bR, b, bD] w w' := by
  have hS := Same.refl [bR, b, bD] w
  have hSt := hDD.2.2.1
  refine Ret.enter (vs := [.pointer (some ⟨bD, 0, none⟩), .int .i64 (L : Nat)]) Tryz.func23 Tryz.ntmps23 rfl rfl ?_
  refine WC.seq (WC.region ?_)
  refine WR.assign rfl rfl ?_
  refine WR.assign rfl rfl ?_
  refine WR.nil (WN.seq ?_)
  refine WC.seq (WC.region ?_)
  refine WR.move rfl rfl ?_
  refine WR.move rfl rfl ?_
  refine WR.nilCheckP rfl rfl ?_
  refine WR.field rfl fa78_0 rfl ?_
  refine WR.field rfl fa76_0 rfl ?_
  refine WR.field rfl fa57_0 rfl ?_
  refine WR.load rfl Tryz.underlying3 rfl hSt.c0 rfl ?_
  refine WR.min2 rfl rfl rfl ?_
  rw [show (if ((nv : Nat) : Int) < ((L : Nat) : Int) then ((nv : Nat) : Int) else ((L : Nat) : Int)) = ((L : Nat) : Int) by split <;> omega]
  refine WR.assign rfl rfl ?_
  refine WR.nil (WN.seq ?_)
  refine WC.seq (WC.region ?_)
  refine WR.move rfl rfl ?_
  refine WR.nilCheckP rfl rfl ?_
  refine WR.field rfl fa78_0 rfl ?_
  refine WR.move rfl rfl ?_
  refine WR.callF rfl rfl cf37 rfl rfl (discardD hg bD F nv bR b db dO len cap W d rest bC bP q D dv e L hDD hLr hnv hn2 hnv2 hDm hW1 hW2 h1 h2 h3 h4 h5 h6 h7 h9) ?_
  rintro _ w1 ⟨rfl, hD', hs⟩
  replace hg := hg.same hs (by simp <;> omega)
  replace hS := hS.trans hs (by simp <;> omega)
  refine WR.move rfl rfl ?_
  refine WR.extract rfl rfl rfl ?_
  refine WR.extract rfl rfl rfl ?_
  refine WR.assign rfl rfl ?_
  refine WR.assign rfl rfl ?_
  refine WR.nil (WN.seq ?_)
  refine WC.seq (WC.seq (WC.region ?_))
  refine WR.move rfl rfl ?_
  refine WR.neqNil rfl rfl Tryz.underlying54 rfl ?_
  refine WR.nil (WN.seq ?_)
  refine WC.cond rfl (fun h66 => ?_) (fun h66 => ?_)
  · skip
    exact absurd h66 (by simp)
  · skip
    simp only at h66
    refine WC.skip (WN.seq ?_)
    refine WC.seq (WC.seq (WC.region ?_))
    refine WR.move rfl rfl ?_
    refine WR.move rfl rfl ?_
    refine WR.bin rfl rfl rfl rfl ?_
    refine WR.nil (WN.seq ?_)
    refine WC.cond rfl (fun h70 => ?_) (fun h70 => ?_)
    · skip
      exact absurd h70 (by simp)
    · skip
      simp only [bne_eq_false_iff_eq] at h70
      refine WC.skip (WN.seq ?_)
      refine WC.seq (WC.region ?_)
      refine WR.move rfl rfl ?_
      refine WR.assign rfl rfl ?_
      refine WR.assign rfl rfl ?_
      refine WR.nil (WN.seq ?_)
      refine WC.retR rfl rfl ?_
      exact ⟨rfl, hD', hS⟩

end Go.Proofs.YthmknddfkmklfaaGreatDoor.Vm
