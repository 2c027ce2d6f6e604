/- A dictionary's values are decoded from their bytes. -/
import Derived.Test.YthmknddfkmklfaaGreatDoorFnX
namespace Go.Proofs.YthmknddfkmklfaaGreatDoor.Vm
open Go Mix Go.RowKit Num
set_option maxRecDepth 20000
set_option linter.unusedSimpArgs false
theorem gv_zv (w : World) : (zeroValue 2).run Tryz.prog w = .ok (.int .i64 0) w := by kernel_rfl
/-- the j-th number of eight bytes, with its sign -/
def i8 (e : Nat → Nat) (j : Nat) : Int := IntKind.i64.wrap ((num (fun i => e (8 * j + i)) 8 : Nat) : Int)
def pdF (nv : Nat) (s : Value) : Nat → Value
  | 0 => .int .i64 (nv : Nat)
  | 1 => s
  | 2 => .int .i64 0
  | _ => .nilIface
/-- a plain decoder with nv numbers yet to come, whose bytes are e -/
def PD (w : World) (bP nv db : Nat) (e : Nat → Nat) : Prop :=
  ∃ o c, Row w bP 61 4 (pdF nv (.slice (some ⟨db, o, none⟩) (8 * nv) c)) ∧ 8 * nv ≤ c ∧ Rd w db o (8 * nv) (byt e) ∧ (∀ i, i < 8 * nv → e i < 256) ∧ db < w.heap.size
theorem PD.same {w w' : World} {S : List Nat} {bP nv db : Nat} {e : Nat → Nat} (h : PD w bP nv db e) (hs : Same S w w') (h1 : bP ∉ S) (h2 : db ∉ S) : PD w' bP nv db e := by
  obtain ⟨o, c, hr, hc, hd, he, hlt⟩ := h
  exact ⟨o, c, hr.same hs h1, hc, hd.same hs h2 hlt, he, Nat.lt_of_lt_of_le hlt hs.size⟩
theorem pd4 {i : Nat} (h : i < 4) : i = 0 ∨ i = 1 ∨ i = 2 ∨ i = 3 := by omega
theorem num_shift (e : Nat → Nat) (j n : Nat) : num (fun i => (fun i => e (j + i)) i) n = num (fun i => e (j + i)) n := rfl
theorem cf158 (us : Array Value) (w : World) : (callFunc 158 us).run Tryz.prog w = .ok (.enter 158 us) w := by kernel_rfl
theorem cf160 (us : Array Value) (w : World) : (callFunc 160 us).run Tryz.prog w = .ok (.enter 160 us) w := by kernel_rfl
theorem cf161 (us : Array Value) (w : World) : (callFunc 161 us).run Tryz.prog w = .ok (.enter 161 us) w := by kernel_rfl
theorem cf162 (us : Array Value) (w : World) : (callFunc 162 us).run Tryz.prog w = .ok (.enter 162 us) w := by kernel_rfl
theorem mk2 : (Tryz.prog.info? 2).map (fun i => (i.size, i.bytes, i.zero)) = some (1, 8, some (.int .i64 0)) := by kernel_rfl
set_option maxHeartbeats 400000 in
theorem uint64g {w : World} (g o dl dc : Nat) (e : Nat → Nat) (z : Value) (hd : Rd w g o 8 (byt e)) (he : ∀ i, i < 8 → e i < 256) (hlt : g < w.heap.size) (hdl : 8 ≤ dl) :
    Ret Tryz.prog 77 #[z, .slice (some ⟨g, o, none⟩) dl dc] w fun v w' => v = .int .u64 (num e 8) ∧ Same [] w w' := by
  have hS := Same.refl [] w
  have e0 := he 0 (by decide)
  have e1 := he 1 (by decide)
  have e2 := he 2 (by decide)
  have e3 := he 3 (by decide)
  have e4 := he 4 (by decide)
  have e5 := he 5 (by decide)
  have e6 := he 6 (by decide)
  have e7 := he 7 (by decide)
  refine Ret.enter (vs := [z, .slice (some ⟨g, o, none⟩) dl dc]) Tryz.func77 Tryz.ntmps77 rfl rfl ?_
  refine WC.seq (WC.region ?_)
  refine WR.box rfl rfl rfl ?_
  intro w1 hn hs
  replace hd := hd.same hs (by simp) hlt
  replace hlt := Nat.lt_of_lt_of_le hlt hs.size
  replace hS := hS.trans hs (by simp)
  clear hn hs
  refine WR.assign rfl rfl ?_
  refine WR.nil (WN.seq ?_)
  refine WC.seq (WC.region ?_)
  refine WR.move rfl rfl ?_
  refine WR.idx rfl rfl Tryz.underlying28 sz5 (by decide) (by omega) rfl ?_
  refine WR.load rfl Tryz.underlying5 rfl (hd 7 (by decide)) rfl ?_
  refine WR.nil (WN.seq (WC.seq ?_))
  refine WC.mix [] mixed (by kernel_rfl) ?_
  replace hd := hd.same (Same.drew _) (by simp) hlt
  replace hlt := Nat.lt_of_lt_of_le hlt (Same.drew _).size
  replace hS := hS.trans (Same.drew _) (by simp)
  refine WR.move rfl rfl ?_
  refine WR.idx rfl rfl Tryz.underlying28 sz5 (by decide) (by omega) rfl ?_
  refine WR.load rfl Tryz.underlying5 rfl (hd 0 (by decide)) rfl ?_
  (refine WR.conv rfl Tryz.underlying5 Tryz.underlying33 (wrap_u64 ?_ ?_) rfl ?_; (omega); (omega))
  refine WR.move rfl rfl ?_
  refine WR.idx rfl rfl Tryz.underlying28 sz5 (by decide) (by omega) rfl ?_
  refine WR.load rfl Tryz.underlying5 rfl (hd 1 (by decide)) rfl ?_
  (refine WR.conv rfl Tryz.underlying5 Tryz.underlying33 (wrap_u64 ?_ ?_) rfl ?_; (omega); (omega))
  (refine WR.shl rfl rfl (by decide) (shl_c (D := 256) rfl (wrap_u64 ?_ ?_)) rfl ?_; (omega); (omega))
  refine WR.bin rfl rfl (ar_or (D := 256) 8 rfl ?_ ?_ ?_ ?_) rfl ?_; (omega); (omega); (omega); (omega)
  refine WR.move rfl rfl ?_
  refine WR.idx rfl rfl Tryz.underlying28 sz5 (by decide) (by omega) rfl ?_
  refine WR.load rfl Tryz.underlying5 rfl (hd 2 (by decide)) rfl ?_
  (refine WR.conv rfl Tryz.underlying5 Tryz.underlying33 (wrap_u64 ?_ ?_) rfl ?_; (omega); (omega))
  (refine WR.shl rfl rfl (by decide) (shl_c (D := 65536) rfl (wrap_u64 ?_ ?_)) rfl ?_; (omega); (omega))
  refine WR.bin rfl rfl (ar_or (D := 65536) 16 rfl ?_ ?_ ?_ ?_) rfl ?_; (omega); (omega); (omega); (omega)
  refine WR.move rfl rfl ?_
  refine WR.idx rfl rfl Tryz.underlying28 sz5 (by decide) (by omega) rfl ?_
  refine WR.load rfl Tryz.underlying5 rfl (hd 3 (by decide)) rfl ?_
  (refine WR.conv rfl Tryz.underlying5 Tryz.underlying33 (wrap_u64 ?_ ?_) rfl ?_; (omega); (omega))
  (refine WR.shl rfl rfl (by decide) (shl_c (D := 16777216) rfl (wrap_u64 ?_ ?_)) rfl ?_; (omega); (omega))
  refine WR.bin rfl rfl (ar_or (D := 16777216) 24 rfl ?_ ?_ ?_ ?_) rfl ?_; (omega); (omega); (omega); (omega)
  refine WR.move rfl rfl ?_
  refine WR.idx rfl rfl Tryz.underlying28 sz5 (by decide) (by omega) rfl ?_
  refine WR.load rfl Tryz.underlying5 rfl (hd 4 (by decide)) rfl ?_
  (refine WR.conv rfl Tryz.underlying5 Tryz.underlying33 (wrap_u64 ?_ ?_) rfl ?_; (omega); (omega))
  (refine WR.shl rfl rfl (by decide) (shl_c (D := 4294967296) rfl (wrap_u64 ?_ ?_)) rfl ?_; (omega); (omega))
  refine WR.bin rfl rfl (ar_or (D := 4294967296) 32 rfl ?_ ?_ ?_ ?_) rfl ?_; (omega); (omega); (omega); (omega)
  refine WR.move rfl rfl ?_
  refine WR.idx rfl rfl Tryz.underlying28 sz5 (by decide) (by omega) rfl ?_
  refine WR.load rfl Tryz.underlying5 rfl (hd 5 (by decide)) rfl ?_
  (refine WR.conv rfl Tryz.underlying5 Tryz.underlying33 (wrap_u64 ?_ ?_) rfl ?_; (omega); (omega))
  (refine WR.shl rfl rfl (by decide) (shl_c (D := 1099511627776) rfl (wrap_u64 ?_ ?_)) rfl ?_; (omega); (omega))
  refine WR.bin rfl rfl (ar_or (D := 1099511627776) 40 rfl ?_ ?_ ?_ ?_) rfl ?_; (omega); (omega); (omega); (omega)
  refine WR.move rfl rfl ?_
  refine WR.idx rfl rfl Tryz.underlying28 sz5 (by decide) (by omega) rfl ?_
  refine WR.load rfl Tryz.underlying5 rfl (hd 6 (by decide)) rfl ?_
  (refine WR.conv rfl Tryz.underlying5 Tryz.underlying33 (wrap_u64 ?_ ?_) rfl ?_; (omega); (omega))
  (refine WR.shl rfl rfl (by decide) (shl_c (D := 281474976710656) rfl (wrap_u64 ?_ ?_)) rfl ?_; (omega); (omega))
  refine WR.bin rfl rfl (ar_or (D := 281474976710656) 48 rfl ?_ ?_ ?_ ?_) rfl ?_; (omega); (omega); (omega); (omega)
  refine WR.move rfl rfl ?_
  refine WR.idx rfl rfl Tryz.underlying28 sz5 (by decide) (by omega) rfl ?_
  refine WR.load rfl Tryz.underlying5 rfl (hd 7 (by decide)) rfl ?_
  (refine WR.conv rfl Tryz.underlying5 Tryz.underlying33 (wrap_u64 ?_ ?_) rfl ?_; (omega); (omega))
  (refine WR.shl rfl rfl (by decide) (shl_c (D := 72057594037927936) rfl (wrap_u64 ?_ ?_)) rfl ?_; (omega); (omega))
  refine WR.bin rfl rfl (ar_or (D := 72057594037927936) 56 rfl ?_ ?_ ?_ ?_) rfl ?_; (omega); (omega); (omega); (omega)
  refine WR.assign rfl rfl ?_
  refine WR.nil (WN.seq ?_)
  refine WC.retR rfl rfl ?_
  refine ⟨?_, hS⟩
  refine congrArg (Value.int IntKind.u64) ?_
  exact num8i e

set_option maxHeartbeats 200000 in
theorem widthOf (w : World) :
    Ret Tryz.prog 160 #[] w fun v w' => v = .int .i64 8 ∧ w' = w := by
  refine Ret.enter (vs := []) Tryz.func160 Tryz.ntmps160 rfl rfl ?_
  refine WC.seq (WC.region ?_)
  refine WR.assign rfl rfl ?_
  refine WR.nil (WN.seq ?_)
  refine WC.seq (WC.region ?_)
  refine WR.assign rfl rfl ?_
  refine WR.nil (WN.seq ?_)
  refine WC.seq (WC.seq (WC.region ?_))
  refine WR.move rfl rfl ?_
  refine WR.mkIface rfl Tryz.underlying2 rfl rfl ?_
  refine WR.nil (WN.seq ?_)
  refine WC.block (WC.seq (WC.region ?_))
  refine WR.assertV (v := .tuple #[.int .i32 0, .bool false]) rfl (fun w => by kernel_rfl) rfl rfl ?_
  refine WR.extract rfl rfl rfl ?_
  refine WR.extract rfl rfl rfl ?_
  refine WR.assertV (v := .tuple #[.float .f32 0, .bool false]) rfl (fun w => by kernel_rfl) rfl rfl ?_
  refine WR.extract rfl rfl rfl ?_
  refine WR.extract rfl rfl rfl ?_
  refine WR.pick rfl rfl rfl ?_
  refine WR.nil (WN.seq ?_)
  refine WC.cond rfl (fun h94 => ?_) (fun h94 => ?_)
  · skip
    cases h94
  · skip
    simp only at h94
    refine WC.seq (WC.region ?_)
    refine WR.assertV (v := .tuple #[.int .i64 0, .bool true]) rfl (fun w => by kernel_rfl) rfl rfl ?_
    refine WR.extract rfl rfl rfl ?_
    refine WR.extract rfl rfl rfl ?_
    refine WR.assertV (v := .tuple #[.float .f64 0, .bool false]) rfl (fun w => by kernel_rfl) rfl rfl ?_
    refine WR.extract rfl rfl rfl ?_
    refine WR.extract rfl rfl rfl ?_
    refine WR.pick rfl rfl rfl ?_
    refine WR.nil (WN.seq ?_)
    refine WC.cond rfl (fun h94 => ?_) (fun h94 => ?_)
    · skip
      simp only at h94
      refine WC.seq (WC.region ?_)
      refine WR.assign rfl rfl ?_
      refine WR.nil (WN.seq ?_)
      refine WC.retR rfl rfl ?_
      exact ⟨rfl, rfl⟩
    · skip
      cases h94

set_option maxHeartbeats 200000 in
theorem reqBytes (n : Nat) (w : World) (hn : n ≤ 1099511627776) :
    Ret Tryz.prog 158 #[.int .i64 (n : Nat)] w fun v w' => v = .int .i64 (8 * n : Nat) ∧ w' = w := by
  refine Ret.enter (vs := [.int .i64 (n : Nat)]) Tryz.func158 Tryz.ntmps158 rfl rfl ?_
  refine WC.seq (WC.region ?_)
  refine WR.assign rfl rfl ?_
  refine WR.nil (WN.seq ?_)
  refine WC.seq (WC.region ?_)
  refine WR.move rfl rfl ?_
  refine WR.callFS rfl rfl cf160 rfl rfl (widthOf _) ?_
  (refine WR.bin rfl rfl (ar_mul (z := ((8 * n : Nat) : Int)) ?_) rfl ?_; (rw [wrap_i64 (by omega) (by omega)]; omega))
  refine WR.assign rfl rfl ?_
  refine WR.nil (WN.seq ?_)
  refine WC.retR rfl rfl ?_
  exact ⟨rfl, rfl⟩

set_option maxHeartbeats 400000 in
theorem getVal {w : World} {aE aU aP : Addr} (hg : Glob w aE aU aP) (g o L dc i : Nat) (e : Nat → Nat) (hd : Rd w g o L (byt e)) (he : ∀ i, i < L → e i < 256) (hlt : g < w.heap.size) (hi : 8 * i + 8 ≤ L) (hL : L ≤ 1099511627776) (hLc : L ≤ dc) :
    Ret Tryz.prog 162 #[.slice (some ⟨g, o, none⟩) L dc, .int .i64 (i : Nat)] w fun v w' => v = .int .i64 (i8 e i) ∧ Same [] w w' := by
  have hS := Same.refl [] w
  obtain ⟨nb, hnb⟩ : ∃ x, x = w.heap.size := ⟨_, rfl⟩
  have hgs := hg.size
  refine Ret.enter (vs := [.slice (some ⟨g, o, none⟩) L dc, .int .i64 (i : Nat)]) Tryz.func162 Tryz.ntmps162 rfl rfl ?_
  refine WC.seq (WC.region ?_)
  refine WR.alloc gv_zv rfl rfl ?_
  intro w1 hn hs
  have hF : Row w1 nb 2 1 (fun i => (#[.int .i64 0] : Array Value).getD i undef) := by
    rw [hn, hnb]
    exact Row.alloc _ _ _
  rw [← hnb]
  replace hS := hS.trans hs (by simp <;> omega)
  replace hg := hg.same hs (by simp <;> omega)
  replace hd := hd.same hs (by simp <;> omega) hlt
  replace hlt := Nat.lt_of_lt_of_le hlt hs.size
  clear hn hs
  refine WR.nil (WN.seq ?_)
  refine WC.seq (WC.seq (WC.region ?_))
  refine WR.mkIface rfl Tryz.underlying237 rfl rfl ?_
  refine WR.nil (WN.seq ?_)
  refine WC.block (WC.seq (WC.region ?_))
  refine WR.assertV (v := .tuple #[.pointer none, .bool false]) rfl (fun w => by kernel_rfl) rfl rfl ?_
  refine WR.extract rfl rfl rfl ?_
  refine WR.extract rfl rfl rfl ?_
  refine WR.nil (WN.seq ?_)
  refine WC.cond rfl (fun h119 => ?_) (fun h119 => ?_)
  · skip
    cases h119
  · skip
    simp only at h119
    refine WC.seq (WC.region ?_)
    refine WR.assertV (v := .tuple #[.pointer (some ⟨nb, 0, none⟩), .bool true]) rfl (fun w => by kernel_rfl) rfl rfl ?_
    refine WR.extract rfl rfl rfl ?_
    refine WR.extract rfl rfl rfl ?_
    refine WR.nil (WN.seq ?_)
    refine WC.cond rfl (fun h119 => ?_) (fun h119 => ?_)
    · skip
      simp only at h119
      refine WC.seq (WC.region ?_)
      refine WR.assign rfl rfl ?_
      refine WR.nil (WN.seq ?_)
      refine WC.mix [] mixed (by kernel_rfl) ?_
      replace hS := hS.trans (Same.drew _) (by simp <;> omega)
      replace hg := hg.same (Same.drew _) (by simp <;> omega)
      replace hd := hd.same (Same.drew _) (by simp <;> omega) hlt
      replace hlt := Nat.lt_of_lt_of_le hlt (Same.drew _).size
      replace hF := hF.same (Same.drew _) (by simp <;> omega)
      refine WR.move rfl rfl ?_
      refine WR.loadAgg rfl Tryz.underlying183 rfl sz183 (show Rd _ _ _ 0 (fun _ => undef) from fun i hi => absurd hi (by omega)) rfl ?_
      refine WR.move rfl rfl ?_
      refine WR.move rfl rfl ?_
      (refine WR.bin rfl rfl (ar_mul (z := ((8 * i : Nat) : Int)) ?_) rfl ?_; (rw [wrap_i64 (by omega) (by omega)]; omega))
      refine WR.slice rfl Tryz.underlying28 sz5 rfl ⟨_, _, rfl, by omega, by omega, show 8 * i = Int.toNat _ by omega⟩ rfl ?_
      rw [if_neg (show ¬ dc = 8 * i by omega), Nat.mul_one]
      have hrd : Rd _ g (o + 8 * i) 8 (byt fun k => e (8 * i + k)) := fun k hk => by
        rw [Nat.add_assoc]
        exact hd (8 * i + k) (by omega)
      refine WR.callF rfl rfl cf77 rfl rfl (uint64g g (o + 8 * i) (L - 8 * i) (dc - 8 * i) (fun k => e (8 * i + k)) _ hrd (fun k hk => he _ (by omega)) hlt (by omega)) ?_
      rintro _ w2 ⟨rfl, hs⟩
      replace hS := hS.trans hs (by simp <;> omega)
      replace hg := hg.same hs (by simp <;> omega)
      replace hd := hd.same hs (by simp <;> omega) hlt
      replace hlt := Nat.lt_of_lt_of_le hlt hs.size
      replace hF := hF.same hs (by simp <;> omega)
      refine WR.conv rfl Tryz.underlying33 Tryz.underlying2 rfl rfl ?_
      refine WR.nilCheckP rfl rfl ?_
      refine WR.storeK rfl rfl rfl sz2 (hF.cell (i := 0) (by decide)) (hF.fz _) ?_
      intro w20 hn hs
      replace hF := hF.set' hn
      replace hS := hS.trans hs (by simp <;> omega)
      clear hn hs
      refine WR.nil (WN.block ?_)
      refine WN.seq (WC.seq (WC.region ?_))
      refine WR.load rfl Tryz.underlying2 rfl (show _ = some (Value.int .i64 (i8 e i)) from hF.cell (i := 0) (by decide)) rfl ?_
      refine WR.storeK rfl rfl rfl sz2 (hF.cell (i := 0) (by decide)) (hF.fz _) ?_
      intro w21 hn hs
      replace hF := hF.set' hn
      replace hS := hS.trans hs (by simp <;> omega)
      clear hn hs
      refine WR.nil (WN.seq ?_)
      refine WC.retC1 rfl rfl Tryz.underlying2 rfl (hF.cell (i := 0) (by decide)) ?_
      exact ⟨rfl, hS⟩
    · skip
      cases h119

set_option maxHeartbeats 400000 in
theorem fromBytes {w : World} {aE aU aP : Addr} (hg : Glob w aE aU aP) (g o L dc m : Nat) (e : Nat → Nat) (hd : Rd w g o L (byt e)) (he : ∀ i, i < L → e i < 256) (hlt : g < w.heap.size) (hm : L = 8 * m) (hL : L ≤ 1099511627776) (hLc : L ≤ dc) :
    Ret Tryz.prog 161 #[.slice (some ⟨g, o, none⟩) L dc] w fun v w' => ∃ nb, v = .slice (some ⟨nb, 0, none⟩) m m ∧ w.heap.size ≤ nb ∧ (∃ F, Row w' nb 2 m F ∧ ∀ j, j < m → F j = .int .i64 (i8 e j)) ∧ Same [] w w' := by
  have hS := Same.refl [] w
  have hgs := hg.size
  have hlt0 := hlt
  refine Ret.enter (vs := [.slice (some ⟨g, o, none⟩) L dc]) Tryz.func161 Tryz.ntmps161 rfl rfl ?_
  refine WC.seq (WC.region ?_)
  refine WR.assign rfl rfl ?_
  refine WR.nil (WN.seq ?_)
  refine WC.seq (WC.region ?_)
  refine WR.move rfl rfl ?_
  refine WR.lenS rfl Tryz.underlying28 rfl ?_
  refine WR.callFS rfl rfl cf158 rfl rfl (reqBytes 1 _ (by decide)) ?_
  refine WR.bin rfl rfl (ar_quo (z := ((m : Nat) : Int)) (by decide) (by rw [tdiv_pos (by omega), wrap_i64 (by omega) (by omega)]; omega)) rfl ?_
  obtain ⟨nb, hnb⟩ : ∃ x, x = w.heap.size := ⟨_, rfl⟩
  refine WR.make (n := m) rfl rfl Tryz.underlying79 mk2 rfl (by decide) (by omega) rfl rfl ?_
  rw [← hnb]
  intro w1 hM hs
  replace hS := hS.trans hs (by simp <;> omega)
  replace hg := hg.same hs (by simp <;> omega)
  replace hd := hd.same hs (by simp <;> omega) hlt
  replace hlt := Nat.lt_of_lt_of_le hlt hs.size
  clear hs
  refine WR.assign rfl rfl ?_
  refine WR.nil (WN.seq ?_)
  refine WC.seq (WC.seq (WC.region ?_))
  refine WR.move rfl rfl ?_
  refine WR.lenS rfl Tryz.underlying79 rfl ?_
  refine WR.move rfl rfl ?_
  refine WR.nil (WN.seq (WC.block ?_))
  have hnbg : g < nb := by rw [hnb]; exact hlt0
  have hq0 : ∀ j, j < 0 → (fun _ => Value.int .i64 0 : Nat → Value) j = .int .i64 (i8 e j) := fun j hj => absurd hj (Nat.not_lt_zero j)
  refine WC.loop (fun i : Nat => [(0, .slice (some ⟨g, o, none⟩) L dc), (3, .slice (some ⟨nb, 0, none⟩) m m), (11, .int .i64 (m : Nat)), (12, .int .i64 (i : Nat))]) (fun k i w' => i + k = m ∧ Same [] w w' ∧ Glob w' aE aU aP ∧ Rd w' g o L (byt e) ∧ g < w'.heap.size ∧ ∃ F, Row w' nb 2 m F ∧ ∀ j, j < i → F j = .int .i64 (i8 e j)) m 0 ⟨rfl, rfl, rfl, rfl, trivial⟩ ⟨by omega, hS, hg, hd, hlt, _, hM, hq0⟩ ?_
  clear hS hg hd hlt hM hq0
  rintro k i w2 ⟨hm2, hS, hg, hd, hlt, F, hM, hq⟩
  refine WC.seq (WC.region ?_)
  refine WR.bin rfl rfl rfl rfl ?_
  refine WR.nil (WN.seq (WC.seq ?_))
  refine WC.cond rfl (fun h199 => ?_) (fun h199 => ?_)
  · skip
    simp only [decide_eq_true_eq] at h199
    refine WC.skip (WN.seq ?_)
    refine WC.seq (WC.block ?_)
    refine WC.seq (WC.region ?_)
    refine WR.move rfl rfl ?_
    refine WR.assign rfl rfl ?_
    refine WR.nil (WN.seq (WC.region ?_))
    refine WR.move rfl rfl ?_
    refine WR.move rfl rfl ?_
    refine WR.move rfl rfl ?_
    refine WR.move rfl rfl ?_
    refine WR.callF rfl rfl cf162 rfl rfl (getVal hg g o L dc i e hd he hlt (by omega) hL hLc) ?_
    rintro _ w3 ⟨rfl, hs⟩
    replace hS := hS.trans hs (by simp <;> omega)
    replace hg := hg.same hs (by simp <;> omega)
    replace hd := hd.same hs (by simp <;> omega) hlt
    replace hlt := Nat.lt_of_lt_of_le hlt hs.size
    replace hM := hM.same hs (by simp <;> omega)
    refine WR.idx rfl rfl Tryz.underlying79 sz2 (by omega) (by omega) rfl ?_
    refine WR.storeK rfl rfl rfl sz2 (hM.cell (by omega)) (hM.fz _) ?_
    intro w4 hn hs
    replace hM := hM.set' hn
    replace hS := hS.trans hs (by simp <;> omega)
    replace hg := hg.same hs (by simp <;> omega)
    replace hd := hd.same hs (by simp <;> omega) hlt
    replace hlt := Nat.lt_of_lt_of_le hlt hs.size
    clear hn hs
    refine WR.nil (WN.block ?_)
    refine WN.seq (WC.region ?_)
    (refine WR.bin rfl rfl (ar_add (wrap_i64 ?_ ?_)) rfl ?_; (omega); (omega))
    refine WR.move rfl rfl ?_
    refine WR.nil ?_
    have hq2 : ∀ j, j < i + 1 → upd F (0 + Int.toNat ((i : Nat) : Int) * 1) (.int .i64 (i8 e i)) j = .int .i64 (i8 e j) := by
      intro j hj
      rw [Nat.mul_one, Nat.zero_add, Int.toNat_natCast]
      unfold upd
      by_cases h : j = i
      · rw [if_pos h, h]
      · rw [if_neg h]; exact hq j (by omega)
    exact WN.loop (k - 1) (i + 1) (by omega) ⟨rfl, rfl, rfl, kint rfl (by omega), trivial⟩ ⟨by omega, hS, hg, hd, hlt, _, hM, hq2⟩
  · skip
    simp only [decide_eq_false_iff_not, Int.not_lt] at h199
    obtain rfl : i = m := by omega
    refine WC.exit rfl ?_
    refine WN.seq (WC.seq (WC.region ?_))
    refine WR.move rfl rfl ?_
    refine WR.assign rfl rfl ?_
    refine WR.nil (WN.seq ?_)
    refine WC.retR rfl rfl ?_
    exact ⟨nb, rfl, by omega, ⟨F, hM, hq⟩, hS⟩

set_option maxHeartbeats 400000 in
theorem copyFrom {w : World} {aE aU aP : Addr} (hg : Glob w aE aU aP) (g o L dc m h ho hc t n : Nat) (e : Nat → Nat) (f : Nat → Value) (hd : Rd w g o L (byt e)) (he : ∀ i, i < L → e i < 256) (hlt : g < w.heap.size) (hm : L = 8 * m) (hL : L ≤ 1099511627776) (hLc : L ≤ dc) (hF : Row w h t n f) (hfit : ho + m ≤ n) :
    Ret Tryz.prog 159 #[.slice (some ⟨h, ho, none⟩) m hc, .slice (some ⟨g, o, none⟩) L dc] w fun v w' => v = .tuple #[] ∧ Row w' h t n (ovr f ho ((List.range m).map fun j => .int .i64 (i8 e j))) ∧ Same [h] w w' := by
  have hS := Same.refl [h] w
  have hhl := hF.lt
  refine Ret.enter (vs := [.slice (some ⟨h, ho, none⟩) m hc, .slice (some ⟨g, o, none⟩) L dc]) Tryz.func159 Tryz.ntmps159 rfl rfl ?_
  refine WC.region ?_
  refine WR.move rfl rfl ?_
  refine WR.move rfl rfl ?_
  refine WR.callF rfl rfl cf161 rfl rfl (fromBytes hg g o L dc m e hd he hlt hm hL hLc) ?_
  rintro _ w1 ⟨nb, rfl, hnb, ⟨F, hM, hq⟩, hs⟩
  replace hS := hS.trans hs (by simp <;> omega)
  replace hF := hF.same hs (by simp <;> omega)
  have hsrc : Rd _ nb 0 m (fun j => .int .i64 (i8 e j)) := (hM.rd 0 m (by omega)).congr (fun j hj => by rw [Nat.zero_add]; exact hq j hj)
  refine WR.copyK (k := m) rfl rfl Tryz.underlying79 sz2 (by simp [Nat.min_def]) hF hfit hsrc (fun _ _ => rfl) rfl rfl ?_
  intro w2 hn hs
  replace hF := hn
  replace hS := hS.trans hs (by simp <;> omega)
  clear hn hs
  refine WR.nil ?_
  refine WN.endR rfl rfl ?_
  exact ⟨rfl, hF, hS⟩

end Go.Proofs.YthmknddfkmklfaaGreatDoor.Vm
