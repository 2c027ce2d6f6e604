/- The reference's bytes of plain values; do values fit? -/
import Derived.Test.YthmknddfkmklfaaGreatDoorVmStr
namespace Go.Proofs.YthmknddfkmklfaaGreatDoor.Vm
open Go Mix Go.RowKit Num
set_option maxRecDepth 20000
set_option linter.unusedSimpArgs false
def emp : List UInt8 := (⟨#[]⟩ : ByteArray).toList
theorem cf26 (us : Array Value) (w : World) : (callFunc 26 us).run Tryz.prog w = .ok (.enter 26 us) w := by kernel_rfl
theorem cf29 (us : Array Value) (w : World) : (callFunc 29 us).run Tryz.prog w = .ok (.enter 29 us) w := by kernel_rfl
theorem cf30 (us : Array Value) (w : World) : (callFunc 30 us).run Tryz.prog w = .ok (.enter 30 us) w := by kernel_rfl
theorem cf38 (us : Array Value) (w : World) : (callFunc 38 us).run Tryz.prog w = .ok (.enter 38 us) w := by kernel_rfl
theorem fa32_0 (b o : Nat) (w : World) : (Instr.fieldAt 32 (.pointer (some ⟨b, o, none⟩)) 0).run Tryz.prog w = .ok (.pointer (some ⟨b, o + 0, none⟩)) w := by kernel_rfl
theorem fa32_1 (b o : Nat) (w : World) : (Instr.fieldAt 32 (.pointer (some ⟨b, o, none⟩)) 1).run Tryz.prog w = .ok (.pointer (some ⟨b, o + 1, none⟩)) w := by kernel_rfl
theorem fa32_2 (b o : Nat) (w : World) : (Instr.fieldAt 32 (.pointer (some ⟨b, o, none⟩)) 2).run Tryz.prog w = .ok (.pointer (some ⟨b, o + 2, none⟩)) w := by kernel_rfl
theorem fa35_0 (b o : Nat) (w : World) : (Instr.fieldAt 35 (.pointer (some ⟨b, o, none⟩)) 0).run Tryz.prog w = .ok (.pointer (some ⟨b, o + 0, none⟩)) w := by kernel_rfl
theorem fa35_1 (b o : Nat) (w : World) : (Instr.fieldAt 35 (.pointer (some ⟨b, o, none⟩)) 1).run Tryz.prog w = .ok (.pointer (some ⟨b, o + 1, none⟩)) w := by kernel_rfl
theorem fa35_2 (b o : Nat) (w : World) : (Instr.fieldAt 35 (.pointer (some ⟨b, o, none⟩)) 2).run Tryz.prog w = .ok (.pointer (some ⟨b, o + 2, none⟩)) w := by kernel_rfl
theorem fa35_3 (b o : Nat) (w : World) : (Instr.fieldAt 35 (.pointer (some ⟨b, o, none⟩)) 3).run Tryz.prog w = .ok (.pointer (some ⟨b, o + 3, none⟩)) w := by kernel_rfl
theorem sz32 : (Tryz.prog.info? 32).map (·.size) = some 10 := by kernel_rfl
set_option maxHeartbeats 400000 in
theorem oneBits (w : World) :
    Ret Tryz.prog 38 #[.agg tyA] w fun v w' => v = .tuple #[.int .i64 64, .bool true] ∧ Same [] w w' := by
  have hS := Same.refl [] w
  refine Ret.enter (vs := [.agg tyA]) Tryz.func38 Tryz.ntmps38 rfl rfl ?_
  refine WC.seq (WC.region ?_)
  refine WR.box rfl rfl rfl ?_
  intro w1 hn hs
  replace hS := hS.trans hs (by simp <;> omega)
  obtain ⟨bT, hbT⟩ : ∃ x, x = w.heap.size := ⟨_, rfl⟩
  have hT : TY w1 bT := by rw [hn, hbT]; exact TY.box _
  rw [← hbT]
  clear hn hs
  refine WR.assign rfl rfl ?_
  refine WR.assign rfl rfl ?_
  refine WR.nil (WN.seq ?_)
  refine WC.seq (WC.seq (WC.region ?_))
  refine WR.field rfl fa32_0 rfl ?_
  refine WR.load rfl Tryz.underlying3 rfl (show _ = some (Value.int .i64 2) from Row.cell (i := 0) hT (by decide)) rfl ?_
  refine WR.nil (WN.seq ?_)
  refine WC.block (WC.seq (WC.region ?_))
  refine WR.bin rfl rfl rfl rfl ?_
  refine WR.assign rfl rfl ?_
  refine WR.nil (WN.seq ?_)
  refine WC.cond rfl (fun h10 => ?_) (fun h10 => ?_)
  · skip
    simp only [beq_iff_eq] at h10
    refine WC.seq ?_
    refine WC.mix [] mixed (by kernel_rfl) ?_
    replace hS := hS.trans (Same.drew _) (by simp <;> omega)
    replace hT := hT.same (Same.drew _) (by simp <;> omega)
    refine WR.field rfl fa32_1 rfl ?_
    refine WR.load rfl Tryz.underlying3 rfl (show _ = some (Value.int .i64 64) from Row.cell (i := 1) hT (by decide)) rfl ?_
    refine WR.field rfl fa32_2 rfl ?_
    refine WR.load rfl Tryz.underlying4 rfl (show _ = some (Value.bool true) from Row.cell (i := 2) hT (by decide)) rfl ?_
    refine WR.assign rfl rfl ?_
    refine WR.assign rfl rfl ?_
    refine WR.nil (WN.seq ?_)
    refine WC.retR rfl rfl ?_
    exact ⟨rfl, hS⟩
  · skip
    exact absurd h10 (by decide)

set_option maxHeartbeats 400000 in
theorem plainBytes {w : World} (x : VS) (H : Nat) (hx64 : x.n < 18446744073709551616) (hH : H = w.heap.size) :
    Ret Tryz.prog 26 #[.agg tyA, .agg ((List.range 4).map (vC x)).toArray] w fun v w' => Own w' H 5 v (u8s (Rl.leb 8 x.n)) ∧ Same [] w w' := by
  have hS := Same.refl [] w
  have hw0 := Nat.le_of_eq hH
  refine Ret.enter (vs := [.agg tyA, .agg ((List.range 4).map (vC x)).toArray]) Tryz.func26 Tryz.ntmps26 rfl rfl ?_
  refine WC.seq (WC.region ?_)
  refine WR.box rfl rfl rfl ?_
  intro w1 hn hs
  replace hw0 := Nat.le_trans hw0 hs.size
  replace hS := hS.trans hs (by simp <;> omega)
  obtain ⟨bT, hbT⟩ : ∃ x, x = w.heap.size := ⟨_, rfl⟩
  have hT : TY w1 bT := by rw [hn, hbT]; exact TY.box _
  rw [← hbT]
  have hTl := hT.lt
  clear hn hs
  refine WR.box rfl rfl rfl ?_
  intro w2 hn hs
  replace hw0 := Nat.le_trans hw0 hs.size
  replace hS := hS.trans hs (by simp <;> omega)
  replace hT := hT.same hs (by first | (simp <;> omega) | (intro hm; have := hS9 _ hm; omega) | (intro g hm; have := hS9 _ hm; omega) | (intro g hm; have := hS9 _ hm; exact .inr (by omega)))
  obtain ⟨bX, hbX⟩ : ∃ x, x = w1.heap.size := ⟨_, rfl⟩
  have hX : VC w2 bX x := by rw [hn, hbX]; exact VC.box _ x
  rw [← hbX]
  have hXl := hX.lt
  clear hn hs
  refine WR.assign rfl rfl ?_
  refine WR.nil (WN.seq ?_)
  refine WC.seq (WC.region ?_)
  refine WR.loadAgg rfl Tryz.underlying32 rfl sz32 (hT.rd) rfl ?_
  rw [tyL]
  refine WR.callF rfl rfl cf38 rfl rfl (oneBits _) ?_
  rintro _ w3 ⟨rfl, hs⟩
  have hwX : H ≤ bX := by omega
  replace hw0 := Nat.le_trans hw0 hs.size
  replace hS := hS.trans hs (by simp <;> omega)
  replace hT := hT.same hs (by first | (simp <;> omega) | (intro hm; have := hS9 _ hm; omega) | (intro g hm; have := hS9 _ hm; omega) | (intro g hm; have := hS9 _ hm; exact .inr (by omega)))
  replace hX := hX.same hs (by first | (simp <;> omega) | (intro hm; have := hS9 _ hm; omega) | (intro g hm; have := hS9 _ hm; omega) | (intro g hm; have := hS9 _ hm; exact .inr (by omega)))
  refine WR.move rfl rfl ?_
  refine WR.extract rfl rfl rfl ?_
  refine WR.extract rfl rfl rfl ?_
  refine WR.assign rfl rfl ?_
  refine WR.assign rfl rfl ?_
  refine WR.nil (WN.seq ?_)
  refine WC.seq (WC.seq (WC.region ?_))
  refine WR.move rfl rfl ?_
  refine WR.bin rfl rfl rfl rfl ?_
  refine WR.nil (WN.seq ?_)
  refine WC.cond rfl (fun h10 => ?_) (fun h10 => ?_)
  · skip
    simp only [gt_iff_lt, decide_eq_true_eq] at h10
    refine WC.seq (WC.region ?_)
    refine WR.assign rfl rfl ?_
    refine WR.nil (WN.seq ?_)
    refine WC.seq (WC.seq (WC.region ?_))
    refine WR.assign rfl rfl ?_
    refine WR.nil (WN.seq (WC.block ?_))
    have hO : Own w3 H 5 (.slice none 0 0) (u8s (Rl.leb 0 x.n)) := Own.nil _ _ _
    refine WC.loop (fun s : Nat × Value => [(3, .pointer (some ⟨bX, 0, none⟩)), (5, .int .i64 64), (7, s.2), (8, .int .i64 (s.1 : Nat))]) (fun k s w' => s.1 + k = 8 ∧ H ≤ w'.heap.size ∧ Same [] w w' ∧ VC w' bX x ∧ (∀ q, s.2.ownBlock = some q → q ≠ bX) ∧ Own w' H 5 s.2 (u8s (Rl.leb s.1 x.n))) 8 (0, .slice none 0 0) ⟨rfl, rfl, rfl, rfl, trivial⟩ ⟨rfl, hw0, hS, hX, fun q h => (by cases h), hO⟩ ?_
    clear hS hw0 hX hT hO
    rintro k ⟨i, u⟩ w4 ⟨hk, hw0, hS, hX, hub, hO⟩
    simp only at hk hub hO
    refine WC.seq (WC.seq (WC.region ?_))
    refine WR.move rfl rfl ?_
    refine WR.move rfl rfl ?_
    refine WR.bin rfl rfl (ar_quo (z := 8) (by decide) rfl) rfl ?_
    refine WR.bin rfl rfl rfl rfl ?_
    refine WR.nil (WN.seq ?_)
    refine WC.cond rfl (fun h12 => ?_) (fun h12 => ?_)
    · skip
      simp only [decide_eq_true_eq] at h12
      refine WC.skip (WN.seq ?_)
      refine WC.seq (WC.block (WC.region ?_))
      refine WR.move rfl rfl ?_
      refine WR.field rfl fa35_1 rfl ?_
      refine WR.load rfl Tryz.underlying33 rfl (show _ = some (Value.int .u64 (x.n : Nat)) from hX.c1) rfl ?_
      refine WR.move rfl rfl ?_
      (refine WR.bin rfl rfl (ar_mul (z := ((8 * i : Nat) : Int)) ?_) rfl ?_; (rw [wrap_i64 (by omega) (by omega)]; omega))
      refine WR.shr rfl rfl (by omega) (z := ((x.n / 2 ^ (8 * i) : Nat) : Int)) (sp_shr (by show 8 * i ≤ 64; omega)) rfl ?_
      refine WR.conv rfl Tryz.underlying33 Tryz.underlying5 ((w8_nat (x.n / 2 ^ (8 * i))).trans (show ((x.n / 2 ^ (8 * i) % 256 : Nat) : Int) = ((bts x.n (8 * i) 8 : Nat) : Int) by unfold bts; rfl)) rfl ?_
      obtain ⟨nz, hnz⟩ : ∃ x, x = w4.heap.size := ⟨_, rfl⟩
      refine WR.buildSl (E := 5) (cs := #[.int .u8 (bts x.n (8 * i) 8 : Nat)]) rfl rfl (fun w => by kernel_rfl) rfl rfl ?_
      rw [← hnz]
      intro w5 hM hs
      replace hw0 := Nat.le_trans hw0 hs.size
      replace hS := hS.trans hs (by simp <;> omega)
      replace hX := hX.same hs (by first | (simp <;> omega) | (intro hm; have := hS9 _ hm; omega) | (intro g hm; have := hS9 _ hm; omega) | (intro g hm; have := hS9 _ hm; exact .inr (by omega)))
      replace hO := hO.keep hs (by first | (intro g hm; simp; done))
      clear hs
      have hS9 : ∀ g, g ∈ u.ownBlock.toList → H ≤ g ∧ g ≠ bX := fun g hm => ⟨(World.ownsRow.lt hO g (by simpa using hm)).1, hub g (by simpa using hm)⟩
      have hRl2 := hX.lt
      refine WR.appendF rfl hO rfl (show Ls _ 0 _ (u8s [bts x.n (8 * i) 8]) from hM.lsOne) (fun i hi => u8s_one hi) Tryz.underlying28 mk5 rfl (by decide) (by simp [u8s_length, Rl.leb_length]; omega) (by omega) rfl rfl ?_
      intro u2 w6 hn hs hfr
      replace hO := hn
      replace hw0 := Nat.le_trans hw0 hs.size
      replace hS := hS.trans hs (by first | (simp <;> omega) | (intro hm; have := hS9 _ hm; omega) | (intro g hm; have := hS9 _ hm; omega) | (intro g hm; have := hS9 _ hm; exact .inr (by omega)))
      replace hX := hX.same hs (by first | (simp <;> omega) | (intro hm; have := hS9 _ hm; omega) | (intro g hm; have := hS9 _ hm; omega) | (intro g hm; have := hS9 _ hm; exact .inr (by omega)))
      have hub3 : ∀ q, u2.ownBlock = some q → q ≠ bX := fun q h => by rcases hfr q h with h | h; exact hub q h; omega
      clear hS9
      clear hn hs
      refine WR.assign rfl rfl ?_
      refine WR.nil (WN.block ?_)
      refine WN.seq (WC.region ?_)
      refine WR.move rfl rfl ?_
      (refine WR.bin rfl rfl (ar_add (z := ((i + 1 : Nat) : Int)) ?_) rfl ?_; (rw [wrap_i64 (by omega) (by omega)]; omega))
      refine WR.assign rfl rfl ?_
      refine WR.nil ?_
      exact WN.loop (k - 1) (i + 1, u2) (by omega) ⟨rfl, rfl, rfl, kint rfl (by omega), trivial⟩ ⟨show i + 1 + (k - 1) = 8 by omega, hw0, hS, hX, hub3, by rw [leb_succ, u8s_append]; exact hO⟩
    · skip
      simp only [decide_eq_false_iff_not, Int.not_lt] at h12
      obtain rfl : i = 8 := by omega
      refine WC.exit rfl ?_
      refine WN.seq (WC.seq (WC.region ?_))
      refine WR.move rfl rfl ?_
      refine WR.assign rfl rfl ?_
      refine WR.nil (WN.seq ?_)
      refine WC.retR rfl rfl ?_
      exact ⟨hO, hS⟩
  · skip
    exact absurd h10 (by decide)

def pb (ds : List VS) : List Nat := (ds.map fun x => Rl.leb 8 x.n).flatten
theorem pb_snoc (ds : List VS) (x : VS) : pb (ds ++ [x]) = pb ds ++ Rl.leb 8 x.n := by simp [pb]
theorem pb_len (ds : List VS) : (pb ds).length = 8 * ds.length := by
  induction ds with
  | nil => rfl
  | cons x ds ih => simp only [pb, List.map_cons, List.flatten_cons, List.length_append, Rl.leb_length, List.length_cons] at ih ⊢; omega

set_option maxHeartbeats 600000 in
theorem plainly {w : World} (ds : List VS) (A : Option Addr) (n c H : Nat) (hH : H = w.heap.size) (hd : LuV w H (.slice A n c) (ds.map vC)) (hnl : n = ds.length) (hok : ∀ j, j < ds.length → (ds.getD j default).OK) (hn2 : n ≤ 1048576) :
    Ret Tryz.prog 6 #[.agg tyA, .slice A n c] w fun v w' => Own w' H 5 v (u8s (pb ds)) ∧ Same [] w w' := by
  have hS := Same.refl [] w
  have hw0 := Nat.le_of_eq hH
  refine Ret.enter (vs := [.agg tyA, .slice A n c]) Tryz.func6 Tryz.ntmps6 rfl rfl ?_
  refine WC.seq (WC.region ?_)
  refine WR.box rfl rfl rfl ?_
  intro w1 hn hs
  replace hw0 := Nat.le_trans hw0 hs.size
  replace hS := hS.trans hs (by simp <;> omega)
  replace hd := hd.same hs (by simp <;> omega)
  obtain ⟨bT, hbT⟩ : ∃ x, x = w.heap.size := ⟨_, rfl⟩
  have hT : TY w1 bT := by rw [hn, hbT]; exact TY.box _
  rw [← hbT]
  clear hn hs
  refine WR.assign rfl rfl ?_
  refine WR.nil (WN.seq ?_)
  refine WC.seq (WC.region ?_)
  refine WR.assign rfl rfl ?_
  refine WR.nil (WN.seq ?_)
  refine WC.seq (WC.seq (WC.region ?_))
  refine WR.move rfl rfl ?_
  refine WR.lenS rfl Tryz.underlying22 rfl ?_
  refine WR.move rfl rfl ?_
  refine WR.nil (WN.seq (WC.block ?_))
  have hO : Own w1 H 5 (.slice none 0 0) (u8s (pb (ds.take 0))) := Own.nil _ _ _
  have hwT : H ≤ bT := by omega
  refine WC.loop (fun s : Nat × Value => [(2, .pointer (some ⟨bT, 0, none⟩)), (5, s.2), (8, .slice A n c), (9, .int .i64 (n : Nat)), (10, .int .i64 (s.1 : Nat))]) (fun k s w' => s.1 + k = n ∧ H ≤ w'.heap.size ∧ Same [] w w' ∧ LuV w' H (.slice A n c) (ds.map vC) ∧ TY w' bT ∧ (∀ q, s.2.ownBlock = some q → q ≠ bT) ∧ Own w' H 5 s.2 (u8s (pb (ds.take s.1)))) n (0, .slice none 0 0) ⟨rfl, rfl, rfl, rfl, rfl, trivial⟩ ⟨by simp, hw0, hS, hd, hT, fun q h => (by cases h), hO⟩ ?_
  clear hS hw0 hd hT hO
  rintro k ⟨i, u⟩ w2 ⟨hk, hw0, hS, hd, hT, hub, hO⟩
  simp only at hk hub hO
  rcases (show i < n ∨ i = n by omega) with hi | rfl
  · skip
    obtain ⟨g, o, rfl, -, hgH, hgl, hcs⟩ := hd.lit (by simp; omega)
    have hci := hcs i (by simp; omega)
    rw [getD_map (by omega)] at hci
    have hxo := hok i (by omega)
    clear hcs
    obtain ⟨x, hx⟩ : ∃ x, x = ds.getD i default := ⟨_, rfl⟩
    rw [← hx] at hci hxo
    refine WC.seq (WC.region ?_)
    refine WR.bin rfl rfl rfl rfl ?_
    refine WR.nil (WN.seq (WC.seq ?_))
    refine WC.cond rfl (fun h27 => ?_) (fun h27 => ?_)
    · skip
      simp only [decide_eq_true_eq] at h27
      refine WC.skip (WN.seq ?_)
      refine WC.seq (WC.block ?_)
      refine WC.seq (WC.region ?_)
      refine WR.idx rfl rfl Tryz.underlying22 sz35 (by omega) (by omega) rfl ?_
      refine WR.loadAgg rfl Tryz.underlying35 rfl sz35 (show Rd _ g (o + Int.toNat ((i : Nat) : Int) * 4) 4 (vC x) from hci) rfl ?_
      refine WR.alloc vv_zv rfl rfl ?_
      intro w3 hn hs
      obtain ⟨bV, hbV⟩ : ∃ x, x = w2.heap.size := ⟨_, rfl⟩
      have hV0 : Row w3 bV 35 4 (fun i => (#[.bool false, .int .u64 0, .string ⟨#[]⟩, .slice none 0 0] : Array Value).getD i undef) := by
        rw [hn, hbV]
        exact Row.alloc _ _ _
      rw [← hbV]
      have hwV := hw0
      rw [← hbV] at hwV
      have hTV := hT.lt
      rw [← hbV] at hTV
      have hubV := fun (q : Nat) (h : u.ownBlock = some q) => (World.ownsRow.lt hO q h).2
      rw [← hbV] at hubV
      replace hw0 := Nat.le_trans hw0 hs.size
      replace hS := hS.trans hs (by simp <;> omega)
      replace hd := hd.same hs (by simp <;> omega)
      replace hT := hT.same hs (by first | (simp <;> omega) | (intro hm; have := hS9 _ hm; omega) | (intro g hm; have := hS9 _ hm; omega) | (intro g hm; have := hS9 _ hm; exact .inr (by omega)))
      replace hO := hO.keep hs (by first | (intro g hm; simp; done) | (intro g hm; have := hub g hm; simp <;> omega))
      clear hn hs
      refine WR.storeAgg (n := 4) rfl rfl sz35 rfl (agg_one fun i hi => vC_one _ hi) hV0 (by decide) ?_
      intro w4 hn hs
      have hV : VC w4 bV _ := hn.congr fun i hi => ovr_range hi
      replace hw0 := Nat.le_trans hw0 hs.size
      replace hS := hS.trans hs (by simp <;> omega)
      replace hd := hd.same hs (by simp <;> omega)
      replace hT := hT.same hs (by simp <;> omega)
      replace hO := hO.keep hs (fun g hm => by have := hubV g hm; simp <;> omega)
      clear hn hs hV0
      refine WR.nil (WN.seq (WC.region ?_))
      refine WR.move rfl rfl ?_
      refine WR.loadAgg rfl Tryz.underlying32 rfl sz32 hT.rd rfl ?_
      refine WR.loadAgg rfl Tryz.underlying35 rfl sz35 hV.rd rfl ?_
      rw [tyL]
      refine WR.callF rfl rfl cf26 rfl rfl (plainBytes x _ hxo.lt rfl) ?_
      rintro vv w5 ⟨hB, hs⟩
      replace hw0 := Nat.le_trans hw0 hs.size
      replace hS := hS.trans hs (by simp <;> omega)
      replace hd := hd.same hs (by simp <;> omega)
      replace hT := hT.same hs (by first | (simp <;> omega) | (intro hm; have := hS9 _ hm; omega) | (intro g hm; have := hS9 _ hm; omega) | (intro g hm; have := hS9 _ hm; exact .inr (by omega)))
      replace hV := hV.same hs (by first | (simp <;> omega) | (intro hm; have := hS9 _ hm; omega) | (intro g hm; have := hS9 _ hm; omega) | (intro g hm; have := hS9 _ hm; exact .inr (by omega)))
      replace hO := hO.keep hs (by first | (intro g hm; simp; done) | (intro g hm; have := hub g hm; simp <;> omega))
      have hS9 : ∀ g, g ∈ u.ownBlock.toList → H ≤ g ∧ g ≠ bT := fun g hm => ⟨(World.ownsRow.lt hO g (by simpa using hm)).1, hub g (by simpa using hm)⟩
      have hTl2 := hT.lt
      refine WR.appendF rfl hO rfl hB.ls (fun i hi => u8s_one hi) Tryz.underlying28 mk5 rfl (by decide) (by simp [u8s_length, Rl.leb_length, pb_len]; omega) (by omega) rfl rfl ?_
      intro u2 w6 hn hs hfr
      replace hO := hn
      replace hw0 := Nat.le_trans hw0 hs.size
      replace hS := hS.trans hs (by first | (simp <;> omega) | (intro hm; have := hS9 _ hm; omega) | (intro g hm; have := hS9 _ hm; omega) | (intro g hm; have := hS9 _ hm; exact .inr (by omega)))
      replace hd := hd.same hs (by first | (simp <;> omega) | (intro hm; have := hS9 _ hm; omega) | (intro g hm; have := hS9 _ hm; omega) | (intro g hm; have := hS9 _ hm; exact .inr (by omega)))
      replace hT := hT.same hs (by first | (simp <;> omega) | (intro hm; have := hS9 _ hm; omega) | (intro g hm; have := hS9 _ hm; omega) | (intro g hm; have := hS9 _ hm; exact .inr (by omega)))
      have hub3 : ∀ q, u2.ownBlock = some q → q ≠ bT := fun q h => by rcases hfr q h with h | h; exact hub q h; omega
      clear hS9
      clear hn hs
      refine WR.assign rfl rfl ?_
      refine WR.nil (WN.block ?_)
      refine WN.seq (WC.region ?_)
      (refine WR.bin rfl rfl (ar_add (wrap_i64 ?_ ?_)) rfl ?_; (omega); (omega))
      refine WR.move rfl rfl ?_
      refine WR.nil ?_
      exact WN.loop (k - 1) (i + 1, u2) (by omega) ⟨rfl, rfl, rfl, rfl, kint rfl (by omega), trivial⟩ ⟨show i + 1 + (k - 1) = n by omega, hw0, hS, hd, hT, hub3, by rw [take_snocR (d := default) (by omega), ← hx, pb_snoc, u8s_append]; exact hO⟩
    · skip
      simp only [decide_eq_false_iff_not, Int.not_lt] at h27
      omega
  · skip
    refine WC.seq (WC.region ?_)
    refine WR.bin rfl rfl rfl rfl ?_
    refine WR.nil (WN.seq (WC.seq ?_))
    refine WC.cond rfl (fun h27 => ?_) (fun h27 => ?_)
    · skip
      simp only [decide_eq_true_eq] at h27
      omega
    · skip
      simp only [decide_eq_false_iff_not, Int.not_lt] at h27
      refine WC.exit rfl ?_
      refine WN.seq (WC.seq (WC.region ?_))
      refine WR.move rfl rfl ?_
      refine WR.assign rfl rfl ?_
      refine WR.nil (WN.seq ?_)
      refine WC.retR rfl rfl ?_
      rw [hnl, List.take_length] at hO
      exact ⟨hO, hS⟩

set_option maxHeartbeats 200000 in
theorem oneFitsK {w : World} (x : VS) (hk : 0 < x.k) :
    Ret Tryz.prog 29 #[.agg tyA, .agg ((List.range 4).map (vC x)).toArray] w fun v w' => v = .bool false ∧ Same [] w w' := by
  have hS := Same.refl [] w
  refine Ret.enter (vs := [.agg tyA, .agg ((List.range 4).map (vC x)).toArray]) Tryz.func29 Tryz.ntmps29 rfl rfl ?_
  refine WC.seq (WC.region ?_)
  refine WR.box rfl rfl rfl ?_
  intro w1 hn hs
  replace hS := hS.trans hs (by simp <;> omega)
  obtain ⟨bT, hbT⟩ : ∃ x, x = w.heap.size := ⟨_, rfl⟩
  have hT : TY w1 bT := by rw [hn, hbT]; exact TY.box _
  rw [← hbT]
  clear hn hs
  refine WR.box rfl rfl rfl ?_
  intro w2 hn hs
  replace hS := hS.trans hs (by simp <;> omega)
  replace hT := hT.same hs (by simp <;> omega)
  obtain ⟨bX, hbX⟩ : ∃ x, x = w1.heap.size := ⟨_, rfl⟩
  have hX : VC w2 bX x := by rw [hn, hbX]; exact VC.box _ x
  rw [← hbX]
  have hXl := hX.lt
  clear hn hs
  refine WR.assign rfl rfl ?_
  refine WR.nil (WN.seq ?_)
  refine WC.seq (WC.seq (WC.region ?_))
  refine WR.field rfl fa35_3 rfl ?_
  refine WR.load rfl Tryz.underlying22 rfl hX.c3 rfl ?_
  refine WR.lenS rfl Tryz.underlying22 rfl ?_
  refine WR.bin rfl rfl rfl rfl ?_
  refine WR.move rfl rfl ?_
  refine WR.pass rfl rfl rfl (by first | rfl | assumption | (simp only [Bool.not_true, Bool.not_false, decide_eq_true_eq, decide_eq_false_iff_not, beq_iff_eq, bne_iff_ne, beq_eq_false_iff_ne, bne_eq_false_iff_eq, gt_iff_lt, ge_iff_le]; omega) | simp_all) ?_
  refine WR.pass rfl rfl rfl (by first | rfl | assumption | (simp only [Bool.not_true, Bool.not_false, decide_eq_true_eq, decide_eq_false_iff_not, beq_iff_eq, bne_iff_ne, beq_eq_false_iff_ne, bne_eq_false_iff_eq, gt_iff_lt, ge_iff_le]; omega) | simp_all) ?_
  refine WR.pass rfl rfl rfl (by first | rfl | assumption | (simp only [Bool.not_true, Bool.not_false, decide_eq_true_eq, decide_eq_false_iff_not, beq_iff_eq, bne_iff_ne, beq_eq_false_iff_ne, bne_eq_false_iff_eq, gt_iff_lt, ge_iff_le]; omega) | simp_all) ?_
  refine WR.passU rfl rfl rfl ?_
  refine WR.passU rfl rfl rfl ?_
  refine WR.passU rfl rfl rfl ?_
  refine WR.passU rfl rfl rfl ?_
  refine WR.passU rfl rfl rfl ?_
  refine WR.passU rfl rfl rfl ?_
  refine WR.passU rfl rfl rfl ?_
  refine WR.passU rfl rfl rfl ?_
  refine WR.pass rfl rfl rfl (by first | rfl | assumption | (simp only [Bool.not_true, Bool.not_false, decide_eq_true_eq, decide_eq_false_iff_not, beq_iff_eq, bne_iff_ne, beq_eq_false_iff_ne, bne_eq_false_iff_eq, gt_iff_lt, ge_iff_le]; omega) | simp_all) ?_
  refine WR.pickT rfl (by first | rfl | assumption | (simp only [Bool.not_true, Bool.not_false, decide_eq_true_eq, decide_eq_false_iff_not, beq_iff_eq, bne_iff_ne, beq_eq_false_iff_ne, bne_eq_false_iff_eq, gt_iff_lt, ge_iff_le]; omega) | simp_all) rfl rfl ?_
  refine WR.nil (WN.seq ?_)
  refine WC.cond rfl (fun h46 => ?_) (fun h46 => ?_)
  · skip
    simp only at h46
    refine WC.seq (WC.region ?_)
    refine WR.assign rfl rfl ?_
    refine WR.nil (WN.seq ?_)
    refine WC.retR rfl rfl ?_
    exact ⟨rfl, hS⟩
  · skip
    cases h46

set_option maxHeartbeats 400000 in
theorem oneFits0 {w : World} (x : VS) (hk : x.k = 0) (hb : x.b = false) :
    Ret Tryz.prog 29 #[.agg tyA, .agg ((List.range 4).map (vC x)).toArray] w fun v w' => ∃ b, v = .bool b ∧ (b = true → x.s.toList = emp) ∧ Same [] w w' := by
  have hS := Same.refl [] w
  refine Ret.enter (vs := [.agg tyA, .agg ((List.range 4).map (vC x)).toArray]) Tryz.func29 Tryz.ntmps29 rfl rfl ?_
  refine WC.seq (WC.region ?_)
  refine WR.box rfl rfl rfl ?_
  intro w1 hn hs
  replace hS := hS.trans hs (by simp <;> omega)
  obtain ⟨bT, hbT⟩ : ∃ x, x = w.heap.size := ⟨_, rfl⟩
  have hT : TY w1 bT := by rw [hn, hbT]; exact TY.box _
  rw [← hbT]
  clear hn hs
  refine WR.box rfl rfl rfl ?_
  intro w2 hn hs
  replace hS := hS.trans hs (by simp <;> omega)
  replace hT := hT.same hs (by simp <;> omega)
  obtain ⟨bX, hbX⟩ : ∃ x, x = w1.heap.size := ⟨_, rfl⟩
  have hX : VC w2 bX x := by rw [hn, hbX]; exact VC.box _ x
  rw [← hbX]
  have hXl := hX.lt
  clear hn hs
  refine WR.assign rfl rfl ?_
  refine WR.nil (WN.seq ?_)
  refine WC.seq (WC.seq (WC.region ?_))
  refine WR.field rfl fa35_3 rfl ?_
  refine WR.load rfl Tryz.underlying22 rfl hX.c3 rfl ?_
  refine WR.lenS rfl Tryz.underlying22 rfl ?_
  refine WR.bin rfl rfl rfl rfl ?_
  refine WR.move rfl rfl ?_
  refine WR.take rfl rfl (by first | rfl | assumption | (simp only [Bool.not_true, Bool.not_false, decide_eq_true_eq, decide_eq_false_iff_not, beq_iff_eq, bne_iff_ne, beq_eq_false_iff_ne, bne_eq_false_iff_eq, gt_iff_lt, ge_iff_le]; omega) | simp_all) ?_
  refine WR.field rfl fa35_0 rfl ?_
  refine WR.take rfl rfl (by first | rfl | assumption | (simp only [Bool.not_true, Bool.not_false, decide_eq_true_eq, decide_eq_false_iff_not, beq_iff_eq, bne_iff_ne, beq_eq_false_iff_ne, bne_eq_false_iff_eq, gt_iff_lt, ge_iff_le]; omega) | simp_all) ?_
  refine WR.load rfl Tryz.underlying4 rfl (show _ = some (Value.bool false) from hX.c0.trans (by rw [hb])) rfl ?_
  refine WR.take rfl rfl (by first | rfl | assumption | (simp only [Bool.not_true, Bool.not_false, decide_eq_true_eq, decide_eq_false_iff_not, beq_iff_eq, bne_iff_ne, beq_eq_false_iff_ne, bne_eq_false_iff_eq, gt_iff_lt, ge_iff_le]; omega) | simp_all) ?_
  refine WR.move rfl rfl ?_
  refine WR.pass rfl rfl rfl rfl ?_
  refine WR.pass rfl rfl rfl rfl ?_
  refine WR.pass rfl rfl rfl rfl ?_
  refine WR.pass rfl rfl rfl rfl ?_
  refine WR.passU rfl rfl rfl ?_
  refine WR.passU rfl rfl rfl ?_
  refine WR.passU rfl rfl rfl ?_
  refine WR.pass rfl rfl rfl rfl ?_
  refine WR.take rfl rfl (by first | rfl | assumption | (simp only [Bool.not_true, Bool.not_false, decide_eq_true_eq, decide_eq_false_iff_not, beq_iff_eq, bne_iff_ne, beq_eq_false_iff_ne, bne_eq_false_iff_eq, gt_iff_lt, ge_iff_le]; omega) | simp_all) ?_
  refine WR.pickF rfl rfl rfl rfl ?_
  refine WR.pickF rfl (by first | rfl | assumption | (simp only [Bool.not_true, Bool.not_false, decide_eq_true_eq, decide_eq_false_iff_not, beq_iff_eq, bne_iff_ne, beq_eq_false_iff_ne, bne_eq_false_iff_eq, gt_iff_lt, ge_iff_le]; omega) | simp_all) rfl rfl ?_
  refine WR.nil (WN.seq ?_)
  refine WC.cond rfl (fun h46 => ?_) (fun h46 => ?_)
  · skip
    cases h46
  · skip
    simp only at h46
    refine WC.skip (WN.seq ?_)
    refine WC.seq (WC.seq (WC.region ?_))
    refine WR.field rfl fa35_0 rfl ?_
    refine WR.load rfl Tryz.underlying4 rfl (show _ = some (Value.bool false) from hX.c0.trans (by rw [hb])) rfl ?_
    refine WR.nil (WN.seq ?_)
    refine WC.cond rfl (fun h49 => ?_) (fun h49 => ?_)
    · skip
      cases h49
    · skip
      simp only at h49
      refine WC.skip (WN.seq ?_)
      refine WC.seq (WC.region ?_)
      refine WR.loadAgg rfl Tryz.underlying32 rfl sz32 hT.rd rfl ?_
      rw [tyL]
      refine WR.callF rfl rfl cf38 rfl rfl (oneBits _) ?_
      rintro _ w3 ⟨rfl, hs⟩
      replace hS := hS.trans hs (by simp <;> omega)
      replace hT := hT.same hs (by simp <;> omega)
      replace hX := hX.same hs (by simp <;> omega)
      refine WR.move rfl rfl ?_
      refine WR.extract rfl rfl rfl ?_
      refine WR.extract rfl rfl rfl ?_
      refine WR.assign rfl rfl ?_
      refine WR.assign rfl rfl ?_
      refine WR.nil (WN.seq ?_)
      refine WC.seq (WC.seq (WC.region ?_))
      refine WR.move rfl rfl ?_
      refine WR.bin rfl rfl rfl rfl ?_
      refine WR.nil (WN.seq ?_)
      refine WC.cond rfl (fun h53 => ?_) (fun h53 => ?_)
      · skip
        exact absurd h53 (by decide)
      · skip
        simp only [beq_eq_false_iff_ne, ne_eq] at h53
        refine WC.skip (WN.seq ?_)
        refine WC.seq (WC.seq (WC.region ?_))
        refine WR.field rfl fa35_2 rfl ?_
        refine WR.load rfl Tryz.underlying9 rfl hX.c2 rfl ?_
        refine WR.neqS rfl rfl rfl ?_
        refine WR.nil (WN.seq ?_)
        refine WC.cond rfl (fun h57 => ?_) (fun h57 => ?_)
        · skip
          refine WC.seq (WC.region ?_)
          refine WR.assign rfl rfl ?_
          refine WR.nil (WN.seq ?_)
          refine WC.retR rfl rfl ?_
          exact ⟨_, rfl, fun h => (by cases h), hS⟩
        · skip
          have hst : x.s.toList = emp := by simpa [emp] using h57
          refine WC.skip (WN.seq ?_)
          refine WC.seq (WC.seq (WC.region ?_))
          refine WR.move rfl rfl ?_
          refine WR.nil (WN.seq ?_)
          refine WC.cond rfl (fun h60 => ?_) (fun h60 => ?_)
          · skip
            simp only at h60
            refine WC.seq ?_
            refine WC.mix [] mixed (by kernel_rfl) ?_
            replace hS := hS.trans (Same.drew _) (by simp <;> omega)
            replace hT := hT.same (Same.drew _) (by simp <;> omega)
            replace hX := hX.same (Same.drew _) (by simp <;> omega)
            refine WR.field rfl fa35_1 rfl ?_
            refine WR.load rfl Tryz.underlying33 rfl hX.c1 rfl ?_
            refine WR.move rfl rfl ?_
            (refine WR.bin rfl rfl (ar_sub (wrap_i64 ?_ ?_)) rfl ?_; (omega); (omega))
            refine WR.shl rfl rfl (by omega) rfl rfl ?_
            first
              | (refine WR.conv rfl Tryz.underlying33 Tryz.underlying2 (wrap_i64 ?_ ?_) rfl ?_; (omega); (omega))
              | refine WR.conv rfl Tryz.underlying33 Tryz.underlying2 rfl rfl ?_
            refine WR.move rfl rfl ?_
            (refine WR.bin rfl rfl (ar_sub (wrap_i64 ?_ ?_)) rfl ?_; (omega); (omega))
            refine WR.shr rfl rfl (by omega) rfl rfl ?_
            first
              | (refine WR.conv rfl Tryz.underlying2 Tryz.underlying33 (wrap_u64 ?_ ?_) rfl ?_; (omega); (omega))
              | refine WR.conv rfl Tryz.underlying2 Tryz.underlying33 rfl rfl ?_
            refine WR.field rfl fa35_1 rfl ?_
            refine WR.load rfl Tryz.underlying33 rfl hX.c1 rfl ?_
            refine WR.bin rfl rfl rfl rfl ?_
            refine WR.assign rfl rfl ?_
            refine WR.nil (WN.seq ?_)
            refine WC.retR rfl rfl ?_
            exact ⟨_, rfl, fun _ => hst, hS⟩
          · skip
            exact absurd h60 (by simp)

set_option maxHeartbeats 600000 in
theorem plainAll {w : World} (ds : List VS) (A : Option Addr) (n c H : Nat) (hH : H = w.heap.size) (hd : LuV w H (.slice A n c) (ds.map vC)) (hnl : n = ds.length) (hok : ∀ j, j < ds.length → (ds.getD j default).OK) (hn2 : n ≤ 9223372036854775807) :
    Ret Tryz.prog 10 #[.agg tyA, .slice A n c] w fun v w' => ∃ b, v = .bool b ∧ (b = true → ∀ j, j < ds.length → (ds.getD j default).b = false ∧ (ds.getD j default).k = 0 ∧ (ds.getD j default).s.toList = emp) ∧ Same [] w w' := by
  have hS := Same.refl [] w
  have hw0 := Nat.le_of_eq hH
  refine Ret.enter (vs := [.agg tyA, .slice A n c]) Tryz.func10 Tryz.ntmps10 rfl rfl ?_
  refine WC.seq (WC.region ?_)
  refine WR.box rfl rfl rfl ?_
  intro w1 hn hs
  replace hw0 := Nat.le_trans hw0 hs.size
  replace hS := hS.trans hs (by simp <;> omega)
  replace hd := hd.same hs (by simp <;> omega)
  obtain ⟨bT, hbT⟩ : ∃ x, x = w.heap.size := ⟨_, rfl⟩
  have hT : TY w1 bT := by rw [hn, hbT]; exact TY.box _
  rw [← hbT]
  clear hn hs
  refine WR.assign rfl rfl ?_
  refine WR.nil (WN.seq ?_)
  refine WC.seq (WC.seq (WC.region ?_))
  refine WR.move rfl rfl ?_
  refine WR.lenS rfl Tryz.underlying22 rfl ?_
  refine WR.move rfl rfl ?_
  refine WR.nil (WN.seq (WC.block ?_))
  have hwT : H ≤ bT := by omega
  refine WC.loop (fun i : Nat => [(1, .slice A n c), (2, .pointer (some ⟨bT, 0, none⟩)), (7, .slice A n c), (8, .int .i64 (n : Nat)), (9, .int .i64 (i : Nat))]) (fun k i w' => i + k = n ∧ H ≤ w'.heap.size ∧ Same [] w w' ∧ LuV w' H (.slice A n c) (ds.map vC) ∧ TY w' bT ∧ ∀ j, j < i → (ds.getD j default).b = false ∧ (ds.getD j default).k = 0 ∧ (ds.getD j default).s.toList = emp) n 0 ⟨rfl, rfl, rfl, rfl, rfl, trivial⟩ ⟨by omega, hw0, hS, hd, hT, fun j h => absurd h (Nat.not_lt_zero j)⟩ ?_
  clear hS hw0 hd hT
  rintro k i w2 ⟨hk, hw0, hS, hd, hT, hall⟩
  rcases (show i = n ∨ i < n ∧ ((ds.getD i default).b = true ∨ (ds.getD i default).b = false ∧ (0 < (ds.getD i default).k ∨ (ds.getD i default).k = 0)) by cases (ds.getD i default).b <;> simp <;> omega) with rfl | ⟨hi, hc | ⟨hc, hc2 | hc2⟩⟩
  · skip
    refine WC.seq (WC.region ?_)
    refine WR.bin rfl rfl rfl rfl ?_
    refine WR.nil (WN.seq (WC.seq ?_))
    refine WC.cond rfl (fun h35 => ?_) (fun h35 => ?_)
    · skip
      simp only [decide_eq_true_eq] at h35
      omega
    · skip
      simp only [decide_eq_false_iff_not, Int.not_lt] at h35
      refine WC.exit rfl ?_
      refine WN.seq (WC.seq (WC.region ?_))
      refine WR.move rfl rfl ?_
      refine WR.lenS rfl Tryz.underlying22 rfl ?_
      refine WR.bin rfl rfl rfl rfl ?_
      refine WR.assign rfl rfl ?_
      refine WR.nil (WN.seq ?_)
      refine WC.retR rfl rfl ?_
      exact ⟨_, rfl, fun _ j hj => hall j (by omega), hS⟩
  · skip
    obtain ⟨g, o, rfl, -, hgH, hgl, hcs⟩ := hd.lit (by simp; omega)
    have hci := hcs i (by simp; omega)
    rw [getD_map (by omega)] at hci
    have hxo := hok i (by omega)
    clear hcs
    obtain ⟨x, hx⟩ : ∃ x, x = ds.getD i default := ⟨_, rfl⟩
    rw [← hx] at hci hxo
    rw [← hx] at hc
    refine WC.seq (WC.region ?_)
    refine WR.bin rfl rfl rfl rfl ?_
    refine WR.nil (WN.seq (WC.seq ?_))
    refine WC.cond rfl (fun h35 => ?_) (fun h35 => ?_)
    · skip
      simp only [decide_eq_true_eq] at h35
      refine WC.skip (WN.seq ?_)
      refine WC.seq (WC.block ?_)
      refine WC.seq (WC.region ?_)
      refine WR.idx rfl rfl Tryz.underlying22 sz35 (by omega) (by omega) rfl ?_
      refine WR.loadAgg rfl Tryz.underlying35 rfl sz35 (show Rd _ g (o + Int.toNat ((i : Nat) : Int) * 4) 4 (vC x) from hci) rfl ?_
      refine WR.alloc vv_zv rfl rfl ?_
      intro w3 hn hs
      obtain ⟨bV, hbV⟩ : ∃ x, x = w2.heap.size := ⟨_, rfl⟩
      have hV0 : Row w3 bV 35 4 (fun i => (#[.bool false, .int .u64 0, .string ⟨#[]⟩, .slice none 0 0] : Array Value).getD i undef) := by
        rw [hn, hbV]
        exact Row.alloc _ _ _
      rw [← hbV]
      have hwV := hw0
      rw [← hbV] at hwV
      have hTV := hT.lt
      rw [← hbV] at hTV
      replace hw0 := Nat.le_trans hw0 hs.size
      replace hS := hS.trans hs (by simp <;> omega)
      replace hd := hd.same hs (by simp <;> omega)
      replace hT := hT.same hs (by first | (simp <;> omega) | (intro hm; have := hS9 _ hm; omega) | (intro g hm; have := hS9 _ hm; omega) | (intro g hm; have := hS9 _ hm; exact .inr (by omega)))
      clear hn hs
      refine WR.storeAgg (n := 4) rfl rfl sz35 rfl (agg_one fun i hi => vC_one _ hi) hV0 (by decide) ?_
      intro w4 hn hs
      have hV : VC w4 bV _ := hn.congr fun i hi => ovr_range hi
      replace hw0 := Nat.le_trans hw0 hs.size
      replace hS := hS.trans hs (by simp <;> omega)
      replace hd := hd.same hs (by simp <;> omega)
      replace hT := hT.same hs (by simp <;> omega)
      clear hn hs hV0
      refine WR.nil (WN.seq ?_)
      refine WC.seq (WC.region ?_)
      refine WR.field rfl fa35_0 rfl ?_
      refine WR.load rfl Tryz.underlying4 rfl (show _ = some (Value.bool true) from hV.c0.trans (by rw [hc])) rfl ?_
      refine WR.move rfl rfl ?_
      refine WR.pass rfl rfl rfl rfl ?_
      refine WR.pass rfl rfl rfl rfl ?_
      refine WR.pass rfl rfl rfl rfl ?_
      refine WR.pass rfl rfl rfl rfl ?_
      refine WR.pickT rfl rfl rfl rfl ?_
      refine WR.nil (WN.seq ?_)
      refine WC.cond rfl (fun h36 => ?_) (fun h36 => ?_)
      · skip
        simp only at h36
        refine WC.seq (WC.region ?_)
        refine WR.assign rfl rfl ?_
        refine WR.nil (WN.seq ?_)
        refine WC.retR rfl rfl ?_
        exact ⟨false, rfl, (fun h => by cases h), hS⟩
      · skip
        cases h36
    · skip
      simp only [decide_eq_false_iff_not, Int.not_lt] at h35
      omega
  · skip
    obtain ⟨g, o, rfl, -, hgH, hgl, hcs⟩ := hd.lit (by simp; omega)
    have hci := hcs i (by simp; omega)
    rw [getD_map (by omega)] at hci
    have hxo := hok i (by omega)
    clear hcs
    obtain ⟨x, hx⟩ : ∃ x, x = ds.getD i default := ⟨_, rfl⟩
    rw [← hx] at hci hxo
    rw [← hx] at hc hc2
    refine WC.seq (WC.region ?_)
    refine WR.bin rfl rfl rfl rfl ?_
    refine WR.nil (WN.seq (WC.seq ?_))
    refine WC.cond rfl (fun h35 => ?_) (fun h35 => ?_)
    · skip
      simp only [decide_eq_true_eq] at h35
      refine WC.skip (WN.seq ?_)
      refine WC.seq (WC.block ?_)
      refine WC.seq (WC.region ?_)
      refine WR.idx rfl rfl Tryz.underlying22 sz35 (by omega) (by omega) rfl ?_
      refine WR.loadAgg rfl Tryz.underlying35 rfl sz35 (show Rd _ g (o + Int.toNat ((i : Nat) : Int) * 4) 4 (vC x) from hci) rfl ?_
      refine WR.alloc vv_zv rfl rfl ?_
      intro w3 hn hs
      obtain ⟨bV, hbV⟩ : ∃ x, x = w2.heap.size := ⟨_, rfl⟩
      have hV0 : Row w3 bV 35 4 (fun i => (#[.bool false, .int .u64 0, .string ⟨#[]⟩, .slice none 0 0] : Array Value).getD i undef) := by
        rw [hn, hbV]
        exact Row.alloc _ _ _
      rw [← hbV]
      have hwV := hw0
      rw [← hbV] at hwV
      have hTV := hT.lt
      rw [← hbV] at hTV
      replace hw0 := Nat.le_trans hw0 hs.size
      replace hS := hS.trans hs (by simp <;> omega)
      replace hd := hd.same hs (by simp <;> omega)
      replace hT := hT.same hs (by first | (simp <;> omega) | (intro hm; have := hS9 _ hm; omega) | (intro g hm; have := hS9 _ hm; omega) | (intro g hm; have := hS9 _ hm; exact .inr (by omega)))
      clear hn hs
      refine WR.storeAgg (n := 4) rfl rfl sz35 rfl (agg_one fun i hi => vC_one _ hi) hV0 (by decide) ?_
      intro w4 hn hs
      have hV : VC w4 bV _ := hn.congr fun i hi => ovr_range hi
      replace hw0 := Nat.le_trans hw0 hs.size
      replace hS := hS.trans hs (by simp <;> omega)
      replace hd := hd.same hs (by simp <;> omega)
      replace hT := hT.same hs (by simp <;> omega)
      clear hn hs hV0
      refine WR.nil (WN.seq ?_)
      refine WC.seq (WC.region ?_)
      refine WR.field rfl fa35_0 rfl ?_
      refine WR.load rfl Tryz.underlying4 rfl (show _ = some (Value.bool false) from hV.c0.trans (by rw [hc])) rfl ?_
      refine WR.move rfl rfl ?_
      refine WR.take rfl rfl rfl ?_
      refine WR.loadAgg rfl Tryz.underlying32 rfl sz32 hT.rd rfl ?_
      refine WR.take rfl rfl rfl ?_
      refine WR.loadAgg rfl Tryz.underlying35 rfl sz35 hV.rd rfl ?_
      refine WR.take rfl rfl rfl ?_
      rw [tyL]
      refine WR.callF rfl rfl cf29 rfl rfl (oneFitsK x hc2) ?_
      rintro _ w5 ⟨rfl, hs⟩
      replace hw0 := Nat.le_trans hw0 hs.size
      replace hS := hS.trans hs (by simp <;> omega)
      replace hd := hd.same hs (by simp <;> omega)
      replace hT := hT.same hs (by first | (simp <;> omega) | (intro hm; have := hS9 _ hm; omega) | (intro g hm; have := hS9 _ hm; omega) | (intro g hm; have := hS9 _ hm; exact .inr (by omega)))
      replace hV := hV.same hs (by first | (simp <;> omega) | (intro hm; have := hS9 _ hm; omega) | (intro g hm; have := hS9 _ hm; omega) | (intro g hm; have := hS9 _ hm; exact .inr (by omega)))
      refine WR.take rfl rfl rfl ?_
      refine WR.notOp rfl rfl ?_
      refine WR.pickF rfl rfl rfl rfl ?_
      refine WR.nil (WN.seq ?_)
      refine WC.cond rfl (fun h36 => ?_) (fun h36 => ?_)
      · skip
        refine WC.seq (WC.region ?_)
        refine WR.assign rfl rfl ?_
        refine WR.nil (WN.seq ?_)
        refine WC.retR rfl rfl ?_
        exact ⟨false, rfl, (fun h => by cases h), hS⟩
      · skip
        cases h36
    · skip
      simp only [decide_eq_false_iff_not, Int.not_lt] at h35
      omega
  · skip
    obtain ⟨g, o, rfl, -, hgH, hgl, hcs⟩ := hd.lit (by simp; omega)
    have hci := hcs i (by simp; omega)
    rw [getD_map (by omega)] at hci
    have hxo := hok i (by omega)
    clear hcs
    obtain ⟨x, hx⟩ : ∃ x, x = ds.getD i default := ⟨_, rfl⟩
    rw [← hx] at hci hxo
    rw [← hx] at hc hc2
    refine WC.seq (WC.region ?_)
    refine WR.bin rfl rfl rfl rfl ?_
    refine WR.nil (WN.seq (WC.seq ?_))
    refine WC.cond rfl (fun h35 => ?_) (fun h35 => ?_)
    · skip
      simp only [decide_eq_true_eq] at h35
      refine WC.skip (WN.seq ?_)
      refine WC.seq (WC.block ?_)
      refine WC.seq (WC.region ?_)
      refine WR.idx rfl rfl Tryz.underlying22 sz35 (by omega) (by omega) rfl ?_
      refine WR.loadAgg rfl Tryz.underlying35 rfl sz35 (show Rd _ g (o + Int.toNat ((i : Nat) : Int) * 4) 4 (vC x) from hci) rfl ?_
      refine WR.alloc vv_zv rfl rfl ?_
      intro w3 hn hs
      obtain ⟨bV, hbV⟩ : ∃ x, x = w2.heap.size := ⟨_, rfl⟩
      have hV0 : Row w3 bV 35 4 (fun i => (#[.bool false, .int .u64 0, .string ⟨#[]⟩, .slice none 0 0] : Array Value).getD i undef) := by
        rw [hn, hbV]
        exact Row.alloc _ _ _
      rw [← hbV]
      have hwV := hw0
      rw [← hbV] at hwV
      have hTV := hT.lt
      rw [← hbV] at hTV
      replace hw0 := Nat.le_trans hw0 hs.size
      replace hS := hS.trans hs (by simp <;> omega)
      replace hd := hd.same hs (by simp <;> omega)
      replace hT := hT.same hs (by first | (simp <;> omega) | (intro hm; have := hS9 _ hm; omega) | (intro g hm; have := hS9 _ hm; omega) | (intro g hm; have := hS9 _ hm; exact .inr (by omega)))
      clear hn hs
      refine WR.storeAgg (n := 4) rfl rfl sz35 rfl (agg_one fun i hi => vC_one _ hi) hV0 (by decide) ?_
      intro w4 hn hs
      have hV : VC w4 bV _ := hn.congr fun i hi => ovr_range hi
      replace hw0 := Nat.le_trans hw0 hs.size
      replace hS := hS.trans hs (by simp <;> omega)
      replace hd := hd.same hs (by simp <;> omega)
      replace hT := hT.same hs (by simp <;> omega)
      clear hn hs hV0
      refine WR.nil (WN.seq ?_)
      refine WC.seq (WC.region ?_)
      refine WR.field rfl fa35_0 rfl ?_
      refine WR.load rfl Tryz.underlying4 rfl (show _ = some (Value.bool false) from hV.c0.trans (by rw [hc])) rfl ?_
      refine WR.move rfl rfl ?_
      refine WR.take rfl rfl rfl ?_
      refine WR.loadAgg rfl Tryz.underlying32 rfl sz32 hT.rd rfl ?_
      refine WR.take rfl rfl rfl ?_
      refine WR.loadAgg rfl Tryz.underlying35 rfl sz35 hV.rd rfl ?_
      refine WR.take rfl rfl rfl ?_
      rw [tyL]
      refine WR.callF rfl rfl cf29 rfl rfl (oneFits0 x hc2 hc) ?_
      rintro _ w5 ⟨bb, rfl, hbb, hs⟩
      replace hw0 := Nat.le_trans hw0 hs.size
      replace hS := hS.trans hs (by simp <;> omega)
      replace hd := hd.same hs (by simp <;> omega)
      replace hT := hT.same hs (by first | (simp <;> omega) | (intro hm; have := hS9 _ hm; omega) | (intro g hm; have := hS9 _ hm; omega) | (intro g hm; have := hS9 _ hm; exact .inr (by omega)))
      replace hV := hV.same hs (by first | (simp <;> omega) | (intro hm; have := hS9 _ hm; omega) | (intro g hm; have := hS9 _ hm; omega) | (intro g hm; have := hS9 _ hm; exact .inr (by omega)))
      refine WR.take rfl rfl rfl ?_
      refine WR.notOp rfl rfl ?_
      refine WR.pickF rfl rfl rfl rfl ?_
      refine WR.nil (WN.seq ?_)
      refine WC.cond rfl (fun h36 => ?_) (fun h36 => ?_)
      · skip
        refine WC.seq (WC.region ?_)
        refine WR.assign rfl rfl ?_
        refine WR.nil (WN.seq ?_)
        refine WC.retR rfl rfl ?_
        exact ⟨false, rfl, (fun h => by cases h), hS⟩
      · skip
        have hbt : bb = true := by simpa using h36
        refine WC.skip (WN.block ?_)
        refine WN.seq (WC.region ?_)
        (refine WR.bin rfl rfl (ar_add (wrap_i64 ?_ ?_)) rfl ?_; (omega); (omega))
        refine WR.move rfl rfl ?_
        refine WR.nil ?_
        exact WN.loop (k - 1) (i + 1) (by omega) ⟨rfl, rfl, rfl, rfl, kint rfl (by omega), trivial⟩ ⟨by omega, hw0, hS, hd, hT, fun j hj => by rcases Nat.lt_or_ge j i with h2 | h2; exact hall j h2; obtain rfl : j = i := (by omega); rw [← hx]; exact ⟨hc, hc2, hbb hbt⟩⟩
    · skip
      simp only [decide_eq_false_iff_not, Int.not_lt] at h35
      omega

set_option maxHeartbeats 200000 in
theorem floatOf {w : World} (n : Nat) :
    Ret Tryz.prog 30 #[.int .i64 64, .int .u64 (n : Nat)] w fun v w' => ∃ z, v = .float .f64 z ∧ Same [] w w' := by
  have hS := Same.refl [] w
  refine Ret.enter (vs := [.int .i64 64, .int .u64 (n : Nat)]) Tryz.func30 Tryz.ntmps30 rfl rfl ?_
  refine WC.seq (WC.region ?_)
  refine WR.assign rfl rfl ?_
  refine WR.nil (WN.seq ?_)
  refine WC.seq (WC.seq (WC.region ?_))
  refine WR.move rfl rfl ?_
  refine WR.nil (WN.seq ?_)
  refine WC.block (WC.seq (WC.region ?_))
  refine WR.bin rfl rfl rfl rfl ?_
  refine WR.assign rfl rfl ?_
  refine WR.nil (WN.seq ?_)
  refine WC.cond rfl (fun h24 => ?_) (fun h24 => ?_)
  · skip
    exact absurd h24 (by decide)
  · skip
    simp only [beq_eq_false_iff_ne, ne_eq] at h24
    refine WC.seq (WC.region ?_)
    refine WR.bin rfl rfl rfl rfl ?_
    refine WR.assign rfl rfl ?_
    refine WR.nil (WN.seq ?_)
    refine WC.cond rfl (fun h26 => ?_) (fun h26 => ?_)
    · skip
      exact absurd h26 (by decide)
    · skip
      simp only [beq_eq_false_iff_ne, ne_eq] at h26
      refine WC.skip (WN.block ?_)
      refine WN.seq (WC.seq (WC.region ?_))
      refine WR.move rfl rfl ?_
      refine WR.callX rfl rfl (fun w => f64from _ w) rfl rfl ?_
      refine WR.assign rfl rfl ?_
      refine WR.nil (WN.seq ?_)
      refine WC.retR rfl rfl ?_
      exact ⟨_, rfl, hS⟩

set_option maxHeartbeats 400000 in
theorem plainFloats {w : World} (ds : List VS) (A : Option Addr) (n c H : Nat) (hH : H = w.heap.size) (hd : LuV w H (.slice A n c) (ds.map vC)) (hnl : n = ds.length) (hok : ∀ j, j < ds.length → (ds.getD j default).OK) (hn2 : n ≤ 9223372036854775807) :
    Ret Tryz.prog 11 #[.agg tyA, .slice A n c] w fun v w' => v = .bool true ∧ Same [] w w' := by
  have hS := Same.refl [] w
  have hw0 := Nat.le_of_eq hH
  refine Ret.enter (vs := [.agg tyA, .slice A n c]) Tryz.func11 Tryz.ntmps11 rfl rfl ?_
  refine WC.seq (WC.region ?_)
  refine WR.box rfl rfl rfl ?_
  intro w1 hn hs
  replace hw0 := Nat.le_trans hw0 hs.size
  replace hS := hS.trans hs (by simp <;> omega)
  replace hd := hd.same hs (by simp <;> omega)
  obtain ⟨bT, hbT⟩ : ∃ x, x = w.heap.size := ⟨_, rfl⟩
  have hT : TY w1 bT := by rw [hn, hbT]; exact TY.box _
  rw [← hbT]
  clear hn hs
  refine WR.assign rfl rfl ?_
  refine WR.nil (WN.seq ?_)
  refine WC.seq (WC.seq (WC.region ?_))
  refine WR.move rfl rfl ?_
  refine WR.lenS rfl Tryz.underlying22 rfl ?_
  refine WR.move rfl rfl ?_
  refine WR.nil (WN.seq (WC.block ?_))
  have hwT : H ≤ bT := by omega
  refine WC.loop (fun i : Nat => [(2, .pointer (some ⟨bT, 0, none⟩)), (8, .slice A n c), (9, .int .i64 (n : Nat)), (10, .int .i64 (i : Nat))]) (fun k i w' => i + k = n ∧ H ≤ w'.heap.size ∧ Same [] w w' ∧ LuV w' H (.slice A n c) (ds.map vC) ∧ TY w' bT) n 0 ⟨rfl, rfl, rfl, rfl, trivial⟩ ⟨by omega, hw0, hS, hd, hT⟩ ?_
  clear hS hw0 hd hT
  rintro k i w2 ⟨hk, hw0, hS, hd, hT⟩
  rcases (show i < n ∨ i = n by omega) with hi | rfl
  · skip
    obtain ⟨g, o, rfl, -, hgH, hgl, hcs⟩ := hd.lit (by simp; omega)
    have hci := hcs i (by simp; omega)
    rw [getD_map (by omega)] at hci
    have hxo := hok i (by omega)
    clear hcs
    obtain ⟨x, hx⟩ : ∃ x, x = ds.getD i default := ⟨_, rfl⟩
    rw [← hx] at hci hxo
    refine WC.seq (WC.region ?_)
    refine WR.bin rfl rfl rfl rfl ?_
    refine WR.nil (WN.seq (WC.seq ?_))
    refine WC.cond rfl (fun h96 => ?_) (fun h96 => ?_)
    · skip
      simp only [decide_eq_true_eq] at h96
      refine WC.skip (WN.seq ?_)
      refine WC.seq (WC.block ?_)
      refine WC.seq (WC.region ?_)
      refine WR.idx rfl rfl Tryz.underlying22 sz35 (by omega) (by omega) rfl ?_
      refine WR.loadAgg rfl Tryz.underlying35 rfl sz35 (show Rd _ g (o + Int.toNat ((i : Nat) : Int) * 4) 4 (vC x) from hci) rfl ?_
      refine WR.alloc vv_zv rfl rfl ?_
      intro w3 hn hs
      obtain ⟨bV, hbV⟩ : ∃ x, x = w2.heap.size := ⟨_, rfl⟩
      have hV0 : Row w3 bV 35 4 (fun i => (#[.bool false, .int .u64 0, .string ⟨#[]⟩, .slice none 0 0] : Array Value).getD i undef) := by
        rw [hn, hbV]
        exact Row.alloc _ _ _
      rw [← hbV]
      have hwV := hw0
      rw [← hbV] at hwV
      have hTV := hT.lt
      rw [← hbV] at hTV
      replace hw0 := Nat.le_trans hw0 hs.size
      replace hS := hS.trans hs (by simp <;> omega)
      replace hd := hd.same hs (by simp <;> omega)
      replace hT := hT.same hs (by first | (simp <;> omega) | (intro hm; have := hS9 _ hm; omega) | (intro g hm; have := hS9 _ hm; omega) | (intro g hm; have := hS9 _ hm; exact .inr (by omega)))
      clear hn hs
      refine WR.storeAgg (n := 4) rfl rfl sz35 rfl (agg_one fun i hi => vC_one _ hi) hV0 (by decide) ?_
      intro w4 hn hs
      have hV : VC w4 bV _ := hn.congr fun i hi => ovr_range hi
      replace hw0 := Nat.le_trans hw0 hs.size
      replace hS := hS.trans hs (by simp <;> omega)
      replace hd := hd.same hs (by simp <;> omega)
      replace hT := hT.same hs (by simp <;> omega)
      clear hn hs hV0
      refine WR.nil (WN.seq ?_)
      refine WC.seq (WC.region ?_)
      refine WR.field rfl fa32_1 rfl ?_
      refine WR.load rfl Tryz.underlying3 rfl (show _ = some (Value.int .i64 64) from Row.cell (i := 1) hT (by decide)) rfl ?_
      refine WR.field rfl fa35_1 rfl ?_
      refine WR.load rfl Tryz.underlying33 rfl hV.c1 rfl ?_
      refine WR.callF rfl rfl cf30 rfl rfl (floatOf x.n) ?_
      rintro _ w5 ⟨zz, rfl, hs⟩
      replace hw0 := Nat.le_trans hw0 hs.size
      replace hS := hS.trans hs (by simp <;> omega)
      replace hd := hd.same hs (by simp <;> omega)
      replace hT := hT.same hs (by first | (simp <;> omega) | (intro hm; have := hS9 _ hm; omega) | (intro g hm; have := hS9 _ hm; omega) | (intro g hm; have := hS9 _ hm; exact .inr (by omega)))
      replace hV := hV.same hs (by first | (simp <;> omega) | (intro hm; have := hS9 _ hm; omega) | (intro g hm; have := hS9 _ hm; omega) | (intro g hm; have := hS9 _ hm; exact .inr (by omega)))
      refine WR.assign rfl rfl ?_
      refine WR.nil (WN.seq ?_)
      refine WC.seq (WC.region ?_)
      refine WR.field rfl fa32_0 rfl ?_
      refine WR.load rfl Tryz.underlying3 rfl (show _ = some (Value.int .i64 2) from Row.cell (i := 0) hT (by decide)) rfl ?_
      refine WR.bin rfl rfl rfl rfl ?_
      refine WR.move rfl rfl ?_
      refine WR.pass rfl rfl rfl rfl ?_
      refine WR.pass rfl rfl rfl rfl ?_
      refine WR.pass rfl rfl rfl rfl ?_
      refine WR.pickF rfl rfl rfl rfl ?_
      refine WR.move rfl rfl ?_
      refine WR.pass rfl rfl rfl rfl ?_
      refine WR.pass rfl rfl rfl rfl ?_
      refine WR.pass rfl rfl rfl rfl ?_
      refine WR.pass rfl rfl rfl rfl ?_
      refine WR.passU rfl rfl rfl ?_
      refine WR.passU rfl rfl rfl ?_
      refine WR.pass rfl rfl rfl rfl ?_
      refine WR.pickF rfl rfl rfl rfl ?_
      refine WR.nil (WN.seq ?_)
      refine WC.cond rfl (fun h97 => ?_) (fun h97 => ?_)
      · skip
        cases h97
      · skip
        simp only at h97
        refine WC.skip (WN.block ?_)
        refine WN.seq (WC.region ?_)
        (refine WR.bin rfl rfl (ar_add (wrap_i64 ?_ ?_)) rfl ?_; (omega); (omega))
        refine WR.move rfl rfl ?_
        refine WR.nil ?_
        exact WN.loop (k - 1) (i + 1) (by omega) ⟨rfl, rfl, rfl, kint rfl (by omega), trivial⟩ ⟨by omega, hw0, hS, hd, hT⟩
    · skip
      simp only [decide_eq_false_iff_not, Int.not_lt] at h96
      omega
  · skip
    refine WC.seq (WC.region ?_)
    refine WR.bin rfl rfl rfl rfl ?_
    refine WR.nil (WN.seq (WC.seq ?_))
    refine WC.cond rfl (fun h96 => ?_) (fun h96 => ?_)
    · skip
      simp only [decide_eq_true_eq] at h96
      omega
    · skip
      simp only [decide_eq_false_iff_not, Int.not_lt] at h96
      refine WC.exit rfl ?_
      refine WN.seq (WC.seq (WC.region ?_))
      refine WR.assign rfl rfl ?_
      refine WR.nil (WN.seq ?_)
      refine WC.retR rfl rfl ?_
      exact ⟨rfl, hS⟩

end Go.Proofs.YthmknddfkmklfaaGreatDoor.Vm
