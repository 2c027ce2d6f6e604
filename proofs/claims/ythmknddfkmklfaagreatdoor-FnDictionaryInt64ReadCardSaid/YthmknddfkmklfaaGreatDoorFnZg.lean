/- The reference writes runs, one behind the other. -/
import Derived.Test.YthmknddfkmklfaaGreatDoorFnZf
namespace Go.Proofs.YthmknddfkmklfaaGreatDoor.Vm
open Go Mix Go.RowKit Num
set_option maxRecDepth 20000
set_option linter.unusedSimpArgs false
theorem agg_one {n : Nat} {g : Nat → Value} (h : ∀ i, i < n → (g i).oneCell' = true) : ∀ v ∈ (((List.range n).map g).toArray).toList, v.oneCell' = true := by
  intro v hv
  simp only [List.mem_map, List.mem_range] at hv
  obtain ⟨i, hi, rfl⟩ := hv
  exact h i hi
theorem ovr_range {f g : Nat → Value} {n i : Nat} (h : i < n) : ovr f 0 (((List.range n).map g).toArray).toList i = g i := by
  unfold ovr
  rw [if_pos (by simp; exact h)]
  simp [h]
def RC (w : World) (b : Nat) (r : RR) : Prop := Row w b 46 3 (rF r)
section
variable {w w' : World} {b : Nat} {r : RR} {S : List Nat}
theorem RC.c0 (h : RC w b r) : w.cell? ⟨b, 0, none⟩ = some (.bool r.p) := Row.cell (i := 0) h (by decide)
theorem RC.c1 (h : RC w b r) : w.cell? ⟨b, 1, none⟩ = some (.int .i64 r.c) := Row.cell (i := 1) h (by decide)
theorem RC.c2 (h : RC w b r) : w.cell? ⟨b, 2, none⟩ = some (.slice r.A r.xs.length r.cap) := Row.cell (i := 2) h (by decide)
theorem RC.lt (h : RC w b r) : b < w.heap.size := Row.lt h
theorem RC.same (h : RC w b r) (hs : Same S w w') (hb : b ∉ S) : RC w' b r := Row.same h hs hb
end
theorem run_zv (w : World) : (zeroValue 46).run Tryz.prog w = .ok (.agg #[.bool false, .int .i64 0, .slice none 0 0]) w := by kernel_rfl
theorem or1_u64 {c : Nat} (h : c ≤ 1000) : arith .or .u64 (((c : Nat) : Int) * 2) 1 = some (.int .u64 ((2 * c + 1 : Nat) : Int)) := by
  have e : (BitVec.ofInt IntKind.u64.bits (((c : Nat) : Int) * 2) ||| BitVec.ofInt IntKind.u64.bits 1).toNat = 2 * c + 1 := by
    rw [BitVec.toNat_or, ofInt_toNat (by omega) (by show _ < (2 : Int) ^ 64; omega), ofInt_toNat (by omega) (by show _ < (2 : Int) ^ 64; omega)]
    have := Nat.two_pow_add_eq_or_of_lt (b := 1) (i := 1) (by decide) c
    rw [show (((c : Nat) : Int) * 2).toNat = 2 ^ 1 * c by omega, show (1 : Int).toNat = 1 by rfl, ← this]
  unfold arith
  simp only [e]
  rw [wrap_u64 (by omega) (by omega)]
theorem leb_succ (n v : Nat) : Rl.leb (n + 1) v = Rl.leb n v ++ [bts v (8 * n) 8] := by
  unfold Rl.leb
  rw [List.range_succ, List.map_append]
  rfl
theorem rep_succ (xs : List Nat) (k : Nat) : u64s (xs ++ List.replicate (k + 1) 0) = u64s (xs ++ List.replicate k 0) ++ u64s [0] := by
  rw [List.replicate_succ', ← List.append_assoc, u64s_append]
theorem take_snocR {α : Type} {ms : List α} {i : Nat} {d : α} (h : i < ms.length) : ms.take (i + 1) = ms.take i ++ [ms.getD i d] := by
  rw [List.take_add_one]
  simp [h]
theorem cf40 (us : Array Value) (w : World) : (callFunc 40 us).run Tryz.prog w = .ok (.enter 40 us) w := by kernel_rfl
theorem cf41 (us : Array Value) (w : World) : (callFunc 41 us).run Tryz.prog w = .ok (.enter 41 us) w := by kernel_rfl
theorem fa46_0 (b o : Nat) (w : World) : (Instr.fieldAt 46 (.pointer (some ⟨b, o, none⟩)) 0).run Tryz.prog w = .ok (.pointer (some ⟨b, o + 0, none⟩)) w := by kernel_rfl
theorem fa46_1 (b o : Nat) (w : World) : (Instr.fieldAt 46 (.pointer (some ⟨b, o, none⟩)) 1).run Tryz.prog w = .ok (.pointer (some ⟨b, o + 1, none⟩)) w := by kernel_rfl
theorem fa46_2 (b o : Nat) (w : World) : (Instr.fieldAt 46 (.pointer (some ⟨b, o, none⟩)) 2).run Tryz.prog w = .ok (.pointer (some ⟨b, o + 2, none⟩)) w := by kernel_rfl
theorem mk33 : (Tryz.prog.info? 33).map (fun i => (i.size, i.bytes, i.zero)) = some (1, 8, some (.int .u64 0)) := by kernel_rfl
theorem sz46 : (Tryz.prog.info? 46).map (·.size) = some 3 := by kernel_rfl
set_option maxHeartbeats 1000000 in
theorem putRuns {w : World} (rs : List RR) (W n cl H : Nat) (A : Option Addr) (hH : H = w.heap.size) (hrs : RS w H (.slice A n cl) rs) (hn : n = rs.length) (hn40 : n ≤ 40) (hW1 : 1 ≤ W) (hW2 : W ≤ 20) (hf : ∀ j, j < rs.length → Rl.Fit W (rs.getD j default).run) :
    Ret Tryz.prog 28 #[.slice A n cl, .int .i64 (W : Nat)] w fun v w' => Own w' H 5 v (u8s (Rl.enc W (rs.map RR.run))) ∧ Same [] w w' := by
  have hS := Same.refl [] w
  have hw0 := Nat.le_of_eq hH
  refine Ret.enter (vs := [.slice A n cl, .int .i64 (W : Nat)]) Tryz.func28 Tryz.ntmps28 rfl rfl ?_
  refine WC.seq (WC.region ?_)
  refine WR.assign rfl rfl ?_
  refine WR.nil (WN.seq ?_)
  refine WC.seq (WC.region ?_)
  refine WR.assign rfl rfl ?_
  refine WR.nil (WN.seq ?_)
  refine WC.seq (WC.seq (WC.region ?_))
  refine WR.move rfl rfl ?_
  refine WR.lenS rfl Tryz.underlying23 rfl ?_
  refine WR.move rfl rfl ?_
  refine WR.nil (WN.seq (WC.block ?_))
  have hO : Own w H 5 (.slice none 0 0) (u8s (Rl.enc W ((rs.take 0).map RR.run))) := Own.nil _ _ _
  refine WC.loop (fun s : Nat × Value => [(1, .int .i64 (W : Nat)), (5, s.2), (10, .slice A n cl), (11, .int .i64 (n : Nat)), (12, .int .i64 (s.1 : Nat))]) (fun k s w' => s.1 + k = n ∧ H ≤ w'.heap.size ∧ Same [] w w' ∧ RS w' H (.slice A n cl) rs ∧ Own w' H 5 s.2 (u8s (Rl.enc W ((rs.take s.1).map RR.run)))) n (0, .slice none 0 0) ⟨rfl, rfl, rfl, rfl, rfl, trivial⟩ ⟨by simp, hw0, hS, hrs, hO⟩ ?_
  clear hS hw0 hrs hO
  rintro k ⟨i, u⟩ w1 ⟨hk, hw0, hS, hrs, hO⟩
  simp only at hk hO
  rcases (show i < n ∧ (rs.getD i default).p = true ∨ i < n ∧ (rs.getD i default).p = false ∨ i = n by cases (rs.getD i default).p <;> simp <;> omega) with ⟨hi, hp⟩ | ⟨hi, hp⟩ | rfl
  · skip
    obtain ⟨g, o, rfl, hgH, hgl, hcs⟩ := hrs.lit (by omega)
    have hci := hcs i (by omega)
    have hok := hrs.ok i (by omega)
    have hfi := hf i (by omega)
    have htk := take_snocR (ms := rs) (i := i) (d := default) (by omega)
    clear hcs
    generalize rs.getD i default = r at hci hok hfi htk hp
    obtain ⟨p, ci, Ar, cr, xs⟩ := r
    simp only at hp
    subst hp
    obtain ⟨c, rfl⟩ : ∃ c : Nat, ci = (c : Int) := ⟨ci.toNat, by have := hfi.one; simp [RR.run] at this; omega⟩
    have h1c : 1 ≤ c := by have := hfi.one; simpa [RR.run] using this
    have hxu : (u64s xs).length = xs.length := u64s_length xs
    have hrs0 := hrs
    obtain ⟨E, hE⟩ : ∃ E, E = (Rl.enc W ((rs.take i).map RR.run)) := ⟨_, rfl⟩
    have hel : E.length ≤ 20000 := by
      rw [hE]
      have h1 := Rl.enc_len hW2 (rs := (rs.take i).map RR.run) (W := W) (fun r hr => by
        obtain ⟨x, hx, rfl⟩ := List.mem_map.1 hr
        obtain ⟨j, hj, rfl⟩ := List.getElem_of_mem (List.mem_of_mem_take hx)
        have := hf j hj
        rwa [List.getD_eq_getElem?_getD, List.getElem?_eq_getElem hj] at this)
      have h2 : ((rs.take i).map RR.run).length ≤ 40 := by simp; omega
      omega
    rw [← hE] at hO
    have hpk : c ≤ 20 ∧ xs.length ≤ 8 * c := by have := hfi.pk rfl; simpa [RR.run] using this
    have hvl := Rl.vlq_len (u := 2 * c + 1) (by omega)
    refine WC.seq (WC.region ?_)
    refine WR.bin rfl rfl rfl rfl ?_
    refine WR.nil (WN.seq (WC.seq ?_))
    refine WC.cond rfl (fun h74 => ?_) (fun h74 => ?_)
    · skip
      simp only [decide_eq_true_eq] at h74
      refine WC.skip (WN.seq ?_)
      refine WC.seq (WC.block ?_)
      refine WC.seq (WC.region ?_)
      refine WR.idx rfl rfl Tryz.underlying23 sz46 (by omega) (by omega) rfl ?_
      refine WR.loadAgg rfl Tryz.underlying46 rfl sz46 (show Rd _ g (o + Int.toNat ((i : Nat) : Int) * 3) 3 (rF _) from hci) rfl ?_
      refine WR.alloc run_zv rfl rfl ?_
      intro w2 hn hs
      obtain ⟨bR, hbR⟩ : ∃ x, x = w1.heap.size := ⟨_, rfl⟩
      have hR0 : Row w2 bR 46 3 (fun i => (#[.bool false, .int .i64 0, .slice none 0 0] : Array Value).getD i undef) := by
        rw [hn, hbR]
        exact Row.alloc _ _ _
      rw [← hbR]
      have hubR := fun (q : Nat) (h : u.ownBlock = some q) => (World.ownsRow.lt hO q h).2
      rw [← hbR] at hubR
      have hwR := hw0
      rw [← hbR] at hwR
      replace hw0 := Nat.le_trans hw0 hs.size
      replace hS := hS.trans hs (by simp <;> omega)
      replace hrs := hrs.same hs (by simp <;> omega)
      replace hO := hO.keep hs (by first | (intro g hm; simp; done) | (intro g hm; have := hub g hm; simp <;> omega) | (intro g hm h9; have := hS9 _ h9; have := hub g hm; omega))
      replace hok := hok.same hs (by first | (simp <;> omega) | (intro hm; have := hS9 _ hm; omega) | (intro g hm; have := hS9 _ hm; omega) | (intro g hm; have := hS9 _ hm; exact .inr (by omega)))
      clear hn hs
      refine WR.storeAgg (n := 3) rfl rfl sz46 rfl (agg_one fun i hi => rF_one _ hi) hR0 (by decide) ?_
      intro w3 hn hs
      have hR : RC w3 bR _ := hn.congr fun i hi => ovr_range hi
      replace hw0 := Nat.le_trans hw0 hs.size
      replace hS := hS.trans hs (by simp <;> omega)
      replace hrs := hrs.same hs (by simp <;> omega)
      replace hO := hO.keep hs (fun g hm => by have := hubR g hm; simp <;> omega)
      replace hok := hok.same hs (by simp <;> omega)
      clear hn hs hR0
      refine WR.nil (WN.seq ?_)
      refine WC.seq (WC.seq (WC.region ?_))
      refine WR.field rfl fa46_0 rfl ?_
      refine WR.load rfl Tryz.underlying4 rfl (show _ = some (Value.bool true) from hR.c0) rfl ?_
      refine WR.nil (WN.seq ?_)
      refine WC.cond rfl (fun h75 => ?_) (fun h75 => ?_)
      · skip
        simp only at h75
        refine WC.seq (WC.region ?_)
        refine WR.move rfl rfl ?_
        refine WR.field rfl fa46_1 rfl ?_
        refine WR.load rfl Tryz.underlying3 rfl (show _ = some (Value.int .i64 ((c : Nat) : Int)) from hR.c1) rfl ?_
        (refine WR.conv rfl Tryz.underlying3 Tryz.underlying33 (wrap_u64 ?_ ?_) rfl ?_; (omega); (omega))
        (refine WR.shl rfl rfl (by decide) (shl_c (D := 2) rfl (wrap_u64 ?_ ?_)) rfl ?_; (omega); (omega))
        refine WR.bin rfl rfl (v := .int .u64 ((2 * c + 1 : Nat) : Int)) (or1_u64 (by omega)) rfl ?_
        refine WR.callF rfl rfl cf40 rfl rfl (putVlq (2 * c + 1) (by omega)) ?_
        rintro vv w4 ⟨hV, hs⟩
        replace hw0 := Nat.le_trans hw0 hs.size
        replace hS := hS.trans hs (by simp <;> omega)
        replace hrs := hrs.same hs (by simp <;> omega)
        replace hR := hR.same hs (by first | (simp <;> omega) | (intro hm; have := hS9 _ hm; omega) | (intro g hm; have := hS9 _ hm; omega) | (intro g hm; have := hS9 _ hm; exact .inr (by omega)))
        replace hO := hO.keep hs (by first | (intro g hm; simp; done) | (intro g hm; have := hub g hm; simp <;> omega) | (intro g hm h9; have := hS9 _ h9; have := hub g hm; omega))
        replace hok := hok.same hs (by first | (simp <;> omega) | (intro hm; have := hS9 _ hm; omega) | (intro g hm; have := hS9 _ hm; omega) | (intro g hm; have := hS9 _ hm; exact .inr (by omega)))
        have hS9 : ∀ g, g ∈ u.ownBlock.toList → H ≤ g ∧ g < bR := fun g hm => ⟨(World.ownsRow.lt hO g (by simpa using hm)).1, hubR g (by simpa using hm)⟩
        have hRl := hR.lt
        refine WR.appendF rfl hO rfl hV.ls (fun i hi => u8s_one hi) Tryz.underlying28 mk5 rfl (by decide) (by rw [u8s_length, u8s_length]; omega) (by omega) rfl rfl ?_
        intro u2 w5 hn hs hfr
        replace hO := hn
        replace hw0 := Nat.le_trans hw0 hs.size
        replace hS := hS.trans hs (by first | (simp <;> omega) | (intro hm; have := hS9 _ hm; omega) | (intro g hm; have := hS9 _ hm; omega) | (intro g hm; have := hS9 _ hm; exact .inr (by omega)))
        replace hrs := hrs.same hs (by first | (simp <;> omega) | (intro hm; have := hS9 _ hm; omega) | (intro g hm; have := hS9 _ hm; omega) | (intro g hm; have := hS9 _ hm; exact .inr (by omega)))
        replace hR := hR.same hs (by first | (simp <;> omega) | (intro hm; have := hS9 _ hm; omega) | (intro g hm; have := hS9 _ hm; omega) | (intro g hm; have := hS9 _ hm; exact .inr (by omega)))
        replace hok := hok.same hs (by first | (simp <;> omega) | (intro hm; have := hS9 _ hm; omega) | (intro g hm; have := hS9 _ hm; omega) | (intro g hm; have := hS9 _ hm; exact .inr (by omega)))
        have hub0 := fun (q : Nat) (h : u2.ownBlock = some q) => (World.ownsRow.lt hO q h).2
        have hw76 := hw0
        have hRl := hR.lt
        clear hS9
        clear hn hs
        refine WR.assign rfl rfl ?_
        refine WR.nil (WN.seq ?_)
        refine WC.seq (WC.region ?_)
        obtain ⟨nb, hnb⟩ : ∃ x, x = w5.heap.size := ⟨_, rfl⟩
        refine WR.buildSl (E := 33) (cs := #[]) rfl rfl (fun w => by kernel_rfl) rfl rfl ?_
        rw [← hnb]
        intro w6 hM hs
        replace hw0 := Nat.le_trans hw0 hs.size
        replace hS := hS.trans hs (by simp <;> omega)
        replace hrs := hrs.same hs (by simp <;> omega)
        replace hR := hR.same hs (by first | (simp <;> omega) | (intro hm; have := hS9 _ hm; omega) | (intro g hm; have := hS9 _ hm; omega) | (intro g hm; have := hS9 _ hm; exact .inr (by omega)))
        replace hO := hO.keep hs (by first | (intro g hm; simp; done) | (intro g hm; have := hub g hm; simp <;> omega) | (intro g hm h9; have := hS9 _ h9; have := hub g hm; omega))
        replace hok := hok.same hs (by first | (simp <;> omega) | (intro hm; have := hS9 _ hm; omega) | (intro g hm; have := hS9 _ hm; omega) | (intro g hm; have := hS9 _ hm; exact .inr (by omega)))
        clear hs
        refine WR.field rfl fa46_2 rfl ?_
        refine WR.load rfl Tryz.underlying37 rfl (show _ = some (Value.slice Ar xs.length cr) from hR.c2) rfl ?_
        have hW : Own w6 nb 33 (.slice (some ⟨nb, 0, none⟩) 0 0) [] := hM.own rfl (fun i hi => absurd hi (Nat.not_lt_zero i)) (Nat.le_refl _) (by decide)
        have hub : ∀ q, u2.ownBlock = some q → q < nb := fun q h => by rw [hnb]; exact hub0 q h
        have hnb9 := Nat.le_of_lt hM.lt
        have hHnb : H ≤ nb := by rw [hnb]; exact hw76
        have hRnb : bR < nb := by rw [hnb]; exact hRl
        refine WR.appendLx rfl hW rfl hok.ls (fun i hi => u64s_one hi) Tryz.underlying37 mk33 rfl (by decide) (by simp [u64s_length] <;> omega) (by omega) rfl rfl ?_
        intro u3 w7 S9 hn hs hS9
        replace hW := hn
        replace hw0 := Nat.le_trans hw0 hs.size
        replace hS := hS.trans hs (by first | (simp <;> omega) | (intro hm; have := hS9 _ hm; omega) | (intro g hm; have := hS9 _ hm; omega) | (intro g hm; have := hS9 _ hm; exact .inr (by omega)))
        replace hrs := hrs.same hs (by first | (simp <;> omega) | (intro hm; have := hS9 _ hm; omega) | (intro g hm; have := hS9 _ hm; omega) | (intro g hm; have := hS9 _ hm; exact .inr (by omega)))
        replace hR := hR.same hs (by first | (simp <;> omega) | (intro hm; have := hS9 _ hm; omega) | (intro g hm; have := hS9 _ hm; omega) | (intro g hm; have := hS9 _ hm; exact .inr (by omega)))
        replace hO := hO.keep hs (by first | (intro g hm; simp; done) | (intro g hm; have := hub g hm; simp <;> omega) | (intro g hm h9; have := hS9 _ h9; have := hub g hm; omega))
        replace hnb9 := Nat.le_trans hnb9 hs.size
        replace hok := hok.same hs (by first | (simp <;> omega) | (intro hm; have := hS9 _ hm; omega) | (intro g hm; have := hS9 _ hm; omega) | (intro g hm; have := hS9 _ hm; exact .inr (by omega)))
        rw [List.nil_append] at hW
        clear hn hs hS9
        refine WR.assign rfl rfl ?_
        refine WR.nil (WN.seq ?_)
        refine WC.seq (WC.block ?_)
        have hW0 : Own w7 nb 33 u3 (u64s (xs ++ List.replicate 0 0)) := by rw [List.replicate_zero, List.append_nil]; exact hW
        refine WC.loop (fun s : Nat × Value => [(7, .pointer (some ⟨bR, 0, none⟩)), (8, s.2), (1, .int .i64 (W : Nat)), (5, u2), (10, .slice (some ⟨g, o, none⟩) n cl), (11, .int .i64 (n : Nat)), (12, .int .i64 (i : Nat))]) (fun k2 s w' => xs.length + s.1 + k2 = 8 * c ∧ H ≤ w'.heap.size ∧ nb ≤ w'.heap.size ∧ Same [] w w' ∧ RS w' H (.slice (some ⟨g, o, none⟩) n cl) rs ∧ RC w' bR ⟨true, ((c : Nat) : Int), Ar, cr, xs⟩ ∧ Own w' H 5 u2 (u8s E ++ u8s (Rl.vlq (2 * c + 1))) ∧ (∀ q, u2.ownBlock = some q → q < nb) ∧ Own w' nb 33 s.2 (u64s (xs ++ List.replicate s.1 0))) (8 * c - xs.length) (0, u3) ⟨rfl, rfl, rfl, rfl, rfl, rfl, rfl, trivial⟩ ⟨by simp; omega, hw0, hnb9, hS, hrs, hR, hO, hub, hW0⟩ ?_
        clear hS hw0 hrs hO hW hW0 hR hok hV hub hnb9
        rintro k2 ⟨j, u3⟩ w8 ⟨hk2, hw0, hnb9, hS, hrs, hR, hO, hub, hW⟩
        simp only at hk2 hW
        obtain ⟨A3, c3, rfl⟩ := hW.shape
        have hl3 : (u64s (xs ++ List.replicate j 0)).length = xs.length + j := by rw [u64s_length]; simp
        rw [hl3] at hW ⊢
        refine WC.seq (WC.seq (WC.region ?_))
        refine WR.move rfl rfl ?_
        refine WR.lenS rfl Tryz.underlying37 rfl ?_
        refine WR.field rfl fa46_1 rfl ?_
        refine WR.load rfl Tryz.underlying3 rfl (show _ = some (Value.int .i64 ((c : Nat) : Int)) from hR.c1) rfl ?_
        (refine WR.bin rfl rfl (ar_mul (z := ((8 * c : Nat) : Int)) ?_) rfl ?_; (rw [wrap_i64 (by omega) (by omega)]; omega))
        refine WR.bin rfl rfl rfl rfl ?_
        refine WR.nil (WN.seq ?_)
        refine WC.cond rfl (fun h78 => ?_) (fun h78 => ?_)
        · skip
          simp only [decide_eq_true_eq] at h78
          refine WC.skip (WN.seq ?_)
          refine WC.block (WC.region ?_)
          refine WR.move rfl rfl ?_
          obtain ⟨nz, hnz⟩ : ∃ x, x = w8.heap.size := ⟨_, rfl⟩
          refine WR.buildSl (E := 33) (cs := #[.int .u64 0]) rfl rfl (fun w => by kernel_rfl) rfl rfl ?_
          rw [← hnz]
          intro w9 hM hs
          replace hw0 := Nat.le_trans hw0 hs.size
          replace hS := hS.trans hs (by simp <;> omega)
          replace hrs := hrs.same hs (by simp <;> omega)
          replace hR := hR.same hs (by first | (simp <;> omega) | (intro hm; have := hS9 _ hm; omega) | (intro g hm; have := hS9 _ hm; omega) | (intro g hm; have := hS9 _ hm; exact .inr (by omega)))
          replace hO := hO.keep hs (by first | (intro g hm; simp; done) | (intro g hm; have := hub g hm; simp <;> omega) | (intro g hm h9; have := hS9 _ h9; have := hub g hm; omega))
          replace hnb9 := Nat.le_trans hnb9 hs.size
          replace hW := hW.same hs (by first | (simp <;> omega) | (intro hm; have := hS9 _ hm; omega) | (intro g hm; have := hS9 _ hm; omega) | (intro g hm; have := hS9 _ hm; exact .inr (by omega)))
          clear hs
          refine WR.appendL rfl hW rfl (show Ls _ 0 _ (u64s [0]) from hM.lsOne) (fun i hi => u64s_one hi) Tryz.underlying37 mk33 rfl (by decide) (by rw [hl3]; simp [u64s_length] <;> omega) (by omega) rfl rfl ?_
          intro u5 w10 S9 hn hs hS9
          replace hW := hn
          replace hw0 := Nat.le_trans hw0 hs.size
          replace hS := hS.trans hs (by first | (simp <;> omega) | (intro hm; have := hS9 _ hm; omega) | (intro g hm; have := hS9 _ hm; omega) | (intro g hm; have := hS9 _ hm; exact .inr (by omega)))
          replace hrs := hrs.same hs (by first | (simp <;> omega) | (intro hm; have := hS9 _ hm; omega) | (intro g hm; have := hS9 _ hm; omega) | (intro g hm; have := hS9 _ hm; exact .inr (by omega)))
          replace hR := hR.same hs (by first | (simp <;> omega) | (intro hm; have := hS9 _ hm; omega) | (intro g hm; have := hS9 _ hm; omega) | (intro g hm; have := hS9 _ hm; exact .inr (by omega)))
          replace hO := hO.keep hs (by first | (intro g hm; simp; done) | (intro g hm; have := hub g hm; simp <;> omega) | (intro g hm h9; have := hS9 _ h9; have := hub g hm; omega))
          replace hnb9 := Nat.le_trans hnb9 hs.size
          clear hn hs hS9
          refine WR.assign rfl rfl ?_
          refine WR.nil (WN.block ?_)
          exact WN.loop (k2 - 1) (j + 1, u5) (by omega) ⟨rfl, rfl, rfl, rfl, rfl, rfl, rfl, trivial⟩ ⟨show xs.length + (j + 1) + (k2 - 1) = 8 * c by omega, hw0, hnb9, hS, hrs, hR, hO, hub, by rw [rep_succ]; exact hW⟩
        · skip
          simp only [decide_eq_false_iff_not, Int.not_lt] at h78
          refine WC.exit rfl ?_
          refine WN.seq (WC.seq (WC.region ?_))
          refine WR.move rfl rfl ?_
          refine WR.move rfl rfl ?_
          refine WR.move rfl rfl ?_
          have hmw : (xs.length + j) * W ≤ 160 * 20 := Nat.mul_le_mul (by omega) hW2
          have hpad : ∀ v, v ∈ xs ++ List.replicate j 0 → v < 2 ^ W := fun v hv => by
            rcases List.mem_append.1 hv with h | h
            · exact hfi.lt v h
            · obtain ⟨_, rfl⟩ := List.mem_replicate.1 h
              exact Nat.pow_pos (by decide)
          refine WR.callF rfl rfl cf41 rfl rfl (packBits (xs ++ List.replicate j 0) c W (xs.length + j) c3 nb A3 hW.ls (by omega) (by simp; omega) (by omega) hW1 hW2 hpad) ?_
          rintro _ w9 ⟨vv, rfl, hV, hs⟩
          replace hw0 := Nat.le_trans hw0 hs.size
          replace hS := hS.trans hs (by simp <;> omega)
          replace hrs := hrs.same hs (by simp <;> omega)
          replace hR := hR.same hs (by first | (simp <;> omega) | (intro hm; have := hS9 _ hm; omega) | (intro g hm; have := hS9 _ hm; omega) | (intro g hm; have := hS9 _ hm; exact .inr (by omega)))
          replace hO := hO.keep hs (by first | (intro g hm; simp; done) | (intro g hm; have := hub g hm; simp <;> omega) | (intro g hm h9; have := hS9 _ h9; have := hub g hm; omega))
          replace hnb9 := Nat.le_trans hnb9 hs.size
          replace hW := hW.same hs (by first | (simp <;> omega) | (intro hm; have := hS9 _ hm; omega) | (intro g hm; have := hS9 _ hm; omega) | (intro g hm; have := hS9 _ hm; exact .inr (by omega)))
          refine WR.appendL rfl hO rfl hV (fun i hi => u8s_one hi) Tryz.underlying28 mk5 rfl (by decide) (by simp [u8s_length, Rl.pk_length]; omega) (by omega) rfl rfl ?_
          intro u4 w10 S9 hn hs hS9
          replace hO := hn
          replace hw0 := Nat.le_trans hw0 hs.size
          replace hS := hS.trans hs (by first | (simp <;> omega) | (intro hm; have := hS9 _ hm; omega) | (intro g hm; have := hS9 _ hm; omega) | (intro g hm; have := hS9 _ hm; exact .inr (by omega)))
          replace hrs := hrs.same hs (by first | (simp <;> omega) | (intro hm; have := hS9 _ hm; omega) | (intro g hm; have := hS9 _ hm; omega) | (intro g hm; have := hS9 _ hm; exact .inr (by omega)))
          replace hnb9 := Nat.le_trans hnb9 hs.size
          rw [show j = 8 * c - xs.length by omega] at hO
          clear hn hs hS9
          refine WR.assign rfl rfl ?_
          refine WR.nil (WN.seq ?_)
          refine WC.exit rfl ?_
          refine WN.seq (WC.region ?_)
          (refine WR.bin rfl rfl (ar_add (wrap_i64 ?_ ?_)) rfl ?_; (omega); (omega))
          refine WR.move rfl rfl ?_
          refine WR.nil ?_
          exact WN.loop (k - 1) (i + 1, u4) (by omega) ⟨rfl, rfl, rfl, rfl, kint rfl (by omega), trivial⟩ ⟨show i + 1 + (k - 1) = n by omega, hw0, hS, hrs, by rw [htk, List.map_append, show ∀ a b, Rl.enc W (a ++ b) = Rl.enc W a ++ Rl.enc W b from fun a b => by simp [Rl.enc], ← hE]; rw [show Rl.enc W (List.map RR.run [⟨true, ((c : Nat) : Int), Ar, cr, xs⟩]) = Rl.vlq (2 * c + 1) ++ Rl.pk W (xs ++ List.replicate (8 * c - xs.length) 0) by simp [Rl.enc, Rl.encR, RR.run, Rl.padR], u8s_append, u8s_append, ← List.append_assoc]; exact hO⟩
      · skip
        cases h75
    · skip
      simp only [decide_eq_false_iff_not, Int.not_lt] at h74
      omega
  · skip
    obtain ⟨g, o, rfl, hgH, hgl, hcs⟩ := hrs.lit (by omega)
    have hci := hcs i (by omega)
    have hok := hrs.ok i (by omega)
    have hfi := hf i (by omega)
    have htk := take_snocR (ms := rs) (i := i) (d := default) (by omega)
    clear hcs
    generalize rs.getD i default = r at hci hok hfi htk hp
    obtain ⟨p, ci, Ar, cr, xs⟩ := r
    simp only at hp
    subst hp
    obtain ⟨c, rfl⟩ : ∃ c : Nat, ci = (c : Int) := ⟨ci.toNat, by have := hfi.one; simp [RR.run] at this; omega⟩
    have h1c : 1 ≤ c := by have := hfi.one; simpa [RR.run] using this
    have hxu : (u64s xs).length = xs.length := u64s_length xs
    have hrs0 := hrs
    obtain ⟨E, hE⟩ : ∃ E, E = (Rl.enc W ((rs.take i).map RR.run)) := ⟨_, rfl⟩
    have hel : E.length ≤ 20000 := by
      rw [hE]
      have h1 := Rl.enc_len hW2 (rs := (rs.take i).map RR.run) (W := W) (fun r hr => by
        obtain ⟨x, hx, rfl⟩ := List.mem_map.1 hr
        obtain ⟨j, hj, rfl⟩ := List.getElem_of_mem (List.mem_of_mem_take hx)
        have := hf j hj
        rwa [List.getD_eq_getElem?_getD, List.getElem?_eq_getElem hj] at this)
      have h2 : ((rs.take i).map RR.run).length ≤ 40 := by simp; omega
      omega
    rw [← hE] at hO
    have hrp : c ≤ 300 ∧ xs.length = 1 := by have := hfi.rp rfl; simpa [RR.run] using this
    have hvl := Rl.vlq_len (u := 2 * c) (by omega)
    obtain ⟨x, rfl⟩ := List.length_eq_one_iff.1 hrp.2
    have hx64 := hok.lt x (List.mem_singleton.2 rfl)
    refine WC.seq (WC.region ?_)
    refine WR.bin rfl rfl rfl rfl ?_
    refine WR.nil (WN.seq (WC.seq ?_))
    refine WC.cond rfl (fun h74 => ?_) (fun h74 => ?_)
    · skip
      simp only [decide_eq_true_eq] at h74
      refine WC.skip (WN.seq ?_)
      refine WC.seq (WC.block ?_)
      refine WC.seq (WC.region ?_)
      refine WR.idx rfl rfl Tryz.underlying23 sz46 (by omega) (by omega) rfl ?_
      refine WR.loadAgg rfl Tryz.underlying46 rfl sz46 (show Rd _ g (o + Int.toNat ((i : Nat) : Int) * 3) 3 (rF _) from hci) rfl ?_
      refine WR.alloc run_zv rfl rfl ?_
      intro w2 hn hs
      obtain ⟨bR, hbR⟩ : ∃ x, x = w1.heap.size := ⟨_, rfl⟩
      have hR0 : Row w2 bR 46 3 (fun i => (#[.bool false, .int .i64 0, .slice none 0 0] : Array Value).getD i undef) := by
        rw [hn, hbR]
        exact Row.alloc _ _ _
      rw [← hbR]
      have hubR := fun (q : Nat) (h : u.ownBlock = some q) => (World.ownsRow.lt hO q h).2
      rw [← hbR] at hubR
      have hwR := hw0
      rw [← hbR] at hwR
      replace hw0 := Nat.le_trans hw0 hs.size
      replace hS := hS.trans hs (by simp <;> omega)
      replace hrs := hrs.same hs (by simp <;> omega)
      replace hO := hO.keep hs (by first | (intro g hm; simp; done) | (intro g hm; have := hub g hm; simp <;> omega) | (intro g hm h9; have := hS9 _ h9; have := hub g hm; omega))
      replace hok := hok.same hs (by first | (simp <;> omega) | (intro hm; have := hS9 _ hm; omega) | (intro g hm; have := hS9 _ hm; omega) | (intro g hm; have := hS9 _ hm; exact .inr (by omega)))
      clear hn hs
      refine WR.storeAgg (n := 3) rfl rfl sz46 rfl (agg_one fun i hi => rF_one _ hi) hR0 (by decide) ?_
      intro w3 hn hs
      have hR : RC w3 bR _ := hn.congr fun i hi => ovr_range hi
      replace hw0 := Nat.le_trans hw0 hs.size
      replace hS := hS.trans hs (by simp <;> omega)
      replace hrs := hrs.same hs (by simp <;> omega)
      replace hO := hO.keep hs (fun g hm => by have := hubR g hm; simp <;> omega)
      replace hok := hok.same hs (by simp <;> omega)
      clear hn hs hR0
      refine WR.nil (WN.seq ?_)
      refine WC.seq (WC.seq (WC.region ?_))
      refine WR.field rfl fa46_0 rfl ?_
      refine WR.load rfl Tryz.underlying4 rfl (show _ = some (Value.bool false) from hR.c0) rfl ?_
      refine WR.nil (WN.seq ?_)
      refine WC.cond rfl (fun h75 => ?_) (fun h75 => ?_)
      · skip
        cases h75
      · skip
        simp only at h75
        refine WC.skip (WN.seq ?_)
        refine WC.seq (WC.region ?_)
        refine WR.move rfl rfl ?_
        refine WR.field rfl fa46_1 rfl ?_
        refine WR.load rfl Tryz.underlying3 rfl (show _ = some (Value.int .i64 ((c : Nat) : Int)) from hR.c1) rfl ?_
        (refine WR.conv rfl Tryz.underlying3 Tryz.underlying33 (wrap_u64 ?_ ?_) rfl ?_; (omega); (omega))
        (refine WR.shl rfl rfl (by decide) (shl_c (D := 2) rfl (wrap_u64 ?_ ?_)) rfl ?_; (omega); (omega))
        rw [show ((c : Nat) : Int) * 2 = ((2 * c : Nat) : Int) by omega]
        refine WR.callF rfl rfl cf40 rfl rfl (putVlq (2 * c) (by omega)) ?_
        rintro vv w4 ⟨hV, hs⟩
        replace hw0 := Nat.le_trans hw0 hs.size
        replace hS := hS.trans hs (by simp <;> omega)
        replace hrs := hrs.same hs (by simp <;> omega)
        replace hR := hR.same hs (by first | (simp <;> omega) | (intro hm; have := hS9 _ hm; omega) | (intro g hm; have := hS9 _ hm; omega) | (intro g hm; have := hS9 _ hm; exact .inr (by omega)))
        replace hO := hO.keep hs (by first | (intro g hm; simp; done) | (intro g hm; have := hub g hm; simp <;> omega) | (intro g hm h9; have := hS9 _ h9; have := hub g hm; omega))
        replace hok := hok.same hs (by first | (simp <;> omega) | (intro hm; have := hS9 _ hm; omega) | (intro g hm; have := hS9 _ hm; omega) | (intro g hm; have := hS9 _ hm; exact .inr (by omega)))
        have hS9 : ∀ g, g ∈ u.ownBlock.toList → H ≤ g ∧ g < bR := fun g hm => ⟨(World.ownsRow.lt hO g (by simpa using hm)).1, hubR g (by simpa using hm)⟩
        have hRl := hR.lt
        refine WR.appendF rfl hO rfl hV.ls (fun i hi => u8s_one hi) Tryz.underlying28 mk5 rfl (by decide) (by rw [u8s_length, u8s_length]; omega) (by omega) rfl rfl ?_
        intro u2 w5 hn hs hfr
        replace hO := hn
        replace hw0 := Nat.le_trans hw0 hs.size
        replace hS := hS.trans hs (by first | (simp <;> omega) | (intro hm; have := hS9 _ hm; omega) | (intro g hm; have := hS9 _ hm; omega) | (intro g hm; have := hS9 _ hm; exact .inr (by omega)))
        replace hrs := hrs.same hs (by first | (simp <;> omega) | (intro hm; have := hS9 _ hm; omega) | (intro g hm; have := hS9 _ hm; omega) | (intro g hm; have := hS9 _ hm; exact .inr (by omega)))
        replace hR := hR.same hs (by first | (simp <;> omega) | (intro hm; have := hS9 _ hm; omega) | (intro g hm; have := hS9 _ hm; omega) | (intro g hm; have := hS9 _ hm; exact .inr (by omega)))
        replace hok := hok.same hs (by first | (simp <;> omega) | (intro hm; have := hS9 _ hm; omega) | (intro g hm; have := hS9 _ hm; omega) | (intro g hm; have := hS9 _ hm; exact .inr (by omega)))
        have hub2 : ∀ q, u2.ownBlock = some q → q ≠ bR := fun q h => by rcases hfr q h with h | h; have := hubR q h; omega; omega
        clear hS9
        clear hn hs
        refine WR.assign rfl rfl ?_
        refine WR.nil (WN.seq ?_)
        refine WC.seq (WC.region ?_)
        refine WR.assign rfl rfl ?_
        refine WR.nil (WN.seq (WC.block ?_))
        have hO0 : Own w5 H 5 u2 (u8s E ++ u8s (Rl.vlq (2 * c)) ++ u8s (Rl.leb 0 x)) := by rw [show u8s (Rl.leb 0 x) = [] from rfl, List.append_nil]; exact hO
        refine WC.loop (fun s : Nat × Value => [(7, .pointer (some ⟨bR, 0, none⟩)), (9, .int .i64 (s.1 : Nat)), (1, .int .i64 (W : Nat)), (5, s.2), (10, .slice (some ⟨g, o, none⟩) n cl), (11, .int .i64 (n : Nat)), (12, .int .i64 (i : Nat))]) (fun k2 s w' => s.1 + k2 = (W + 7) / 8 ∧ H ≤ w'.heap.size ∧ Same [] w w' ∧ RS w' H (.slice (some ⟨g, o, none⟩) n cl) rs ∧ RC w' bR ⟨false, ((c : Nat) : Int), Ar, cr, [x]⟩ ∧ RR.OK w' H ⟨false, ((c : Nat) : Int), Ar, cr, [x]⟩ ∧ (∀ q, s.2.ownBlock = some q → q ≠ bR) ∧ bR < w'.heap.size ∧ Own w' H 5 s.2 (u8s E ++ u8s (Rl.vlq (2 * c)) ++ u8s (Rl.leb s.1 x))) ((W + 7) / 8) (0, u2) ⟨rfl, rfl, rfl, rfl, rfl, rfl, rfl, trivial⟩ ⟨by simp, hw0, hS, hrs, hR, hok, hub2, hR.lt, hO0⟩ ?_
        clear hS hw0 hrs hO hO0 hR hok hV
        rintro k2 ⟨i2, u3⟩ w6 ⟨hk2, hw0, hS, hrs, hR, hok, hub2, hRl, hO⟩
        simp only at hk2 hO
        obtain ⟨gv, ov, ev, hev, hgv, hlv, hrv⟩ := hok.ls.lit (by simp [u64s])
        simp only [Value.slice.injEq] at hev
        obtain ⟨hAr, -, rfl⟩ := hev
        refine WC.seq (WC.seq (WC.region ?_))
        refine WR.move rfl rfl ?_
        refine WR.move rfl rfl ?_
        (refine WR.bin rfl rfl (ar_add (z := ((W + 7 : Nat) : Int)) ?_) rfl ?_; (rw [wrap_i64 (by omega) (by omega)]; omega))
        refine WR.bin rfl rfl (ar_quo (z := (((W + 7) / 8 : Nat) : Int)) (by decide) (sp_quo (a := W + 7) (b := 8) (by omega))) rfl ?_
        refine WR.bin rfl rfl rfl rfl ?_
        refine WR.nil (WN.seq ?_)
        refine WC.cond rfl (fun h85 => ?_) (fun h85 => ?_)
        · skip
          simp only [decide_eq_true_eq] at h85
          refine WC.skip (WN.seq ?_)
          refine WC.seq (WC.block (WC.region ?_))
          refine WR.move rfl rfl ?_
          refine WR.field rfl fa46_2 rfl ?_
          refine WR.load rfl Tryz.underlying37 rfl (show _ = some (Value.slice (some ⟨gv, ov, none⟩) 1 _) from hR.c2.trans (by rw [hAr]; rfl)) rfl ?_
          refine WR.idx rfl rfl Tryz.underlying37 sz33 (by decide) (by decide) rfl ?_
          refine WR.load rfl Tryz.underlying33 rfl (show _ = some (Value.int .u64 (x : Nat)) from hrv 0 (by simp [u64s])) rfl ?_
          refine WR.move rfl rfl ?_
          (refine WR.bin rfl rfl (ar_mul (z := ((8 * i2 : Nat) : Int)) ?_) rfl ?_; (rw [wrap_i64 (by omega) (by omega)]; omega))
          refine WR.shr rfl rfl (by omega) (z := ((x / 2 ^ (8 * i2) : Nat) : Int)) (sp_shr (by show 8 * i2 ≤ 64; omega)) rfl ?_
          refine WR.conv rfl Tryz.underlying33 Tryz.underlying5 ((w8_nat (x / 2 ^ (8 * i2))).trans (show ((x / 2 ^ (8 * i2) % 256 : Nat) : Int) = ((bts x (8 * i2) 8 : Nat) : Int) by unfold bts; rfl)) rfl ?_
          obtain ⟨nz, hnz⟩ : ∃ x, x = w6.heap.size := ⟨_, rfl⟩
          refine WR.buildSl (E := 5) (cs := #[.int .u8 (bts x (8 * i2) 8 : Nat)]) rfl rfl (fun w => by kernel_rfl) rfl rfl ?_
          rw [← hnz]
          intro w7 hM hs
          replace hw0 := Nat.le_trans hw0 hs.size
          replace hS := hS.trans hs (by simp <;> omega)
          replace hrs := hrs.same hs (by simp <;> omega)
          replace hR := hR.same hs (by first | (simp <;> omega) | (intro hm; have := hS9 _ hm; omega) | (intro g hm; have := hS9 _ hm; omega) | (intro g hm; have := hS9 _ hm; exact .inr (by omega)))
          replace hO := hO.keep hs (by first | (intro g hm; simp; done) | (intro g hm; have := hub g hm; simp <;> omega) | (intro g hm h9; have := hS9 _ h9; have := hub g hm; omega))
          replace hok := hok.same hs (by first | (simp <;> omega) | (intro hm; have := hS9 _ hm; omega) | (intro g hm; have := hS9 _ hm; omega) | (intro g hm; have := hS9 _ hm; exact .inr (by omega)))
          clear hs
          have hS9 : ∀ g, g ∈ u3.ownBlock.toList → H ≤ g ∧ g ≠ bR := fun g hm => ⟨(World.ownsRow.lt hO g (by simpa using hm)).1, hub2 g (by simpa using hm)⟩
          have hRl2 := hR.lt
          refine WR.appendF rfl hO rfl (show Ls _ 0 _ (u8s [bts x (8 * i2) 8]) from hM.lsOne) (fun i hi => u8s_one hi) Tryz.underlying28 mk5 rfl (by decide) (by simp [u8s_length, Rl.leb_length]; omega) (by omega) rfl rfl ?_
          intro u4 w8 hn hs hfr
          replace hO := hn
          replace hw0 := Nat.le_trans hw0 hs.size
          replace hS := hS.trans hs (by first | (simp <;> omega) | (intro hm; have := hS9 _ hm; omega) | (intro g hm; have := hS9 _ hm; omega) | (intro g hm; have := hS9 _ hm; exact .inr (by omega)))
          replace hrs := hrs.same hs (by first | (simp <;> omega) | (intro hm; have := hS9 _ hm; omega) | (intro g hm; have := hS9 _ hm; omega) | (intro g hm; have := hS9 _ hm; exact .inr (by omega)))
          replace hR := hR.same hs (by first | (simp <;> omega) | (intro hm; have := hS9 _ hm; omega) | (intro g hm; have := hS9 _ hm; omega) | (intro g hm; have := hS9 _ hm; exact .inr (by omega)))
          replace hok := hok.same hs (by first | (simp <;> omega) | (intro hm; have := hS9 _ hm; omega) | (intro g hm; have := hS9 _ hm; omega) | (intro g hm; have := hS9 _ hm; exact .inr (by omega)))
          have hub3 : ∀ q, u4.ownBlock = some q → q ≠ bR := fun q h => by rcases hfr q h with h | h; exact hub2 q h; omega
          clear hn hs
          refine WR.assign rfl rfl ?_
          refine WR.nil (WN.block ?_)
          refine WN.seq (WC.region ?_)
          refine WR.move rfl rfl ?_
          (refine WR.bin rfl rfl (ar_add (z := ((i2 + 1 : Nat) : Int)) ?_) rfl ?_; (rw [wrap_i64 (by omega) (by omega)]; omega))
          refine WR.assign rfl rfl ?_
          refine WR.nil ?_
          exact WN.loop (k2 - 1) (i2 + 1, u4) (by omega) ⟨rfl, kint rfl (by omega), rfl, rfl, rfl, rfl, rfl, trivial⟩ ⟨show i2 + 1 + (k2 - 1) = (W + 7) / 8 by omega, hw0, hS, hrs, hR, hok, hub3, hR.lt, by rw [leb_succ, u8s_append, ← List.append_assoc]; exact hO⟩
        · skip
          simp only [decide_eq_false_iff_not, Int.not_lt] at h85
          refine WC.exit rfl ?_
          refine WN.block (WN.seq (WC.region ?_))
          (refine WR.bin rfl rfl (ar_add (wrap_i64 ?_ ?_)) rfl ?_; (omega); (omega))
          refine WR.move rfl rfl ?_
          refine WR.nil ?_
          exact WN.loop (k - 1) (i + 1, u3) (by omega) ⟨rfl, rfl, rfl, rfl, kint rfl (by omega), trivial⟩ ⟨show i + 1 + (k - 1) = n by omega, hw0, hS, hrs, by rw [htk, List.map_append, show ∀ a b, Rl.enc W (a ++ b) = Rl.enc W a ++ Rl.enc W b from fun a b => by simp [Rl.enc], ← hE]; rw [show Rl.enc W (List.map RR.run [⟨false, ((c : Nat) : Int), Ar, cr, [x]⟩]) = Rl.vlq (2 * c) ++ Rl.leb ((W + 7) / 8) x by simp [Rl.enc, Rl.encR, RR.run], u8s_append, u8s_append, ← List.append_assoc]; rw [show (W + 7) / 8 = i2 by omega]; exact hO⟩
    · skip
      simp only [decide_eq_false_iff_not, Int.not_lt] at h74
      omega
  · skip
    refine WC.seq (WC.region ?_)
    refine WR.bin rfl rfl rfl rfl ?_
    refine WR.nil (WN.seq (WC.seq ?_))
    refine WC.cond rfl (fun h74 => ?_) (fun h74 => ?_)
    · skip
      simp only [decide_eq_true_eq] at h74
      omega
    · skip
      simp only [decide_eq_false_iff_not, Int.not_lt] at h74
      refine WC.exit rfl ?_
      refine WN.seq (WC.seq (WC.region ?_))
      refine WR.move rfl rfl ?_
      refine WR.assign rfl rfl ?_
      refine WR.nil (WN.seq ?_)
      refine WC.retR rfl rfl ?_
      refine ⟨?_, hS⟩
      rw [hn, List.take_length] at hO
      exact hO

end Go.Proofs.YthmknddfkmklfaaGreatDoor.Vm
