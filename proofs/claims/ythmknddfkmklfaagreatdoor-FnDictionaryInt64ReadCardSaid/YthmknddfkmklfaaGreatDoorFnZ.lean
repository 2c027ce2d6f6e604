/- A dictionary's values are fetched when they are asked for. -/
import Derived.Test.YthmknddfkmklfaaGreatDoorFnY
import Derived.Test.YthmknddfkmklfaaGreatDoorVmFresh
namespace Go.Proofs.YthmknddfkmklfaaGreatDoor.Vm
open Go Mix Go.RowKit Num
set_option maxRecDepth 20000
set_option linter.unusedSimpArgs false
section
variable {w w' : World} {bP nv x : Nat} {s u : Value} {S : List Nat}
def PDr (w : World) (bP nv : Nat) (s : Value) : Prop := Row w bP 61 4 (pdF nv s)
theorem PDr.c0 (h : PDr w bP nv s) : w.cell? ⟨bP, 0, none⟩ = some (.int .i64 (nv : Nat)) := Row.cell (i := 0) h (by decide)
theorem PDr.c1 (h : PDr w bP nv s) : w.cell? ⟨bP, 1, none⟩ = some s := Row.cell (i := 1) h (by decide)
theorem PDr.fz (h : PDr w bP nv s) (i : Nat) : w.frozen? ⟨bP, i, none⟩ = false := Row.fz h i
theorem PDr.lt (h : PDr w bP nv s) : bP < w.heap.size := Row.lt h
theorem PDr.s0 (h : PDr w bP nv s) (hw : w' = w.setCell ⟨bP, 0, none⟩ (.int .i64 (x : Nat))) : PDr w' bP x s :=
  Row.congr (Row.set' h hw) fun i hi => by rcases pd4 hi with rfl | rfl | rfl | rfl <;> rfl
theorem PDr.s1 (h : PDr w bP nv s) (hw : w' = w.setCell ⟨bP, 1, none⟩ u) : PDr w' bP nv u :=
  Row.congr (Row.set' h hw) fun i hi => by rcases pd4 hi with rfl | rfl | rfl | rfl <;> rfl
theorem PDr.same (h : PDr w bP nv s) (hs : Same S w w') (hb : bP ∉ S) : PDr w' bP nv s := Row.same h hs hb
end
theorem sl0 (c o : Nat) : (if c = 0 then o else o + 0 * 1) = o := by split <;> rfl
/-- the first k values -/
def vals (e : Nat → Nat) (k : Nat) : List Value := (List.range k).map fun j => .int .i64 (i8 e j)
theorem vals_length (e : Nat → Nat) (k : Nat) : (vals e k).length = k := by simp [vals]
theorem vals_getD {e : Nat → Nat} {k j : Nat} (h : j < k) : (vals e k).getD j undef = .int .i64 (i8 e j) := by simp [vals, h]
theorem i8_shift (e : Nat → Nat) (k j : Nat) : i8 (fun i => e (8 * k + i)) j = i8 e (k + j) := by
  unfold i8
  rw [show (fun i => e (8 * k + (8 * j + i))) = fun i => e (8 * (k + j) + i) from funext fun i => by rw [Nat.mul_add, Nat.add_assoc]]
theorem vals_add (e : Nat → Nat) (k m : Nat) : vals e k ++ vals (fun i => e (8 * k + i)) m = vals e (k + m) := by
  unfold vals
  rw [List.range_add, List.map_append, List.map_map]
  congr 1
  refine List.map_congr_left fun j _ => ?_
  rw [i8_shift]; rfl
def dcF (bP D : Nat) (u : Value) : Nat → Value
  | 0 => .iface 51 (.pointer (some ⟨bP, 0, none⟩))
  | 1 => .int .i64 (D : Nat)
  | 2 => u
  | _ => .int .i64 0
def DCr (w : World) (bC bP D : Nat) (u : Value) : Prop := Row w bC 101 4 (dcF bP D u)
section
variable {w w' : World} {bC bP D : Nat} {u v : Value} {S : List Nat}
theorem DCr.c0 (h : DCr w bC bP D u) : w.cell? ⟨bC, 0, none⟩ = some (.iface 51 (.pointer (some ⟨bP, 0, none⟩))) := Row.cell (i := 0) h (by decide)
theorem DCr.c1 (h : DCr w bC bP D u) : w.cell? ⟨bC, 1, none⟩ = some (.int .i64 (D : Nat)) := Row.cell (i := 1) h (by decide)
theorem DCr.c2 (h : DCr w bC bP D u) : w.cell? ⟨bC, 2, none⟩ = some u := Row.cell (i := 2) h (by decide)
theorem DCr.fz (h : DCr w bC bP D u) (i : Nat) : w.frozen? ⟨bC, i, none⟩ = false := Row.fz h i
theorem DCr.lt (h : DCr w bC bP D u) : bC < w.heap.size := Row.lt h
theorem DCr.s2 (h : DCr w bC bP D u) (hw : w' = w.setCell ⟨bC, 2, none⟩ v) : DCr w' bC bP D v :=
  Row.congr (Row.set' h hw) fun i hi => by rcases pd4 hi with rfl | rfl | rfl | rfl <;> rfl
theorem DCr.same (h : DCr w bC bP D u) (hs : Same S w w') (hb : bC ∉ S) : DCr w' bC bP D u := Row.same h hs hb
end
/-- a slice grown in block q, or nowhere yet -/
def Ob (u : Value) (q bC bP db : Nat) : Prop := ∀ g, u.ownBlock = some g → g = q ∧ 6 ≤ g ∧ g ≠ bC ∧ g ≠ bP ∧ g ≠ db
theorem Ob.new {u u' : Value} {q B bC bP db : Nat} (hq : Ob u q bC bP db) (hf : ∀ g, u'.ownBlock = some g → u.ownBlock = some g ∨ B ≤ g) (h0 : 6 ≤ B) (h1 : bC < B) (h2 : bP < B) (h3 : db < B) {M : Nat} (hl : ∀ g, u'.ownBlock = some g → g < M) (hM : q < M) : ∃ q', Ob u' q' bC bP db ∧ (q' = q ∨ B ≤ q') ∧ q' < M := by
  cases hu : u'.ownBlock with
  | none => exact ⟨q, fun g hg => (by rw [hu] at hg; cases hg), .inl rfl, hM⟩
  | some g =>
    rcases hf g hu with h | h
    · exact ⟨q, fun g' hg' => (by rw [hu] at hg'; obtain rfl := Option.some.inj hg'; exact hq _ h), .inl rfl, hM⟩
    · exact ⟨g, fun g' hg' => (by rw [hu] at hg'; obtain rfl := Option.some.inj hg'; exact ⟨rfl, by omega, by omega, by omega, by omega⟩), .inr h, hl g hu⟩
theorem Own.shape {w : World} {base E : Nat} {v : Value} {xs : List Value} (h : Own w base E v xs) : ∃ A c, v = .slice A xs.length c := h.ls.shape
theorem Own.keep {w w' : World} {base E : Nat} {v : Value} {xs : List Value} {S : List Nat} (h : Own w base E v xs) (hs : Same S w w') (hS : ∀ g, v.ownBlock = some g → g ∉ S) : Own w' base E v xs := by
  obtain ⟨hl, h | ⟨g, cap, cur, h1, h2, h3, h4⟩⟩ := h
  · exact ⟨hl, .inl h⟩
  · have hlt : g < w.heap.size := (Array.getElem?_eq_some_iff.1 h3).1
    exact ⟨hl, .inr ⟨g, cap, cur, h1, h2, (hs.block g hlt (hS g (by rw [h1]; rfl))).trans h3, h4⟩⟩
/-- the converter bC of D values, k of them fetched -/
def DC (w : World) (bC bP q D k db : Nat) (e : Nat → Nat) : Prop :=
  ∃ u, DCr w bC bP D u ∧ k ≤ D ∧ Own w 0 2 u (vals e k) ∧ PD w bP (D - k) db (fun i => e (8 * k + i)) ∧ Ob u q bC bP db ∧ q < w.heap.size
theorem DC.same {w w' : World} {bC bP q D k db : Nat} {e : Nat → Nat} {S : List Nat} (h : DC w bC bP q D k db e) (hs : Same S w w') (h1 : bC ∉ S) (h2 : bP ∉ S) (h3 : q ∉ S) (h4 : db ∉ S) : DC w' bC bP q D k db e := by
  obtain ⟨u, hr, hk, ho, hp, hq, hl⟩ := h
  exact ⟨u, hr.same hs h1, hk, ho.keep hs (fun g hg => by rw [(hq g hg).1]; exact h3), hp.same hs h2 h4, hq, Nat.lt_of_lt_of_le hl hs.size⟩
theorem DC.lt {w : World} {bC bP q D k db : Nat} {e : Nat → Nat} (h : DC w bC bP q D k db e) : bC < w.heap.size ∧ bP < w.heap.size ∧ db < w.heap.size ∧ k ≤ D ∧ q < w.heap.size := by
  obtain ⟨u, hr, hk, ho, hp, hq, hl⟩ := h
  obtain ⟨o, c, hr2, _, _, _, hlt⟩ := hp
  exact ⟨hr.lt, Row.lt hr2, hlt, hk, hl⟩
theorem cf145 (us : Array Value) (w : World) : (callFunc 145 us).run Tryz.prog w = .ok (.enter 145 us) w := by kernel_rfl
theorem cf159 (us : Array Value) (w : World) : (callFunc 159 us).run Tryz.prog w = .ok (.enter 159 us) w := by kernel_rfl
theorem fa57_0 (b o : Nat) (w : World) : (Instr.fieldAt 57 (.pointer (some ⟨b, o, none⟩)) 0).run Tryz.prog w = .ok (.pointer (some ⟨b, o + 0, none⟩)) w := by kernel_rfl
theorem fa57_1 (b o : Nat) (w : World) : (Instr.fieldAt 57 (.pointer (some ⟨b, o, none⟩)) 1).run Tryz.prog w = .ok (.pointer (some ⟨b, o + 1, none⟩)) w := by kernel_rfl
theorem fa61_0 (b o : Nat) (w : World) : (Instr.fieldAt 61 (.pointer (some ⟨b, o, none⟩)) 0).run Tryz.prog w = .ok (.pointer (some ⟨b, o + 0, none⟩)) w := by kernel_rfl
theorem sz28 : (Tryz.prog.info? 28).map (·.size) = some 1 := by kernel_rfl
set_option maxHeartbeats 400000 in
theorem decode {w : World} {aE aU aP : Addr} (hg : Glob w aE aU aP) (bP nv db g o m c t N : Nat) (e : Nat → Nat) (f : Nat → Value) (hP : PD w bP nv db e) (hF : Row w g t N f) (hfit : o + m ≤ N) (hmc : m ≤ c) (hm : m ≤ nv) (hnv : nv ≤ 1048576) (hbP : 6 ≤ bP) (hgg : 6 ≤ g) (hx1 : g ≠ bP) (hx2 : g ≠ db) (hx3 : bP ≠ db) :
    Ret Tryz.prog 157 #[.pointer (some ⟨bP, 0, none⟩), .slice (some ⟨g, o, none⟩) m c] w fun v w' => v = .tuple #[.int .i64 (m : Nat), .nilIface] ∧ PD w' bP (nv - m) db (fun i => e (8 * m + i)) ∧ Row w' g t N (ovr f o (vals e m)) ∧ Same [g, bP] w w' := by
  have hS := Same.refl [g, bP] w
  obtain ⟨o2, c2, hp, hc2, hd, he, hlt⟩ := hP
  have hp1 : PDr w bP nv _ := hp
  clear hp
  have hpl := hp1.lt
  have hgl := hF.lt
  refine Ret.enter (vs := [.pointer (some ⟨bP, 0, none⟩), .slice (some ⟨g, o, none⟩) m c]) Tryz.func157 Tryz.ntmps157 rfl rfl ?_
  refine WC.seq (WC.region ?_)
  refine WR.assign rfl rfl ?_
  refine WR.assign rfl rfl ?_
  refine WR.nil (WN.seq ?_)
  refine WC.seq (WC.region ?_)
  refine WR.move rfl rfl ?_
  refine WR.lenS rfl Tryz.underlying79 rfl ?_
  refine WR.move rfl rfl ?_
  refine WR.nilCheckP rfl rfl ?_
  refine WR.field rfl fa61_0 rfl ?_
  refine WR.field rfl fa57_0 rfl ?_
  refine WR.load rfl Tryz.underlying3 rfl hp1.c0 rfl ?_
  refine WR.min2 rfl rfl rfl ?_
  rw [show (if ((nv : Nat) : Int) < ((m : Nat) : Int) then ((nv : Nat) : Int) else ((m : Nat) : Int)) = ((m : Nat) : Int) by split <;> omega]
  refine WR.assign rfl rfl ?_
  refine WR.nil (WN.seq ?_)
  refine WC.seq (WC.region ?_)
  refine WR.move rfl rfl ?_
  refine WR.callFS rfl rfl cf158 rfl rfl (reqBytes m _ (by omega)) ?_
  refine WR.assign rfl rfl ?_
  refine WR.nil (WN.seq ?_)
  refine WC.seq (WC.seq (WC.region ?_))
  refine WR.move rfl rfl ?_
  refine WR.move rfl rfl ?_
  refine WR.nilCheckP rfl rfl ?_
  refine WR.field rfl fa61_0 rfl ?_
  refine WR.field rfl fa57_1 rfl ?_
  refine WR.load rfl Tryz.underlying28 rfl hp1.c1 rfl ?_
  refine WR.lenS rfl Tryz.underlying28 rfl ?_
  refine WR.bin rfl rfl rfl rfl ?_
  refine WR.move rfl rfl ?_
  refine WR.take rfl rfl (by first | rfl | assumption | simp_all) ?_
  refine WR.move rfl rfl ?_
  refine WR.take rfl rfl (by first | rfl | assumption | simp_all) ?_
  refine WR.bin rfl rfl rfl rfl ?_
  refine WR.pickF rfl (by first | rfl | assumption | simp_all) rfl rfl ?_
  refine WR.nil (WN.seq ?_)
  refine WC.cond rfl (fun h76 => ?_) (fun h76 => ?_)
  · skip
    simp only [gt_iff_lt, decide_eq_true_eq] at h76
    omega
  · skip
    simp only [gt_iff_lt, decide_eq_false_iff_not, Int.not_lt] at h76
    refine WC.skip (WN.seq (WC.seq ?_))
    refine WC.mix [] mixed (by kernel_rfl) ?_
    replace hS := hS.trans (Same.drew _) (by simp <;> omega)
    replace hg := hg.same (Same.drew _) (by simp <;> omega)
    replace hp1 := hp1.same (Same.drew _) (by simp <;> omega)
    replace hF := hF.same (Same.drew _) (by simp <;> omega)
    replace hd := hd.same (Same.drew _) (by simp <;> omega) hlt
    replace hlt := Nat.lt_of_lt_of_le hlt (Same.drew _).size
    refine WR.move rfl rfl ?_
    refine WR.move rfl rfl ?_
    refine WR.slice rfl Tryz.underlying79 sz2 ⟨_, _, rfl, by omega, by omega, show m = Int.toNat _ by omega⟩ rfl rfl ?_
    refine WR.move rfl rfl ?_
    refine WR.nilCheckP rfl rfl ?_
    refine WR.field rfl fa61_0 rfl ?_
    refine WR.field rfl fa57_1 rfl ?_
    refine WR.load rfl Tryz.underlying28 rfl hp1.c1 rfl ?_
    refine WR.move rfl rfl ?_
    refine WR.slice rfl Tryz.underlying28 sz5 ⟨_, _, rfl, by omega, by omega, show 8 * m = Int.toNat _ by omega⟩ rfl rfl ?_
    simp only [sl0]
    refine WR.callF rfl rfl cf159 rfl rfl (copyFrom hg db o2 (8 * m - 0) (c2 - 0) m g o (c - 0) t N e f (fun i hi => hd i (by omega)) (fun i hi => he i (by omega)) hlt (by omega) (by omega) (by omega) hF hfit) ?_
    rintro _ w1 ⟨rfl, hF', hs⟩
    replace hF := hF'
    clear hF'
    replace hS := hS.trans hs (by simp <;> omega)
    replace hg := hg.same hs (by simp <;> omega)
    replace hp1 := hp1.same hs (by simp <;> omega)
    replace hd := hd.same hs (by simp <;> omega) hlt
    replace hlt := Nat.lt_of_lt_of_le hlt hs.size
    refine WR.nil (WN.seq ?_)
    refine WC.seq (WC.region ?_)
    refine WR.move rfl rfl ?_
    refine WR.move rfl rfl ?_
    refine WR.nilCheckP rfl rfl ?_
    refine WR.field rfl fa61_0 rfl ?_
    refine WR.field rfl fa57_1 rfl ?_
    refine WR.load rfl Tryz.underlying28 rfl hp1.c1 rfl ?_
    refine WR.move rfl rfl ?_
    refine WR.slice rfl Tryz.underlying28 sz5 rfl ⟨_, _, rfl, by omega, by omega, show 8 * m = Int.toNat _ by omega⟩ rfl ?_
    refine WR.nilCheckP rfl rfl ?_
    refine WR.field rfl fa61_0 rfl ?_
    refine WR.field rfl fa57_1 rfl ?_
    refine WR.storeK rfl rfl rfl sz28 hp1.c1 (hp1.fz 1) ?_
    intro w2 hn hs
    replace hp1 := hp1.s1 hn
    replace hS := hS.trans hs (by simp <;> omega)
    replace hg := hg.same hs (by simp <;> omega)
    replace hF := hF.same hs (by simp <;> omega)
    replace hd := hd.same hs (by simp <;> omega) hlt
    replace hlt := Nat.lt_of_lt_of_le hlt hs.size
    clear hn hs
    refine WR.nil (WN.seq ?_)
    refine WC.seq (WC.region ?_)
    refine WR.move rfl rfl ?_
    refine WR.nilCheckP rfl rfl ?_
    refine WR.field rfl fa61_0 rfl ?_
    refine WR.field rfl fa57_0 rfl ?_
    refine WR.load rfl Tryz.underlying3 rfl hp1.c0 rfl ?_
    refine WR.move rfl rfl ?_
    (refine WR.bin rfl rfl (ar_sub (z := ((nv - m : Nat) : Int)) ?_) rfl ?_; (rw [wrap_i64 (by omega) (by omega)]; omega))
    refine WR.nilCheckP rfl rfl ?_
    refine WR.field rfl fa61_0 rfl ?_
    refine WR.field rfl fa57_0 rfl ?_
    refine WR.storeK rfl rfl rfl sz3 hp1.c0 (hp1.fz 0) ?_
    intro w3 hn hs
    replace hp1 := hp1.s0 hn
    replace hS := hS.trans hs (by simp <;> omega)
    replace hg := hg.same hs (by simp <;> omega)
    replace hF := hF.same hs (by simp <;> omega)
    replace hd := hd.same hs (by simp <;> omega) hlt
    replace hlt := Nat.lt_of_lt_of_le hlt hs.size
    clear hn hs
    refine WR.nil (WN.seq ?_)
    refine WC.seq (WC.region ?_)
    refine WR.move rfl rfl ?_
    refine WR.assign rfl rfl ?_
    refine WR.assign rfl rfl ?_
    refine WR.nil (WN.seq ?_)
    refine WC.retR rfl rfl ?_
    rw [show 8 * nv - 8 * m = 8 * (nv - m) by omega] at hp1
    refine ⟨rfl, ⟨_, _, hp1, by omega, ?_, fun i hi => he _ (by omega), hlt⟩, hF, hS⟩
    intro i hi
    rw [if_neg (by omega), Nat.mul_one, Nat.add_assoc]
    exact hd (8 * m + i) (by omega)

theorem mm_step {x : Nat → Nat} {i : Nat} {mnI mxI : Int} (hst : i = 0 ∧ mnI = 2147483647 ∧ mxI = -2147483648 ∨ ∃ mn mx : Nat, mnI = mn ∧ mxI = mx ∧ mn ≤ mx ∧ mx ≤ 1048576 ∧ (∀ j, j < i → x j ≤ mx) ∧ ∃ j, j < i ∧ mx = x j) (hxi : x i ≤ 1048576) :
    ∃ mn mx : Nat, (mn : Int) = (if ((x i : Nat) : Int) < mnI then ((x i : Nat) : Int) else mnI) ∧ (mx : Int) = (if mxI < ((x i : Nat) : Int) then ((x i : Nat) : Int) else mxI) ∧ mn ≤ mx ∧ mx ≤ 1048576 ∧ (∀ j, j < i + 1 → x j ≤ mx) ∧ ∃ j, j < i + 1 ∧ mx = x j := by
  rcases hst with ⟨rfl, rfl, rfl⟩ | ⟨mn, mx, rfl, rfl, h1, h2, h3, j, hj, rfl⟩
  · refine ⟨x 0, x 0, by rw [if_pos (by omega)], by rw [if_pos (by omega)], Nat.le_refl _, hxi, fun j hj => ?_, 0, by omega, rfl⟩
    obtain rfl : j = 0 := by omega
    exact Nat.le_refl _
  · refine ⟨min mn (x i), max (x j) (x i), by split <;> omega, by split <;> omega, by omega, by omega, fun l hl => ?_, ?_⟩
    · rcases Nat.lt_or_ge l i with h | h
      · have := h3 l h; omega
      · obtain rfl : l = i := by omega
        omega
    · rcases Nat.lt_or_ge (x j) (x i) with h | h
      · exact ⟨i, by omega, by omega⟩
      · exact ⟨j, by omega, by omega⟩

set_option maxHeartbeats 400000 in
theorem minMax {w : World} (g o k c : Nat) (x : Nat → Nat) (hd : Rd w g o k (fun j => .int .i32 (x j : Nat))) (hx : ∀ j, j < k → x j ≤ 1048576) (hk0 : 0 < k) (hk : k ≤ 1099511627776) :
    Ret Tryz.prog 145 #[.slice (some ⟨g, o, none⟩) k c] w fun v w' => w' = w ∧ ∃ mn mx : Nat, v = .tuple #[.int .i32 (mn : Nat), .int .i32 (mx : Nat)] ∧ mn ≤ mx ∧ (∀ j, j < k → x j ≤ mx) ∧ ∃ j, j < k ∧ mx = x j := by
  refine Ret.enter (vs := [.slice (some ⟨g, o, none⟩) k c]) Tryz.func145 Tryz.ntmps145 rfl rfl ?_
  refine WC.seq (WC.region ?_)
  refine WR.assign rfl rfl ?_
  refine WR.assign rfl rfl ?_
  refine WR.nil (WN.seq ?_)
  refine WC.seq (WC.region ?_)
  refine WR.assign rfl rfl ?_
  refine WR.nil (WN.seq ?_)
  refine WC.seq (WC.region ?_)
  refine WR.assign rfl rfl ?_
  refine WR.nil (WN.seq ?_)
  refine WC.seq (WC.seq (WC.region ?_))
  refine WR.move rfl rfl ?_
  refine WR.lenS rfl Tryz.underlying141 rfl ?_
  refine WR.move rfl rfl ?_
  refine WR.nil (WN.seq (WC.block ?_))
  refine WC.loop (fun s : Nat × Int × Int => [(0, .slice (some ⟨g, o, none⟩) k c), (2, .int .i32 s.2.1), (3, .int .i32 s.2.2), (6, .slice (some ⟨g, o, none⟩) k c), (7, .int .i64 (k : Nat)), (8, .int .i64 (s.1 : Nat))]) (fun n s w' => s.1 + n = k ∧ w' = w ∧ (s.1 = 0 ∧ s.2.1 = 2147483647 ∧ s.2.2 = -2147483648 ∨ ∃ mn mx : Nat, s.2.1 = mn ∧ s.2.2 = mx ∧ mn ≤ mx ∧ mx ≤ 1048576 ∧ (∀ j, j < s.1 → x j ≤ mx) ∧ ∃ j, j < s.1 ∧ mx = x j)) k (0, 2147483647, -2147483648) ⟨rfl, rfl, rfl, rfl, rfl, rfl, trivial⟩ ⟨by simp, rfl, .inl ⟨rfl, rfl, rfl⟩⟩ ?_
  rintro n ⟨i, mnI, mxI⟩ w9 ⟨hm2, hw9, hst⟩
  replace hw9 := hw9.symm
  subst hw9
  simp only at hm2 hst
  rcases (show i < k ∨ i = k by omega) with hi | rfl
  · skip
    have hxi := hx i hi
    obtain ⟨mnJ, mxJ, hmn, hmx, hle, hle2, hall, hex⟩ : ∃ mn mx : Nat, (mn : Int) = (if ((x i : Nat) : Int) < mnI then ((x i : Nat) : Int) else mnI) ∧ (mx : Int) = (if mxI < ((x i : Nat) : Int) then ((x i : Nat) : Int) else mxI) ∧ mn ≤ mx ∧ mx ≤ 1048576 ∧ (∀ j, j < i + 1 → x j ≤ mx) ∧ ∃ j, j < i + 1 ∧ mx = x j := mm_step hst hxi
    clear hst
    refine WC.seq (WC.region ?_)
    refine WR.bin rfl rfl rfl rfl ?_
    refine WR.nil (WN.seq (WC.seq ?_))
    refine WC.cond rfl (fun h91 => ?_) (fun h91 => ?_)
    · skip
      simp only [decide_eq_true_eq] at h91
      refine WC.skip (WN.seq ?_)
      refine WC.seq (WC.block ?_)
      refine WC.seq (WC.region ?_)
      refine WR.idxK (i) rfl rfl Tryz.underlying141 sz21 (by omega) (by omega) rfl ?_
      refine WR.load rfl Tryz.underlying21 rfl (hd i hi) rfl ?_
      refine WR.assign rfl rfl ?_
      refine WR.nil (WN.seq ?_)
      refine WC.seq (WC.seq (WC.region ?_))
      refine WR.move rfl rfl ?_
      refine WR.move rfl rfl ?_
      refine WR.bin rfl rfl rfl rfl ?_
      refine WR.nil (WN.seq ?_)
      refine WC.cond rfl (fun h92 => ?_) (fun h92 => ?_)
      · skip
        simp only [gt_iff_lt, decide_eq_true_eq] at h92
        rw [if_pos h92] at hmn
        refine WC.region ?_
        refine WR.move rfl rfl ?_
        refine WR.assign rfl rfl ?_
        refine WR.nil (WN.seq ?_)
        refine WC.seq (WC.region ?_)
        refine WR.move rfl rfl ?_
        refine WR.move rfl rfl ?_
        refine WR.bin rfl rfl rfl rfl ?_
        refine WR.nil (WN.seq ?_)
        refine WC.cond rfl (fun h95 => ?_) (fun h95 => ?_)
        · skip
          simp only [decide_eq_true_eq] at h95
          rw [if_pos h95] at hmx
          refine WC.region ?_
          refine WR.move rfl rfl ?_
          refine WR.assign rfl rfl ?_
          refine WR.nil (WN.block ?_)
          refine WN.seq (WC.region ?_)
          (refine WR.bin rfl rfl (ar_add (wrap_i64 ?_ ?_)) rfl ?_; (omega); (omega))
          refine WR.move rfl rfl ?_
          refine WR.nil ?_
          exact WN.loop (n - 1) (i + 1, (mnJ : Int), (mxJ : Int)) (by omega) ⟨rfl, kint rfl hmn.symm, kint rfl hmx.symm, rfl, rfl, kint rfl (by omega), trivial⟩ ⟨show i + 1 + (n - 1) = k by omega, rfl, .inr ⟨mnJ, mxJ, rfl, rfl, hle, hle2, hall, hex⟩⟩
        · skip
          simp only [decide_eq_false_iff_not, Int.not_lt] at h95
          rw [if_neg (by omega)] at hmx
          refine WC.skip (WN.block ?_)
          refine WN.seq (WC.region ?_)
          (refine WR.bin rfl rfl (ar_add (wrap_i64 ?_ ?_)) rfl ?_; (omega); (omega))
          refine WR.move rfl rfl ?_
          refine WR.nil ?_
          exact WN.loop (n - 1) (i + 1, (mnJ : Int), (mxJ : Int)) (by omega) ⟨rfl, kint rfl hmn.symm, kint rfl hmx.symm, rfl, rfl, kint rfl (by omega), trivial⟩ ⟨show i + 1 + (n - 1) = k by omega, rfl, .inr ⟨mnJ, mxJ, rfl, rfl, hle, hle2, hall, hex⟩⟩
      · skip
        simp only [gt_iff_lt, decide_eq_false_iff_not, Int.not_lt] at h92
        rw [if_neg (by omega)] at hmn
        refine WC.skip (WN.seq ?_)
        refine WC.seq (WC.region ?_)
        refine WR.move rfl rfl ?_
        refine WR.move rfl rfl ?_
        refine WR.bin rfl rfl rfl rfl ?_
        refine WR.nil (WN.seq ?_)
        refine WC.cond rfl (fun h95 => ?_) (fun h95 => ?_)
        · skip
          simp only [decide_eq_true_eq] at h95
          rw [if_pos h95] at hmx
          refine WC.region ?_
          refine WR.move rfl rfl ?_
          refine WR.assign rfl rfl ?_
          refine WR.nil (WN.block ?_)
          refine WN.seq (WC.region ?_)
          (refine WR.bin rfl rfl (ar_add (wrap_i64 ?_ ?_)) rfl ?_; (omega); (omega))
          refine WR.move rfl rfl ?_
          refine WR.nil ?_
          exact WN.loop (n - 1) (i + 1, (mnJ : Int), (mxJ : Int)) (by omega) ⟨rfl, kint rfl hmn.symm, kint rfl hmx.symm, rfl, rfl, kint rfl (by omega), trivial⟩ ⟨show i + 1 + (n - 1) = k by omega, rfl, .inr ⟨mnJ, mxJ, rfl, rfl, hle, hle2, hall, hex⟩⟩
        · skip
          simp only [decide_eq_false_iff_not, Int.not_lt] at h95
          rw [if_neg (by omega)] at hmx
          refine WC.skip (WN.block ?_)
          refine WN.seq (WC.region ?_)
          (refine WR.bin rfl rfl (ar_add (wrap_i64 ?_ ?_)) rfl ?_; (omega); (omega))
          refine WR.move rfl rfl ?_
          refine WR.nil ?_
          exact WN.loop (n - 1) (i + 1, (mnJ : Int), (mxJ : Int)) (by omega) ⟨rfl, kint rfl hmn.symm, kint rfl hmx.symm, rfl, rfl, kint rfl (by omega), trivial⟩ ⟨show i + 1 + (n - 1) = k by omega, rfl, .inr ⟨mnJ, mxJ, rfl, rfl, hle, hle2, hall, hex⟩⟩
    · skip
      simp only [decide_eq_false_iff_not, Int.not_lt] at h91
      omega
  · skip
    obtain ⟨mn, mx, rfl, rfl, hle, hle2, hall, hex⟩ : ∃ mn mx : Nat, mnI = mn ∧ mxI = mx ∧ mn ≤ mx ∧ mx ≤ 1048576 ∧ (∀ j, j < i → x j ≤ mx) ∧ ∃ j, j < i ∧ mx = x j := hst.resolve_left (by omega)
    refine WC.seq (WC.region ?_)
    refine WR.bin rfl rfl rfl rfl ?_
    refine WR.nil (WN.seq (WC.seq ?_))
    refine WC.cond rfl (fun h91 => ?_) (fun h91 => ?_)
    · skip
      simp only [decide_eq_true_eq] at h91
      omega
    · skip
      simp only [decide_eq_false_iff_not, Int.not_lt] at h91
      refine WC.exit rfl ?_
      refine WN.seq ?_
      refine WC.retR rfl rfl ?_
      exact ⟨rfl, mn, mx, rfl, hle, hall, hex⟩

set_option maxHeartbeats 200000 in
theorem getMinMax {w : World} (g o k c : Nat) (x : Nat → Nat) (hd : Rd w g o k (fun j => .int .i32 (x j : Nat))) (hx : ∀ j, j < k → x j ≤ 1048576) (hk0 : 0 < k) (hk : k ≤ 1099511627776) :
    Ret Tryz.prog 144 #[.slice (some ⟨g, o, none⟩) k c] w fun v w' => w' = w ∧ ∃ mn mx : Nat, v = .tuple #[.int .i32 (mn : Nat), .int .i32 (mx : Nat)] ∧ mn ≤ mx ∧ (∀ j, j < k → x j ≤ mx) ∧ ∃ j, j < k ∧ mx = x j := by
  refine Ret.enter (vs := [.slice (some ⟨g, o, none⟩) k c]) Tryz.func144 Tryz.ntmps144 rfl rfl ?_
  refine WC.seq (WC.region ?_)
  refine WR.assign rfl rfl ?_
  refine WR.assign rfl rfl ?_
  refine WR.nil (WN.seq ?_)
  refine WC.seq (WC.region ?_)
  refine WR.move rfl rfl ?_
  refine WR.callF rfl rfl cf145 rfl rfl (minMax g o k c x hd hx hk0 hk) ?_
  rintro _ w9 ⟨hw9, mn, mx, rfl, hle, hall, hex⟩
  replace hw9 := hw9.symm
  subst hw9
  refine WR.extract rfl rfl rfl ?_
  refine WR.extract rfl rfl rfl ?_
  refine WR.assign rfl rfl ?_
  refine WR.assign rfl rfl ?_
  refine WR.nil (WN.seq ?_)
  refine WC.retR rfl rfl ?_
  exact ⟨rfl, mn, mx, rfl, hle, hall, hex⟩

end Go.Proofs.YthmknddfkmklfaaGreatDoor.Vm
