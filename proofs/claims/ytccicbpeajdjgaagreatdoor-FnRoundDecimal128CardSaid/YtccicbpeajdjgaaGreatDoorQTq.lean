/- Room for intermediate results. -/
import Derived.Test.YtccicbpeajdjgaaGreatDoorQVm
import Derived.Test.YtccicbpeajdjgaaGreatDoorQTp
set_option linter.unusedVariables false
set_option linter.unusedSimpArgs false
namespace Go.Proofs.YtccicbpeajdjgaaGreatDoor.Vm
open Go Mix Go.RowKit Wd
abbrev u207 := @Tryz.underlying207
set_option maxRecDepth 20000
/-- a store of intermediate results that holds nothing -/
def SK (w : World) (b : Nat) : Prop := Row w b 209 1 fun _ => .pointer none
theorem SK.c0 {w : World} {b : Nat} (h : SK w b) : w.cell? ⟨b, 0, none⟩ = some (.pointer none) := Row.cell (i := 0) h zo
theorem SK.lt {w : World} {b : Nat} (h : SK w b) : b < w.heap.size := Row.lt h
theorem SK.same {w w' : World} {b : Nat} {S : List Nat} (h : SK w b) (hs : Same S w w') (hb : b ∉ S := by first | (simp; done) | (simp; omega)) : SK w' b := Row.same h hs hb
theorem SK.box (w : World) : SK (w.alloc (.cells #[.pointer none] 209)) w.heap.size := (Row.alloc w #[.pointer none] 209).congr fun i hi => by
 have hi : i < 1 := hi;obtain rfl : i = 0 := by omega
 rfl
theorem cf130 (us : Array Value) (w : World) : (callFunc 130 us).run Tryz.prog w = .ok (.enter 130 us) w := by kernel_rfl
theorem cf162 (us : Array Value) (w : World) : (callFunc 162 us).run Tryz.prog w = .ok (.enter 162 us) w := by kernel_rfl
theorem cf213 (us : Array Value) (w : World) : (callFunc 213 us).run Tryz.prog w = .ok (.enter 213 us) w := by kernel_rfl
theorem mC (b o : Nat) (w : World) : (Instr.fieldAt 209 (.pointer (some ⟨b, o, none⟩)) 0).run Tryz.prog w = .ok (.pointer (some ⟨b, o + 0, none⟩)) w := by kernel_rfl
theorem sz209 : (Tryz.prog.info? 209).map (·.size) = some 1 := by kernel_rfl
set_option maxHeartbeats 200000 in
theorem vO {w : World} :
 Ret Tryz.prog 129 #[] w fun v w' => v = .pointer (some ⟨w.heap.size, 0, none⟩) ∧ SK w' w.heap.size ∧ Same [] w w' := by
 have hS := Same.refl [] w;refine aS Tryz.func129 Tryz.ntmps129 rfl rfl (aD (aB (aF rfl rfl (aG (aE (aD (aB (eH rfl rfl (v := .agg #[.pointer none]) (fun w => by kernel_rfl) rfl rfl (cA rfl rfl rfl ?_)))))))));intro w1 hn hs;replace hS := hS.trans hs
 have hK : SK w1 w.heap.size := by rw [hn]; exact SK.box w
 clear hn hs;exact aF rfl rfl (aG (aE (aZ rfl rfl ⟨rfl, hK, hS⟩)))
set_option maxHeartbeats 200000 in
theorem uL {w : World} (b : Nat) (hK : SK w b) :
 Ret Tryz.prog 163 #[.pointer (some ⟨b, 0, none⟩)] w fun v w' => v = .int .i64 0 ∧ w' = w := by
 refine aS Tryz.func163 Tryz.ntmps163 rfl rfl (aD (aB (aF rfl rfl (aG (aE (aD (aB (aA rfl rfl (aP rfl rfl (aO rfl mC rfl (aL rfl u207 rfl hK.c0 rfl (aF rfl rfl (aG (aE (aD (aD (aB (aA rfl rfl (lB rfl rfl u207 rfl (aG (aE ?_)))))))))))))))))))));refine aK rfl (fun h296 => ?_) (fun h296 => ?_)
 ·exact aD (aB (aF rfl rfl (aG (aE (aZ rfl rfl ⟨rfl, rfl⟩)))))
 ·first | (cases h296; done) | (simp at h296; done)
set_option maxHeartbeats 200000 in
theorem nN {w : World} (b : Nat) (hK : SK w b) :
 CallsD Tryz.prog 162 #[.pointer (some ⟨b, 0, none⟩), .int .i64 0] .returning w fun e u' w' => (∃ v, e = .returned v) ∧ u' = .returning ∧ w' = w := by
 refine CallsD.enter (vs := [.pointer (some ⟨b, 0, none⟩), .int .i64 0]) Tryz.func162 Tryz.ntmps162 rfl rfl ?_;intro c₀ cs hm9;refine aD (aB (aA rfl rfl (aP rfl rfl (aO rfl mC rfl (aL rfl u207 rfl hK.c0 rfl (aF rfl rfl (aG (aE (aD (aD (aB (aA rfl rfl (lB rfl rfl u207 rfl (aG (aE ?_)))))))))))))));refine aK rfl (fun h303 => ?_) (fun h303 => ?_)
 ·exact WC.retQ rfl rfl hm9
    
 ·first | (cases h303; done) | (simp at h303; done)
set_option maxHeartbeats 200000 in
theorem stFree {w : World} (b : Nat) (hK : SK w b) :
 CallsD Tryz.prog 130 #[.pointer (some ⟨b, 0, none⟩)] .returning w fun e u' w' => (∃ v, e = .returned v) ∧ u' = .returning ∧ w' = w := by
 refine CallsD.enter (vs := [.pointer (some ⟨b, 0, none⟩)]) Tryz.func130 Tryz.ntmps130 rfl rfl ?_;intro c₀ cs hm9;refine aD (aB (aA rfl rfl (aP rfl rfl (aO rfl mC rfl (aL rfl u207 rfl hK.c0 rfl (aF rfl rfl (aG (aE (aD (aB (aA rfl rfl (wW rfl rfl u207 rfl (aG (aE ?_))))))))))))));refine aK rfl (fun h290 => ?_) (fun h290 => ?_)
 ·first | (cases h290; done) | (simp at h290; done)
 ·exact aX (WN.endQ rfl rfl hm9)
    
set_option maxHeartbeats 400000 in
theorem growN {w : World} (n : Nat) (h0 : 0 < n) (hn : n ≤ 1024) :
 Ret Tryz.prog 213 #[.slice none 0 0, .int .i64 (n : Nat)] w fun v w' => ∃ c, v = .slice (some ⟨w.heap.size, 0, none⟩) 0 c ∧ n ≤ c ∧ Row w' w.heap.size 150 c (fun _ => .int .u64 0) ∧ Same [] w w' := by
 refine aS Tryz.func213 Tryz.ntmps213 rfl rfl (aD (aB (aF rfl rfl (aG (aE (aD (aD (aB (aA rfl rfl (aI rfl rfl rfl rfl (aG (aE ?_))))))))))));refine aK rfl (fun h423 => ?_) (fun h423 => ?_)
 ·simp only [decide_eq_true_eq] at h423;omega
 ·simp only [decide_eq_false_iff_not, Int.not_lt] at h423;refine aX (aE (aD (aD (aB (aA rfl rfl (aA rfl rfl (fU rfl u126 rfl (aA rfl rfl (bB rfl u126 rfl ?_)))))))))
  (refine aI rfl rfl (cT (aV ?_ ?_)) rfl ?_; (omega); (omega))
  (refine aI rfl rfl (cT (z := ((n : Nat) : Int)) ?_) rfl ?_; (rw [aV zw zw]; omega))
  refine aF rfl rfl (aG (aE (aD (aB (aA rfl rfl (aI rfl rfl rfl rfl (aG (aE ?_))))))));refine aK rfl (fun h426 => ?_) (fun h426 => ?_)
  ·simp only [gt_iff_lt, decide_eq_true_eq] at h426;exact aB (aA rfl rfl (aA rfl rfl (fU rfl u126 rfl (lP rfl u126 cV ⟨_, _, rfl, by decide, by decide, show 0 = Int.toNat _ by rfl⟩ rfl rfl (aA rfl rfl (rO (n := n) rfl rfl h0 hn u126 Tryz.underlying3 vE rfl zo rfl rfl (fun w1 c9 hc9 hM hS => aA rfl rfl (bB rfl u126 rfl (fC rfl u126 cV ⟨_, _, rfl, by decide, by omega, show 0 = Int.toNat _ by rfl⟩ rfl (aF rfl rfl (aG (aE (aD (aB (aA rfl rfl (aF rfl rfl (aG (aE (aZ rfl rfl ⟨c9, rfl, hc9, hM, hS⟩)))))))))))))))))))
  ·simp only [gt_iff_lt, decide_eq_false_iff_not, Int.not_lt] at h426;omega
set_option maxHeartbeats 400000 in
theorem stNat {w : World} (b : Nat) (hK : SK w b) (n : Nat) (h0 : 0 < n) (hn : n ≤ 4) :
 Ret Tryz.prog 165 #[.pointer (some ⟨b, 0, none⟩), .int .i64 (n : Nat)] w fun v w' => ∃ c f, v = .slice (some ⟨w.heap.size, 0, none⟩) n c ∧ n ≤ c ∧ Row w' w.heap.size 150 c f ∧ Same [] w w' := by
 have hS := Same.refl [] w;refine aS Tryz.func165 Tryz.ntmps165 rfl rfl (aD (aB (aF rfl rfl (aG (aE (aD (aB (aA rfl rfl (aP rfl rfl (aO rfl mC rfl (aL rfl u207 rfl hK.c0 rfl (aF rfl rfl (aG (aE (aD (aD (aB (aA rfl rfl (lB rfl rfl u207 rfl (aG (aE ?_)))))))))))))))))))));refine aK rfl (fun h310 => ?_) (fun h310 => ?_)
 ·refine aD (aD (aB (aA rfl rfl (aI rfl rfl rfl rfl (aG (aE ?_))))));refine aK rfl (fun h311 => ?_) (fun h311 => ?_)
  ·simp only [decide_eq_true_eq] at h311;refine aD (aB (aA rfl rfl (aR rfl rfl cf213 rfl rfl (growN n h0 zw) ?_)));rintro _ w1 ⟨c, rfl, hc, hM, hs⟩;replace hS := hS.trans hs;refine aF rfl rfl (aG (aE (aD (aB (aA rfl rfl (aA rfl rfl (fC rfl u126 cV ⟨_, _, rfl, by omega, by omega, show n = Int.toNat _ by omega⟩ rfl (aF rfl rfl (aG (aE (aD (aD (aB (aA rfl rfl (aI rfl rfl rfl rfl (aG (aE ?_)))))))))))))))));refine aK rfl (fun h317 => ?_) (fun h317 => ?_)
   ·simp only [gt_iff_lt, decide_eq_true_eq] at h317;refine aB (aA rfl rfl (cC rfl rfl u126 cV zw zw rfl (cM rfl rfl rfl cV (hM.cell zw) (hM.fz _) ?_)));intro w2 hn hs;replace hM := hM.set' hn;replace hS := hS.trans hs;clear hn hs;exact aG (aE (aD (aB (aA rfl rfl (aF rfl rfl (aG (aE (aZ rfl rfl ⟨c, _, rfl, hc, hM, hS⟩))))))))
   ·simp only [gt_iff_lt, decide_eq_false_iff_not, Int.not_lt] at h317;omega
  ·simp only [decide_eq_false_iff_not, Int.not_le] at h311;omega
 ·first | (cases h310; done) | (simp at h310; done)
end Go.Proofs.YtccicbpeajdjgaaGreatDoor.Vm
