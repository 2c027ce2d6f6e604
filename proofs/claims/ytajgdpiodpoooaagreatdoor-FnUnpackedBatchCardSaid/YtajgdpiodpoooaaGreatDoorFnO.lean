/- GetValue. -/
import Derived.Test.YtajgdpiodpoooaaGreatDoorFnN
namespace Go.Proofs.YtajgdpiodpoooaaGreatDoor.Vm
open Go Mix Go.RowKit Num
set_option maxRecDepth 20000
set_option linter.unusedSimpArgs false
theorem cf19 (us : Array Value) (w : World) : (callFunc 19 us).run Tryz.prog w = .ok (.enter 19 us) w := by kernel_rfl
theorem mk28 : (Tryz.prog.info? 28).map (fun i => (i.size, i.bytes, i.zero)) = some (1, 8, some (.int .u64 0)) := by kernel_rfl
set_option maxHeartbeats 400000 in
theorem getValue {w : World} {aE aU aP : Addr} (hg : Glob w aE aU aP) (b rb db dO len cap n pos : Nat) (d : Nat → Nat) (ha : At w b rb db dO len cap d pos) (hn1 : 1 ≤ n) (hn2 : n ≤ 64) (hfit : pos + n ≤ 8 * len) (hgb : 7 ≤ b) (hrb : 7 ≤ rb) (hne : b ≠ rb) (hnd : b ≠ db) (hrd : rb ≠ db) :
    Ret Tryz.prog 26 #[.pointer (some ⟨b, 0, none⟩), .int .i64 (n : Int)] w fun v w' => v = .tuple #[.int .u64 (bts (num d len) pos n : Nat), .bool true] ∧ At w' b rb db dO len cap d (pos + n) ∧ Same [b, rb] w w' := by
  have hS := Same.refl [b, rb] w
  have hl := ha.lt
  have hsz := hg.size
  refine Ret.enter (vs := [.pointer (some ⟨b, 0, none⟩), .int .i64 (n : Int)]) Tryz.func26 Tryz.ntmps26 rfl rfl ?_
  refine WC.seq ?_
  refine WC.region ?_
  refine WR.assign rfl rfl ?_
  refine WR.assign rfl rfl ?_
  refine WR.nil ?_
  refine WN.seq ?_
  refine WC.seq ?_
  refine WC.region ?_
  obtain ⟨bM, hbM⟩ : ∃ x, x = w.heap.size := ⟨_, rfl⟩
  refine WR.make (n := 1) rfl rfl Tryz.underlying24 mk28 rfl (by decide) (by omega) rfl rfl ?_
  rw [← hbM]
  intro w1 hM hs
  replace hg := hg.same hs (by simp <;> omega)
  replace ha := ha.same hs (by simp <;> omega) (by simp <;> omega) (by simp <;> omega)
  replace hS := hS.trans hs (by simp <;> omega)
  clear hs
  refine WR.assign rfl rfl ?_
  refine WR.nil ?_
  refine WN.seq ?_
  refine WC.seq ?_
  refine WC.region ?_
  refine WR.move rfl rfl ?_
  refine WR.move rfl rfl ?_
  first
    | (refine WR.conv rfl Tryz.underlying3 Tryz.underlying44 (wrap_u64 ?_ ?_) rfl ?_; (omega); (omega))
    | refine WR.conv rfl Tryz.underlying3 Tryz.underlying44 rfl rfl ?_
  refine WR.move rfl rfl ?_
  refine WR.callF rfl rfl cf19 rfl rfl (getBatch hg b rb db dO len cap n 1 bM 0 1 28 1 pos d _ ha hM (by omega) (by omega) (by omega) hn1 hn2 (by omega) hgb hrb (by omega) hne hnd hrd (by omega) (by omega) (by omega)) ?_
  rintro _ w2 ⟨rfl, ha', ⟨F, hF, hput⟩, hs⟩
  replace ha := ha'
  replace hS := hS.trans hs (by simp <;> omega)
  refine WR.move rfl rfl ?_
  refine WR.extract rfl rfl rfl ?_
  refine WR.extract rfl rfl rfl ?_
  refine WR.assign rfl rfl ?_
  refine WR.assign rfl rfl ?_
  refine WR.nil ?_
  refine WN.seq ?_
  refine WC.seq ?_
  refine WC.region ?_
  refine WR.move rfl rfl ?_
  refine WR.idxK (0) rfl rfl Tryz.underlying24 sz28 (by omega) (by omega) rfl ?_
  refine WR.load rfl Tryz.underlying28 rfl ((hF.cell (by omega)).trans (congrArg some (hput.1 0 (by decide)))) rfl ?_
  refine WR.move rfl rfl ?_
  refine WR.bin rfl rfl rfl rfl ?_
  refine WR.assign rfl rfl ?_
  refine WR.assign rfl rfl ?_
  refine WR.nil ?_
  refine WN.seq ?_
  refine WC.retR rfl rfl ?_
  rw [Nat.mul_one] at ha
  exact ⟨rfl, ha, hS⟩

end Go.Proofs.YtajgdpiodpoooaaGreatDoor.Vm
