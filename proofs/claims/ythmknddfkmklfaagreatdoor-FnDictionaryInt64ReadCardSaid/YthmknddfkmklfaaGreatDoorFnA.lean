/- Small functions of the bit reader's road: what each returns. -/
import Derived.Test.YthmknddfkmklfaaGreatDoorFacts
namespace Go.Proofs.YthmknddfkmklfaaGreatDoor.Vm
open Go Mix Go.RowKit
set_option maxRecDepth 20000
theorem bytesForBits (n : Int) (w : World) (h0 : 0 ≤ n) (h1 : n ≤ 9223372036854775800) :
    Ret Tryz.prog 64 #[.int .i64 n] w fun v w' => v = .int .i64 ((n + 7) / 8) ∧ w' = w := by
  refine Ret.enter (vs := [.int .i64 n]) Tryz.func64 Tryz.ntmps64 rfl rfl ?_
  refine WC.seq (WC.region ?_)
  refine WR.assign rfl rfl ?_
  refine WR.nil (WN.seq ?_)
  refine WC.seq (WC.region ?_)
  refine WR.move rfl rfl ?_
  (refine WR.bin rfl rfl (ar_add (wrap_i64 ?_ ?_)) rfl ?_; (omega); (omega))
  refine WR.shr rfl rfl (by decide) (fdiv_c (D := 8) rfl (by decide)) rfl ?_
  refine WR.assign rfl rfl ?_
  refine WR.nil (WN.seq ?_)
  refine WC.retR rfl rfl ?_
  exact ⟨rfl, rfl⟩
end Go.Proofs.YthmknddfkmklfaaGreatDoor.Vm
