/- The unpack functions without a loop. -/
import Derived.Test.YthmknddfkmklfaaGreatDoorUnpK
namespace Go.Proofs.YthmknddfkmklfaaGreatDoor.Vm
open Go Mix Go.RowKit Num
set_option maxRecDepth 20000
set_option linter.unusedSimpArgs false
theorem unpk2 (p : UP) {w : World} (h : UIn p 2 w) :
    Ret Tryz.prog 85 #[.iface 120 (.pointer (some ⟨p.rb, p.rb.off, none⟩)), .slice (some ⟨p.g, p.o, none⟩) p.dl p.dc] w (unpR p 2 w) := by
  refine Ret.enter (vs := [.iface 120 (.pointer (some ⟨p.rb, p.rb.off, none⟩)), .slice (some ⟨p.g, p.o, none⟩) p.dl p.dc]) Tryz.func85 Tryz.ntmps85 rfl rfl ?_
  refine WC.seq (WC.region ?_)
  refine WR.alloc zvU rfl rfl ?_
  intro w1 hn _
  refine WR.nil ?_
  replace h := US.start h hn
  refine WN.weak (L3 p w.heap.size) ⟨rfl, rfl, rfl, trivial⟩ ?_
  clear hn
  revert h; generalize w.heap.size = b; intro h
  refine WN.seq (WC.seq ?_)
  refine unpD 0 4 h (by decide) rfl rfl rfl rfl fun w1 h => WN.seq (WC.seq ?_)
  refine unpA 0 h rfl rfl rfl (by decide) (by decide) (by decide) (by decide) rfl rfl fun w1 h => WN.seq (WC.seq ?_)
  refine unpA 2 h rfl rfl rfl (by decide) (by decide) (by decide) (by decide) rfl rfl fun w1 h => WN.seq (WC.seq ?_)
  refine unpA 4 h rfl rfl rfl (by decide) (by decide) (by decide) (by decide) rfl rfl fun w1 h => WN.seq (WC.seq ?_)
  refine unpA 6 h rfl rfl rfl (by decide) (by decide) (by decide) (by decide) rfl rfl fun w1 h => WN.seq (WC.seq ?_)
  refine unpA 8 h rfl rfl rfl (by decide) (by decide) (by decide) (by decide) rfl rfl fun w1 h => WN.seq (WC.seq ?_)
  refine unpA 10 h rfl rfl rfl (by decide) (by decide) (by decide) (by decide) rfl rfl fun w1 h => WN.seq (WC.seq ?_)
  refine unpA 12 h rfl rfl rfl (by decide) (by decide) (by decide) (by decide) rfl rfl fun w1 h => WN.seq (WC.seq ?_)
  refine unpA 14 h rfl rfl rfl (by decide) (by decide) (by decide) (by decide) rfl rfl fun w1 h => WN.seq (WC.seq ?_)
  refine unpA 16 h rfl rfl rfl (by decide) (by decide) (by decide) (by decide) rfl rfl fun w1 h => WN.seq (WC.seq ?_)
  refine unpA 18 h rfl rfl rfl (by decide) (by decide) (by decide) (by decide) rfl rfl fun w1 h => WN.seq (WC.seq ?_)
  refine unpA 20 h rfl rfl rfl (by decide) (by decide) (by decide) (by decide) rfl rfl fun w1 h => WN.seq (WC.seq ?_)
  refine unpA 22 h rfl rfl rfl (by decide) (by decide) (by decide) (by decide) rfl rfl fun w1 h => WN.seq (WC.seq ?_)
  refine unpA 24 h rfl rfl rfl (by decide) (by decide) (by decide) (by decide) rfl rfl fun w1 h => WN.seq (WC.seq ?_)
  refine unpA 26 h rfl rfl rfl (by decide) (by decide) (by decide) (by decide) rfl rfl fun w1 h => WN.seq (WC.seq ?_)
  refine unpA 28 h rfl rfl rfl (by decide) (by decide) (by decide) (by decide) rfl rfl fun w1 h => WN.seq (WC.seq ?_)
  refine unpB 30 2 h rfl rfl (by decide) rfl (by decide) (by decide) rfl rfl ?_
  intro w1 h
  replace h := h.next (by decide)
  refine WN.seq (WC.seq ?_)
  refine unpD 32 8 h (by decide) rfl rfl rfl rfl fun w1 h => WN.seq (WC.seq ?_)
  refine unpA 0 h rfl rfl rfl (by decide) (by decide) (by decide) (by decide) rfl rfl fun w1 h => WN.seq (WC.seq ?_)
  refine unpA 2 h rfl rfl rfl (by decide) (by decide) (by decide) (by decide) rfl rfl fun w1 h => WN.seq (WC.seq ?_)
  refine unpA 4 h rfl rfl rfl (by decide) (by decide) (by decide) (by decide) rfl rfl fun w1 h => WN.seq (WC.seq ?_)
  refine unpA 6 h rfl rfl rfl (by decide) (by decide) (by decide) (by decide) rfl rfl fun w1 h => WN.seq (WC.seq ?_)
  refine unpA 8 h rfl rfl rfl (by decide) (by decide) (by decide) (by decide) rfl rfl fun w1 h => WN.seq (WC.seq ?_)
  refine unpA 10 h rfl rfl rfl (by decide) (by decide) (by decide) (by decide) rfl rfl fun w1 h => WN.seq (WC.seq ?_)
  refine unpA 12 h rfl rfl rfl (by decide) (by decide) (by decide) (by decide) rfl rfl fun w1 h => WN.seq (WC.seq ?_)
  refine unpA 14 h rfl rfl rfl (by decide) (by decide) (by decide) (by decide) rfl rfl fun w1 h => WN.seq (WC.seq ?_)
  refine unpA 16 h rfl rfl rfl (by decide) (by decide) (by decide) (by decide) rfl rfl fun w1 h => WN.seq (WC.seq ?_)
  refine unpA 18 h rfl rfl rfl (by decide) (by decide) (by decide) (by decide) rfl rfl fun w1 h => WN.seq (WC.seq ?_)
  refine unpA 20 h rfl rfl rfl (by decide) (by decide) (by decide) (by decide) rfl rfl fun w1 h => WN.seq (WC.seq ?_)
  refine unpA 22 h rfl rfl rfl (by decide) (by decide) (by decide) (by decide) rfl rfl fun w1 h => WN.seq (WC.seq ?_)
  refine unpA 24 h rfl rfl rfl (by decide) (by decide) (by decide) (by decide) rfl rfl fun w1 h => WN.seq (WC.seq ?_)
  refine unpA 26 h rfl rfl rfl (by decide) (by decide) (by decide) (by decide) rfl rfl fun w1 h => WN.seq (WC.seq ?_)
  refine unpA 28 h rfl rfl rfl (by decide) (by decide) (by decide) (by decide) rfl rfl ?_
  intro w1 h
  refine WN.seq ?_
  refine unpB 30 2 h rfl rfl (by decide) rfl (by decide) (by decide) rfl rfl ?_
  intro w1 h
  replace h := h.next (by decide)
  refine WN.endR rfl rfl ?_
  exact h.done

theorem unpk3 (p : UP) {w : World} (h : UIn p 3 w) :
    Ret Tryz.prog 86 #[.iface 120 (.pointer (some ⟨p.rb, p.rb.off, none⟩)), .slice (some ⟨p.g, p.o, none⟩) p.dl p.dc] w (unpR p 3 w) := by
  refine Ret.enter (vs := [.iface 120 (.pointer (some ⟨p.rb, p.rb.off, none⟩)), .slice (some ⟨p.g, p.o, none⟩) p.dl p.dc]) Tryz.func86 Tryz.ntmps86 rfl rfl ?_
  refine WC.seq (WC.region ?_)
  refine WR.alloc zvU rfl rfl ?_
  intro w1 hn _
  refine WR.nil ?_
  replace h := US.start h hn
  refine WN.weak (L3 p w.heap.size) ⟨rfl, rfl, rfl, trivial⟩ ?_
  clear hn
  revert h; generalize w.heap.size = b; intro h
  refine WN.seq (WC.seq ?_)
  refine unpD 0 4 h (by decide) rfl rfl rfl rfl fun w1 h => WN.seq (WC.seq ?_)
  refine unpA 0 h rfl rfl rfl (by decide) (by decide) (by decide) (by decide) rfl rfl fun w1 h => WN.seq (WC.seq ?_)
  refine unpA 3 h rfl rfl rfl (by decide) (by decide) (by decide) (by decide) rfl rfl fun w1 h => WN.seq (WC.seq ?_)
  refine unpA 6 h rfl rfl rfl (by decide) (by decide) (by decide) (by decide) rfl rfl fun w1 h => WN.seq (WC.seq ?_)
  refine unpA 9 h rfl rfl rfl (by decide) (by decide) (by decide) (by decide) rfl rfl fun w1 h => WN.seq (WC.seq ?_)
  refine unpA 12 h rfl rfl rfl (by decide) (by decide) (by decide) (by decide) rfl rfl fun w1 h => WN.seq (WC.seq ?_)
  refine unpA 15 h rfl rfl rfl (by decide) (by decide) (by decide) (by decide) rfl rfl fun w1 h => WN.seq (WC.seq ?_)
  refine unpA 18 h rfl rfl rfl (by decide) (by decide) (by decide) (by decide) rfl rfl fun w1 h => WN.seq (WC.seq ?_)
  refine unpA 21 h rfl rfl rfl (by decide) (by decide) (by decide) (by decide) rfl rfl fun w1 h => WN.seq (WC.seq ?_)
  refine unpA 24 h rfl rfl rfl (by decide) (by decide) (by decide) (by decide) rfl rfl fun w1 h => WN.seq (WC.seq ?_)
  refine unpA 27 h rfl rfl rfl (by decide) (by decide) (by decide) (by decide) rfl rfl fun w1 h => WN.seq (WC.seq ?_)
  refine unpB 30 2 h rfl rfl (by decide) rfl (by decide) (by decide) rfl rfl fun w1 h => WN.seq (WC.seq ?_)
  refine unpD 32 8 h (by decide) rfl rfl rfl rfl fun w1 h => WN.seq (WC.seq ?_)
  refine unpC 1 (by kernel_rfl) h rfl rfl rfl (by decide) (by decide) (by decide) (by decide) (by decide) rfl rfl fun w1 h => WN.seq (WC.seq ?_)
  refine unpA 1 h rfl rfl rfl (by decide) (by decide) (by decide) (by decide) rfl rfl fun w1 h => WN.seq (WC.seq ?_)
  refine unpA 4 h rfl rfl rfl (by decide) (by decide) (by decide) (by decide) rfl rfl fun w1 h => WN.seq (WC.seq ?_)
  refine unpA 7 h rfl rfl rfl (by decide) (by decide) (by decide) (by decide) rfl rfl fun w1 h => WN.seq (WC.seq ?_)
  refine unpA 10 h rfl rfl rfl (by decide) (by decide) (by decide) (by decide) rfl rfl fun w1 h => WN.seq (WC.seq ?_)
  refine unpA 13 h rfl rfl rfl (by decide) (by decide) (by decide) (by decide) rfl rfl fun w1 h => WN.seq (WC.seq ?_)
  refine unpA 16 h rfl rfl rfl (by decide) (by decide) (by decide) (by decide) rfl rfl fun w1 h => WN.seq (WC.seq ?_)
  refine unpA 19 h rfl rfl rfl (by decide) (by decide) (by decide) (by decide) rfl rfl fun w1 h => WN.seq (WC.seq ?_)
  refine unpA 22 h rfl rfl rfl (by decide) (by decide) (by decide) (by decide) rfl rfl fun w1 h => WN.seq (WC.seq ?_)
  refine unpA 25 h rfl rfl rfl (by decide) (by decide) (by decide) (by decide) rfl rfl fun w1 h => WN.seq (WC.seq ?_)
  refine unpA 28 h rfl rfl rfl (by decide) (by decide) (by decide) (by decide) rfl rfl fun w1 h => WN.seq (WC.seq ?_)
  refine unpE 31 1 h rfl rfl rfl (by decide) rfl (by decide) (by decide) (by decide) rfl rfl fun w1 h => WN.seq (WC.seq ?_)
  refine unpD 64 12 h (by decide) rfl rfl rfl rfl fun w1 h => WN.seq (WC.seq ?_)
  refine unpC 2 (by kernel_rfl) h rfl rfl rfl (by decide) (by decide) (by decide) (by decide) (by decide) rfl rfl fun w1 h => WN.seq (WC.seq ?_)
  refine unpA 2 h rfl rfl rfl (by decide) (by decide) (by decide) (by decide) rfl rfl fun w1 h => WN.seq (WC.seq ?_)
  refine unpA 5 h rfl rfl rfl (by decide) (by decide) (by decide) (by decide) rfl rfl fun w1 h => WN.seq (WC.seq ?_)
  refine unpA 8 h rfl rfl rfl (by decide) (by decide) (by decide) (by decide) rfl rfl fun w1 h => WN.seq (WC.seq ?_)
  refine unpA 11 h rfl rfl rfl (by decide) (by decide) (by decide) (by decide) rfl rfl fun w1 h => WN.seq (WC.seq ?_)
  refine unpA 14 h rfl rfl rfl (by decide) (by decide) (by decide) (by decide) rfl rfl fun w1 h => WN.seq (WC.seq ?_)
  refine unpA 17 h rfl rfl rfl (by decide) (by decide) (by decide) (by decide) rfl rfl fun w1 h => WN.seq (WC.seq ?_)
  refine unpA 20 h rfl rfl rfl (by decide) (by decide) (by decide) (by decide) rfl rfl fun w1 h => WN.seq (WC.seq ?_)
  refine unpA 23 h rfl rfl rfl (by decide) (by decide) (by decide) (by decide) rfl rfl fun w1 h => WN.seq (WC.seq ?_)
  refine unpA 26 h rfl rfl rfl (by decide) (by decide) (by decide) (by decide) rfl rfl ?_
  intro w1 h
  refine WN.seq ?_
  refine unpB 29 3 h rfl rfl (by decide) rfl (by decide) (by decide) rfl rfl ?_
  intro w1 h
  replace h := h.next (by decide)
  refine WN.endR rfl rfl ?_
  exact h.done

theorem unpk5 (p : UP) {w : World} (h : UIn p 5 w) :
    Ret Tryz.prog 88 #[.iface 120 (.pointer (some ⟨p.rb, p.rb.off, none⟩)), .slice (some ⟨p.g, p.o, none⟩) p.dl p.dc] w (unpR p 5 w) := by
  refine Ret.enter (vs := [.iface 120 (.pointer (some ⟨p.rb, p.rb.off, none⟩)), .slice (some ⟨p.g, p.o, none⟩) p.dl p.dc]) Tryz.func88 Tryz.ntmps88 rfl rfl ?_
  refine WC.seq (WC.region ?_)
  refine WR.alloc zvU rfl rfl ?_
  intro w1 hn _
  refine WR.nil ?_
  replace h := US.start h hn
  refine WN.weak (L3 p w.heap.size) ⟨rfl, rfl, rfl, trivial⟩ ?_
  clear hn
  revert h; generalize w.heap.size = b; intro h
  refine WN.seq (WC.seq ?_)
  refine unpD 0 4 h (by decide) rfl rfl rfl rfl fun w1 h => WN.seq (WC.seq ?_)
  refine unpA 0 h rfl rfl rfl (by decide) (by decide) (by decide) (by decide) rfl rfl fun w1 h => WN.seq (WC.seq ?_)
  refine unpA 5 h rfl rfl rfl (by decide) (by decide) (by decide) (by decide) rfl rfl fun w1 h => WN.seq (WC.seq ?_)
  refine unpA 10 h rfl rfl rfl (by decide) (by decide) (by decide) (by decide) rfl rfl fun w1 h => WN.seq (WC.seq ?_)
  refine unpA 15 h rfl rfl rfl (by decide) (by decide) (by decide) (by decide) rfl rfl fun w1 h => WN.seq (WC.seq ?_)
  refine unpA 20 h rfl rfl rfl (by decide) (by decide) (by decide) (by decide) rfl rfl fun w1 h => WN.seq (WC.seq ?_)
  refine unpA 25 h rfl rfl rfl (by decide) (by decide) (by decide) (by decide) rfl rfl fun w1 h => WN.seq (WC.seq ?_)
  refine unpB 30 2 h rfl rfl (by decide) rfl (by decide) (by decide) rfl rfl fun w1 h => WN.seq (WC.seq ?_)
  refine unpD 32 8 h (by decide) rfl rfl rfl rfl fun w1 h => WN.seq (WC.seq ?_)
  refine unpC 3 (by kernel_rfl) h rfl rfl rfl (by decide) (by decide) (by decide) (by decide) (by decide) rfl rfl fun w1 h => WN.seq (WC.seq ?_)
  refine unpA 3 h rfl rfl rfl (by decide) (by decide) (by decide) (by decide) rfl rfl fun w1 h => WN.seq (WC.seq ?_)
  refine unpA 8 h rfl rfl rfl (by decide) (by decide) (by decide) (by decide) rfl rfl fun w1 h => WN.seq (WC.seq ?_)
  refine unpA 13 h rfl rfl rfl (by decide) (by decide) (by decide) (by decide) rfl rfl fun w1 h => WN.seq (WC.seq ?_)
  refine unpA 18 h rfl rfl rfl (by decide) (by decide) (by decide) (by decide) rfl rfl fun w1 h => WN.seq (WC.seq ?_)
  refine unpA 23 h rfl rfl rfl (by decide) (by decide) (by decide) (by decide) rfl rfl fun w1 h => WN.seq (WC.seq ?_)
  refine unpB 28 4 h rfl rfl (by decide) rfl (by decide) (by decide) rfl rfl fun w1 h => WN.seq (WC.seq ?_)
  refine unpD 64 12 h (by decide) rfl rfl rfl rfl fun w1 h => WN.seq (WC.seq ?_)
  refine unpC 1 (by kernel_rfl) h rfl rfl rfl (by decide) (by decide) (by decide) (by decide) (by decide) rfl rfl fun w1 h => WN.seq (WC.seq ?_)
  refine unpA 1 h rfl rfl rfl (by decide) (by decide) (by decide) (by decide) rfl rfl fun w1 h => WN.seq (WC.seq ?_)
  refine unpA 6 h rfl rfl rfl (by decide) (by decide) (by decide) (by decide) rfl rfl fun w1 h => WN.seq (WC.seq ?_)
  refine unpA 11 h rfl rfl rfl (by decide) (by decide) (by decide) (by decide) rfl rfl fun w1 h => WN.seq (WC.seq ?_)
  refine unpA 16 h rfl rfl rfl (by decide) (by decide) (by decide) (by decide) rfl rfl fun w1 h => WN.seq (WC.seq ?_)
  refine unpA 21 h rfl rfl rfl (by decide) (by decide) (by decide) (by decide) rfl rfl fun w1 h => WN.seq (WC.seq ?_)
  refine unpA 26 h rfl rfl rfl (by decide) (by decide) (by decide) (by decide) rfl rfl fun w1 h => WN.seq (WC.seq ?_)
  refine unpB 31 1 h rfl rfl (by decide) rfl (by decide) (by decide) rfl rfl fun w1 h => WN.seq (WC.seq ?_)
  refine unpD 96 16 h (by decide) rfl rfl rfl rfl fun w1 h => WN.seq (WC.seq ?_)
  refine unpC 4 (by kernel_rfl) h rfl rfl rfl (by decide) (by decide) (by decide) (by decide) (by decide) rfl rfl fun w1 h => WN.seq (WC.seq ?_)
  refine unpA 4 h rfl rfl rfl (by decide) (by decide) (by decide) (by decide) rfl rfl fun w1 h => WN.seq (WC.seq ?_)
  refine unpA 9 h rfl rfl rfl (by decide) (by decide) (by decide) (by decide) rfl rfl fun w1 h => WN.seq (WC.seq ?_)
  refine unpA 14 h rfl rfl rfl (by decide) (by decide) (by decide) (by decide) rfl rfl fun w1 h => WN.seq (WC.seq ?_)
  refine unpA 19 h rfl rfl rfl (by decide) (by decide) (by decide) (by decide) rfl rfl fun w1 h => WN.seq (WC.seq ?_)
  refine unpA 24 h rfl rfl rfl (by decide) (by decide) (by decide) (by decide) rfl rfl fun w1 h => WN.seq (WC.seq ?_)
  refine unpB 29 3 h rfl rfl (by decide) rfl (by decide) (by decide) rfl rfl fun w1 h => WN.seq (WC.seq ?_)
  refine unpD 128 20 h (by decide) rfl rfl rfl rfl fun w1 h => WN.seq (WC.seq ?_)
  refine unpC 2 (by kernel_rfl) h rfl rfl rfl (by decide) (by decide) (by decide) (by decide) (by decide) rfl rfl fun w1 h => WN.seq (WC.seq ?_)
  refine unpA 2 h rfl rfl rfl (by decide) (by decide) (by decide) (by decide) rfl rfl fun w1 h => WN.seq (WC.seq ?_)
  refine unpA 7 h rfl rfl rfl (by decide) (by decide) (by decide) (by decide) rfl rfl fun w1 h => WN.seq (WC.seq ?_)
  refine unpA 12 h rfl rfl rfl (by decide) (by decide) (by decide) (by decide) rfl rfl fun w1 h => WN.seq (WC.seq ?_)
  refine unpA 17 h rfl rfl rfl (by decide) (by decide) (by decide) (by decide) rfl rfl fun w1 h => WN.seq (WC.seq ?_)
  refine unpA 22 h rfl rfl rfl (by decide) (by decide) (by decide) (by decide) rfl rfl ?_
  intro w1 h
  refine WN.seq ?_
  refine unpB 27 5 h rfl rfl (by decide) rfl (by decide) (by decide) rfl rfl ?_
  intro w1 h
  replace h := h.next (by decide)
  refine WN.endR rfl rfl ?_
  exact h.done

theorem unpk6 (p : UP) {w : World} (h : UIn p 6 w) :
    Ret Tryz.prog 89 #[.iface 120 (.pointer (some ⟨p.rb, p.rb.off, none⟩)), .slice (some ⟨p.g, p.o, none⟩) p.dl p.dc] w (unpR p 6 w) := by
  refine Ret.enter (vs := [.iface 120 (.pointer (some ⟨p.rb, p.rb.off, none⟩)), .slice (some ⟨p.g, p.o, none⟩) p.dl p.dc]) Tryz.func89 Tryz.ntmps89 rfl rfl ?_
  refine WC.seq (WC.region ?_)
  refine WR.alloc zvU rfl rfl ?_
  intro w1 hn _
  refine WR.nil ?_
  replace h := US.start h hn
  refine WN.weak (L3 p w.heap.size) ⟨rfl, rfl, rfl, trivial⟩ ?_
  clear hn
  revert h; generalize w.heap.size = b; intro h
  refine WN.seq (WC.seq ?_)
  refine unpD 0 4 h (by decide) rfl rfl rfl rfl fun w1 h => WN.seq (WC.seq ?_)
  refine unpA 0 h rfl rfl rfl (by decide) (by decide) (by decide) (by decide) rfl rfl fun w1 h => WN.seq (WC.seq ?_)
  refine unpA 6 h rfl rfl rfl (by decide) (by decide) (by decide) (by decide) rfl rfl fun w1 h => WN.seq (WC.seq ?_)
  refine unpA 12 h rfl rfl rfl (by decide) (by decide) (by decide) (by decide) rfl rfl fun w1 h => WN.seq (WC.seq ?_)
  refine unpA 18 h rfl rfl rfl (by decide) (by decide) (by decide) (by decide) rfl rfl fun w1 h => WN.seq (WC.seq ?_)
  refine unpA 24 h rfl rfl rfl (by decide) (by decide) (by decide) (by decide) rfl rfl fun w1 h => WN.seq (WC.seq ?_)
  refine unpB 30 2 h rfl rfl (by decide) rfl (by decide) (by decide) rfl rfl fun w1 h => WN.seq (WC.seq ?_)
  refine unpD 32 8 h (by decide) rfl rfl rfl rfl fun w1 h => WN.seq (WC.seq ?_)
  refine unpC 4 (by kernel_rfl) h rfl rfl rfl (by decide) (by decide) (by decide) (by decide) (by decide) rfl rfl fun w1 h => WN.seq (WC.seq ?_)
  refine unpA 4 h rfl rfl rfl (by decide) (by decide) (by decide) (by decide) rfl rfl fun w1 h => WN.seq (WC.seq ?_)
  refine unpA 10 h rfl rfl rfl (by decide) (by decide) (by decide) (by decide) rfl rfl fun w1 h => WN.seq (WC.seq ?_)
  refine unpA 16 h rfl rfl rfl (by decide) (by decide) (by decide) (by decide) rfl rfl fun w1 h => WN.seq (WC.seq ?_)
  refine unpA 22 h rfl rfl rfl (by decide) (by decide) (by decide) (by decide) rfl rfl fun w1 h => WN.seq (WC.seq ?_)
  refine unpB 28 4 h rfl rfl (by decide) rfl (by decide) (by decide) rfl rfl fun w1 h => WN.seq (WC.seq ?_)
  refine unpD 64 12 h (by decide) rfl rfl rfl rfl fun w1 h => WN.seq (WC.seq ?_)
  refine unpC 2 (by kernel_rfl) h rfl rfl rfl (by decide) (by decide) (by decide) (by decide) (by decide) rfl rfl fun w1 h => WN.seq (WC.seq ?_)
  refine unpA 2 h rfl rfl rfl (by decide) (by decide) (by decide) (by decide) rfl rfl fun w1 h => WN.seq (WC.seq ?_)
  refine unpA 8 h rfl rfl rfl (by decide) (by decide) (by decide) (by decide) rfl rfl fun w1 h => WN.seq (WC.seq ?_)
  refine unpA 14 h rfl rfl rfl (by decide) (by decide) (by decide) (by decide) rfl rfl fun w1 h => WN.seq (WC.seq ?_)
  refine unpA 20 h rfl rfl rfl (by decide) (by decide) (by decide) (by decide) rfl rfl fun w1 h => WN.seq (WC.seq ?_)
  refine unpB 26 6 h rfl rfl (by decide) rfl (by decide) (by decide) rfl rfl ?_
  intro w1 h
  replace h := h.next (by decide)
  refine WN.seq (WC.seq ?_)
  refine unpD 96 16 h (by decide) rfl rfl rfl rfl fun w1 h => WN.seq (WC.seq ?_)
  refine unpA 0 h rfl rfl rfl (by decide) (by decide) (by decide) (by decide) rfl rfl fun w1 h => WN.seq (WC.seq ?_)
  refine unpA 6 h rfl rfl rfl (by decide) (by decide) (by decide) (by decide) rfl rfl fun w1 h => WN.seq (WC.seq ?_)
  refine unpA 12 h rfl rfl rfl (by decide) (by decide) (by decide) (by decide) rfl rfl fun w1 h => WN.seq (WC.seq ?_)
  refine unpA 18 h rfl rfl rfl (by decide) (by decide) (by decide) (by decide) rfl rfl fun w1 h => WN.seq (WC.seq ?_)
  refine unpA 24 h rfl rfl rfl (by decide) (by decide) (by decide) (by decide) rfl rfl fun w1 h => WN.seq (WC.seq ?_)
  refine unpB 30 2 h rfl rfl (by decide) rfl (by decide) (by decide) rfl rfl fun w1 h => WN.seq (WC.seq ?_)
  refine unpD 128 20 h (by decide) rfl rfl rfl rfl fun w1 h => WN.seq (WC.seq ?_)
  refine unpC 4 (by kernel_rfl) h rfl rfl rfl (by decide) (by decide) (by decide) (by decide) (by decide) rfl rfl fun w1 h => WN.seq (WC.seq ?_)
  refine unpA 4 h rfl rfl rfl (by decide) (by decide) (by decide) (by decide) rfl rfl fun w1 h => WN.seq (WC.seq ?_)
  refine unpA 10 h rfl rfl rfl (by decide) (by decide) (by decide) (by decide) rfl rfl fun w1 h => WN.seq (WC.seq ?_)
  refine unpA 16 h rfl rfl rfl (by decide) (by decide) (by decide) (by decide) rfl rfl fun w1 h => WN.seq (WC.seq ?_)
  refine unpA 22 h rfl rfl rfl (by decide) (by decide) (by decide) (by decide) rfl rfl fun w1 h => WN.seq (WC.seq ?_)
  refine unpB 28 4 h rfl rfl (by decide) rfl (by decide) (by decide) rfl rfl fun w1 h => WN.seq (WC.seq ?_)
  refine unpD 160 24 h (by decide) rfl rfl rfl rfl fun w1 h => WN.seq (WC.seq ?_)
  refine unpC 2 (by kernel_rfl) h rfl rfl rfl (by decide) (by decide) (by decide) (by decide) (by decide) rfl rfl fun w1 h => WN.seq (WC.seq ?_)
  refine unpA 2 h rfl rfl rfl (by decide) (by decide) (by decide) (by decide) rfl rfl fun w1 h => WN.seq (WC.seq ?_)
  refine unpA 8 h rfl rfl rfl (by decide) (by decide) (by decide) (by decide) rfl rfl fun w1 h => WN.seq (WC.seq ?_)
  refine unpA 14 h rfl rfl rfl (by decide) (by decide) (by decide) (by decide) rfl rfl fun w1 h => WN.seq (WC.seq ?_)
  refine unpA 20 h rfl rfl rfl (by decide) (by decide) (by decide) (by decide) rfl rfl ?_
  intro w1 h
  refine WN.seq ?_
  refine unpB 26 6 h rfl rfl (by decide) rfl (by decide) (by decide) rfl rfl ?_
  intro w1 h
  replace h := h.next (by decide)
  refine WN.endR rfl rfl ?_
  exact h.done

theorem unpk7 (p : UP) {w : World} (h : UIn p 7 w) :
    Ret Tryz.prog 90 #[.iface 120 (.pointer (some ⟨p.rb, p.rb.off, none⟩)), .slice (some ⟨p.g, p.o, none⟩) p.dl p.dc] w (unpR p 7 w) := by
  refine Ret.enter (vs := [.iface 120 (.pointer (some ⟨p.rb, p.rb.off, none⟩)), .slice (some ⟨p.g, p.o, none⟩) p.dl p.dc]) Tryz.func90 Tryz.ntmps90 rfl rfl ?_
  refine WC.seq (WC.region ?_)
  refine WR.alloc zvU rfl rfl ?_
  intro w1 hn _
  refine WR.nil ?_
  replace h := US.start h hn
  refine WN.weak (L3 p w.heap.size) ⟨rfl, rfl, rfl, trivial⟩ ?_
  clear hn
  revert h; generalize w.heap.size = b; intro h
  refine WN.seq (WC.seq ?_)
  refine unpD 0 4 h (by decide) rfl rfl rfl rfl fun w1 h => WN.seq (WC.seq ?_)
  refine unpA 0 h rfl rfl rfl (by decide) (by decide) (by decide) (by decide) rfl rfl fun w1 h => WN.seq (WC.seq ?_)
  refine unpA 7 h rfl rfl rfl (by decide) (by decide) (by decide) (by decide) rfl rfl fun w1 h => WN.seq (WC.seq ?_)
  refine unpA 14 h rfl rfl rfl (by decide) (by decide) (by decide) (by decide) rfl rfl fun w1 h => WN.seq (WC.seq ?_)
  refine unpA 21 h rfl rfl rfl (by decide) (by decide) (by decide) (by decide) rfl rfl fun w1 h => WN.seq (WC.seq ?_)
  refine unpB 28 4 h rfl rfl (by decide) rfl (by decide) (by decide) rfl rfl fun w1 h => WN.seq (WC.seq ?_)
  refine unpD 32 8 h (by decide) rfl rfl rfl rfl fun w1 h => WN.seq (WC.seq ?_)
  refine unpC 3 (by kernel_rfl) h rfl rfl rfl (by decide) (by decide) (by decide) (by decide) (by decide) rfl rfl fun w1 h => WN.seq (WC.seq ?_)
  refine unpA 3 h rfl rfl rfl (by decide) (by decide) (by decide) (by decide) rfl rfl fun w1 h => WN.seq (WC.seq ?_)
  refine unpA 10 h rfl rfl rfl (by decide) (by decide) (by decide) (by decide) rfl rfl fun w1 h => WN.seq (WC.seq ?_)
  refine unpA 17 h rfl rfl rfl (by decide) (by decide) (by decide) (by decide) rfl rfl fun w1 h => WN.seq (WC.seq ?_)
  refine unpA 24 h rfl rfl rfl (by decide) (by decide) (by decide) (by decide) rfl rfl fun w1 h => WN.seq (WC.seq ?_)
  refine unpB 31 1 h rfl rfl (by decide) rfl (by decide) (by decide) rfl rfl fun w1 h => WN.seq (WC.seq ?_)
  refine unpD 64 12 h (by decide) rfl rfl rfl rfl fun w1 h => WN.seq (WC.seq ?_)
  refine unpC 6 (by kernel_rfl) h rfl rfl rfl (by decide) (by decide) (by decide) (by decide) (by decide) rfl rfl fun w1 h => WN.seq (WC.seq ?_)
  refine unpA 6 h rfl rfl rfl (by decide) (by decide) (by decide) (by decide) rfl rfl fun w1 h => WN.seq (WC.seq ?_)
  refine unpA 13 h rfl rfl rfl (by decide) (by decide) (by decide) (by decide) rfl rfl fun w1 h => WN.seq (WC.seq ?_)
  refine unpA 20 h rfl rfl rfl (by decide) (by decide) (by decide) (by decide) rfl rfl fun w1 h => WN.seq (WC.seq ?_)
  refine unpB 27 5 h rfl rfl (by decide) rfl (by decide) (by decide) rfl rfl fun w1 h => WN.seq (WC.seq ?_)
  refine unpD 96 16 h (by decide) rfl rfl rfl rfl fun w1 h => WN.seq (WC.seq ?_)
  refine unpC 2 (by kernel_rfl) h rfl rfl rfl (by decide) (by decide) (by decide) (by decide) (by decide) rfl rfl fun w1 h => WN.seq (WC.seq ?_)
  refine unpA 2 h rfl rfl rfl (by decide) (by decide) (by decide) (by decide) rfl rfl fun w1 h => WN.seq (WC.seq ?_)
  refine unpA 9 h rfl rfl rfl (by decide) (by decide) (by decide) (by decide) rfl rfl fun w1 h => WN.seq (WC.seq ?_)
  refine unpA 16 h rfl rfl rfl (by decide) (by decide) (by decide) (by decide) rfl rfl fun w1 h => WN.seq (WC.seq ?_)
  refine unpA 23 h rfl rfl rfl (by decide) (by decide) (by decide) (by decide) rfl rfl fun w1 h => WN.seq (WC.seq ?_)
  refine unpB 30 2 h rfl rfl (by decide) rfl (by decide) (by decide) rfl rfl fun w1 h => WN.seq (WC.seq ?_)
  refine unpD 128 20 h (by decide) rfl rfl rfl rfl fun w1 h => WN.seq (WC.seq ?_)
  refine unpC 5 (by kernel_rfl) h rfl rfl rfl (by decide) (by decide) (by decide) (by decide) (by decide) rfl rfl fun w1 h => WN.seq (WC.seq ?_)
  refine unpA 5 h rfl rfl rfl (by decide) (by decide) (by decide) (by decide) rfl rfl fun w1 h => WN.seq (WC.seq ?_)
  refine unpA 12 h rfl rfl rfl (by decide) (by decide) (by decide) (by decide) rfl rfl fun w1 h => WN.seq (WC.seq ?_)
  refine unpA 19 h rfl rfl rfl (by decide) (by decide) (by decide) (by decide) rfl rfl fun w1 h => WN.seq (WC.seq ?_)
  refine unpB 26 6 h rfl rfl (by decide) rfl (by decide) (by decide) rfl rfl fun w1 h => WN.seq (WC.seq ?_)
  refine unpD 160 24 h (by decide) rfl rfl rfl rfl fun w1 h => WN.seq (WC.seq ?_)
  refine unpC 1 (by kernel_rfl) h rfl rfl rfl (by decide) (by decide) (by decide) (by decide) (by decide) rfl rfl fun w1 h => WN.seq (WC.seq ?_)
  refine unpA 1 h rfl rfl rfl (by decide) (by decide) (by decide) (by decide) rfl rfl fun w1 h => WN.seq (WC.seq ?_)
  refine unpA 8 h rfl rfl rfl (by decide) (by decide) (by decide) (by decide) rfl rfl fun w1 h => WN.seq (WC.seq ?_)
  refine unpA 15 h rfl rfl rfl (by decide) (by decide) (by decide) (by decide) rfl rfl fun w1 h => WN.seq (WC.seq ?_)
  refine unpA 22 h rfl rfl rfl (by decide) (by decide) (by decide) (by decide) rfl rfl fun w1 h => WN.seq (WC.seq ?_)
  refine unpB 29 3 h rfl rfl (by decide) rfl (by decide) (by decide) rfl rfl fun w1 h => WN.seq (WC.seq ?_)
  refine unpD 192 28 h (by decide) rfl rfl rfl rfl fun w1 h => WN.seq (WC.seq ?_)
  refine unpC 4 (by kernel_rfl) h rfl rfl rfl (by decide) (by decide) (by decide) (by decide) (by decide) rfl rfl fun w1 h => WN.seq (WC.seq ?_)
  refine unpA 4 h rfl rfl rfl (by decide) (by decide) (by decide) (by decide) rfl rfl fun w1 h => WN.seq (WC.seq ?_)
  refine unpA 11 h rfl rfl rfl (by decide) (by decide) (by decide) (by decide) rfl rfl fun w1 h => WN.seq (WC.seq ?_)
  refine unpA 18 h rfl rfl rfl (by decide) (by decide) (by decide) (by decide) rfl rfl ?_
  intro w1 h
  refine WN.seq ?_
  refine unpB 25 7 h rfl rfl (by decide) rfl (by decide) (by decide) rfl rfl ?_
  intro w1 h
  replace h := h.next (by decide)
  refine WN.endR rfl rfl ?_
  exact h.done

theorem unpk9 (p : UP) {w : World} (h : UIn p 9 w) :
    Ret Tryz.prog 92 #[.iface 120 (.pointer (some ⟨p.rb, p.rb.off, none⟩)), .slice (some ⟨p.g, p.o, none⟩) p.dl p.dc] w (unpR p 9 w) := by
  refine Ret.enter (vs := [.iface 120 (.pointer (some ⟨p.rb, p.rb.off, none⟩)), .slice (some ⟨p.g, p.o, none⟩) p.dl p.dc]) Tryz.func92 Tryz.ntmps92 rfl rfl ?_
  refine WC.seq (WC.region ?_)
  refine WR.alloc zvU rfl rfl ?_
  intro w1 hn _
  refine WR.nil ?_
  replace h := US.start h hn
  refine WN.weak (L3 p w.heap.size) ⟨rfl, rfl, rfl, trivial⟩ ?_
  clear hn
  revert h; generalize w.heap.size = b; intro h
  refine WN.seq (WC.seq ?_)
  refine unpD 0 4 h (by decide) rfl rfl rfl rfl fun w1 h => WN.seq (WC.seq ?_)
  refine unpA 0 h rfl rfl rfl (by decide) (by decide) (by decide) (by decide) rfl rfl fun w1 h => WN.seq (WC.seq ?_)
  refine unpA 9 h rfl rfl rfl (by decide) (by decide) (by decide) (by decide) rfl rfl fun w1 h => WN.seq (WC.seq ?_)
  refine unpA 18 h rfl rfl rfl (by decide) (by decide) (by decide) (by decide) rfl rfl fun w1 h => WN.seq (WC.seq ?_)
  refine unpB 27 5 h rfl rfl (by decide) rfl (by decide) (by decide) rfl rfl fun w1 h => WN.seq (WC.seq ?_)
  refine unpD 32 8 h (by decide) rfl rfl rfl rfl fun w1 h => WN.seq (WC.seq ?_)
  refine unpC 4 (by kernel_rfl) h rfl rfl rfl (by decide) (by decide) (by decide) (by decide) (by decide) rfl rfl fun w1 h => WN.seq (WC.seq ?_)
  refine unpA 4 h rfl rfl rfl (by decide) (by decide) (by decide) (by decide) rfl rfl fun w1 h => WN.seq (WC.seq ?_)
  refine unpA 13 h rfl rfl rfl (by decide) (by decide) (by decide) (by decide) rfl rfl fun w1 h => WN.seq (WC.seq ?_)
  refine unpA 22 h rfl rfl rfl (by decide) (by decide) (by decide) (by decide) rfl rfl fun w1 h => WN.seq (WC.seq ?_)
  refine unpB 31 1 h rfl rfl (by decide) rfl (by decide) (by decide) rfl rfl fun w1 h => WN.seq (WC.seq ?_)
  refine unpD 64 12 h (by decide) rfl rfl rfl rfl fun w1 h => WN.seq (WC.seq ?_)
  refine unpC 8 (by kernel_rfl) h rfl rfl rfl (by decide) (by decide) (by decide) (by decide) (by decide) rfl rfl fun w1 h => WN.seq (WC.seq ?_)
  refine unpA 8 h rfl rfl rfl (by decide) (by decide) (by decide) (by decide) rfl rfl fun w1 h => WN.seq (WC.seq ?_)
  refine unpA 17 h rfl rfl rfl (by decide) (by decide) (by decide) (by decide) rfl rfl fun w1 h => WN.seq (WC.seq ?_)
  refine unpB 26 6 h rfl rfl (by decide) rfl (by decide) (by decide) rfl rfl fun w1 h => WN.seq (WC.seq ?_)
  refine unpD 96 16 h (by decide) rfl rfl rfl rfl fun w1 h => WN.seq (WC.seq ?_)
  refine unpC 3 (by kernel_rfl) h rfl rfl rfl (by decide) (by decide) (by decide) (by decide) (by decide) rfl rfl fun w1 h => WN.seq (WC.seq ?_)
  refine unpA 3 h rfl rfl rfl (by decide) (by decide) (by decide) (by decide) rfl rfl fun w1 h => WN.seq (WC.seq ?_)
  refine unpA 12 h rfl rfl rfl (by decide) (by decide) (by decide) (by decide) rfl rfl fun w1 h => WN.seq (WC.seq ?_)
  refine unpA 21 h rfl rfl rfl (by decide) (by decide) (by decide) (by decide) rfl rfl fun w1 h => WN.seq (WC.seq ?_)
  refine unpB 30 2 h rfl rfl (by decide) rfl (by decide) (by decide) rfl rfl fun w1 h => WN.seq (WC.seq ?_)
  refine unpD 128 20 h (by decide) rfl rfl rfl rfl fun w1 h => WN.seq (WC.seq ?_)
  refine unpC 7 (by kernel_rfl) h rfl rfl rfl (by decide) (by decide) (by decide) (by decide) (by decide) rfl rfl fun w1 h => WN.seq (WC.seq ?_)
  refine unpA 7 h rfl rfl rfl (by decide) (by decide) (by decide) (by decide) rfl rfl fun w1 h => WN.seq (WC.seq ?_)
  refine unpA 16 h rfl rfl rfl (by decide) (by decide) (by decide) (by decide) rfl rfl fun w1 h => WN.seq (WC.seq ?_)
  refine unpB 25 7 h rfl rfl (by decide) rfl (by decide) (by decide) rfl rfl fun w1 h => WN.seq (WC.seq ?_)
  refine unpD 160 24 h (by decide) rfl rfl rfl rfl fun w1 h => WN.seq (WC.seq ?_)
  refine unpC 2 (by kernel_rfl) h rfl rfl rfl (by decide) (by decide) (by decide) (by decide) (by decide) rfl rfl fun w1 h => WN.seq (WC.seq ?_)
  refine unpA 2 h rfl rfl rfl (by decide) (by decide) (by decide) (by decide) rfl rfl fun w1 h => WN.seq (WC.seq ?_)
  refine unpA 11 h rfl rfl rfl (by decide) (by decide) (by decide) (by decide) rfl rfl fun w1 h => WN.seq (WC.seq ?_)
  refine unpA 20 h rfl rfl rfl (by decide) (by decide) (by decide) (by decide) rfl rfl fun w1 h => WN.seq (WC.seq ?_)
  refine unpB 29 3 h rfl rfl (by decide) rfl (by decide) (by decide) rfl rfl fun w1 h => WN.seq (WC.seq ?_)
  refine unpD 192 28 h (by decide) rfl rfl rfl rfl fun w1 h => WN.seq (WC.seq ?_)
  refine unpC 6 (by kernel_rfl) h rfl rfl rfl (by decide) (by decide) (by decide) (by decide) (by decide) rfl rfl fun w1 h => WN.seq (WC.seq ?_)
  refine unpA 6 h rfl rfl rfl (by decide) (by decide) (by decide) (by decide) rfl rfl fun w1 h => WN.seq (WC.seq ?_)
  refine unpA 15 h rfl rfl rfl (by decide) (by decide) (by decide) (by decide) rfl rfl fun w1 h => WN.seq (WC.seq ?_)
  refine unpB 24 8 h rfl rfl (by decide) rfl (by decide) (by decide) rfl rfl fun w1 h => WN.seq (WC.seq ?_)
  refine unpD 224 32 h (by decide) rfl rfl rfl rfl fun w1 h => WN.seq (WC.seq ?_)
  refine unpC 1 (by kernel_rfl) h rfl rfl rfl (by decide) (by decide) (by decide) (by decide) (by decide) rfl rfl fun w1 h => WN.seq (WC.seq ?_)
  refine unpA 1 h rfl rfl rfl (by decide) (by decide) (by decide) (by decide) rfl rfl fun w1 h => WN.seq (WC.seq ?_)
  refine unpA 10 h rfl rfl rfl (by decide) (by decide) (by decide) (by decide) rfl rfl fun w1 h => WN.seq (WC.seq ?_)
  refine unpA 19 h rfl rfl rfl (by decide) (by decide) (by decide) (by decide) rfl rfl fun w1 h => WN.seq (WC.seq ?_)
  refine unpB 28 4 h rfl rfl (by decide) rfl (by decide) (by decide) rfl rfl fun w1 h => WN.seq (WC.seq ?_)
  refine unpD 256 36 h (by decide) rfl rfl rfl rfl fun w1 h => WN.seq (WC.seq ?_)
  refine unpC 5 (by kernel_rfl) h rfl rfl rfl (by decide) (by decide) (by decide) (by decide) (by decide) rfl rfl fun w1 h => WN.seq (WC.seq ?_)
  refine unpA 5 h rfl rfl rfl (by decide) (by decide) (by decide) (by decide) rfl rfl fun w1 h => WN.seq (WC.seq ?_)
  refine unpA 14 h rfl rfl rfl (by decide) (by decide) (by decide) (by decide) rfl rfl ?_
  intro w1 h
  refine WN.seq ?_
  refine unpB 23 9 h rfl rfl (by decide) rfl (by decide) (by decide) rfl rfl ?_
  intro w1 h
  replace h := h.next (by decide)
  refine WN.endR rfl rfl ?_
  exact h.done

theorem unpk10 (p : UP) {w : World} (h : UIn p 10 w) :
    Ret Tryz.prog 93 #[.iface 120 (.pointer (some ⟨p.rb, p.rb.off, none⟩)), .slice (some ⟨p.g, p.o, none⟩) p.dl p.dc] w (unpR p 10 w) := by
  refine Ret.enter (vs := [.iface 120 (.pointer (some ⟨p.rb, p.rb.off, none⟩)), .slice (some ⟨p.g, p.o, none⟩) p.dl p.dc]) Tryz.func93 Tryz.ntmps93 rfl rfl ?_
  refine WC.seq (WC.region ?_)
  refine WR.alloc zvU rfl rfl ?_
  intro w1 hn _
  refine WR.nil ?_
  replace h := US.start h hn
  refine WN.weak (L3 p w.heap.size) ⟨rfl, rfl, rfl, trivial⟩ ?_
  clear hn
  revert h; generalize w.heap.size = b; intro h
  refine WN.seq (WC.seq ?_)
  refine unpD 0 4 h (by decide) rfl rfl rfl rfl fun w1 h => WN.seq (WC.seq ?_)
  refine unpA 0 h rfl rfl rfl (by decide) (by decide) (by decide) (by decide) rfl rfl fun w1 h => WN.seq (WC.seq ?_)
  refine unpA 10 h rfl rfl rfl (by decide) (by decide) (by decide) (by decide) rfl rfl fun w1 h => WN.seq (WC.seq ?_)
  refine unpA 20 h rfl rfl rfl (by decide) (by decide) (by decide) (by decide) rfl rfl fun w1 h => WN.seq (WC.seq ?_)
  refine unpB 30 2 h rfl rfl (by decide) rfl (by decide) (by decide) rfl rfl fun w1 h => WN.seq (WC.seq ?_)
  refine unpD 32 8 h (by decide) rfl rfl rfl rfl fun w1 h => WN.seq (WC.seq ?_)
  refine unpC 8 (by kernel_rfl) h rfl rfl rfl (by decide) (by decide) (by decide) (by decide) (by decide) rfl rfl fun w1 h => WN.seq (WC.seq ?_)
  refine unpA 8 h rfl rfl rfl (by decide) (by decide) (by decide) (by decide) rfl rfl fun w1 h => WN.seq (WC.seq ?_)
  refine unpA 18 h rfl rfl rfl (by decide) (by decide) (by decide) (by decide) rfl rfl fun w1 h => WN.seq (WC.seq ?_)
  refine unpB 28 4 h rfl rfl (by decide) rfl (by decide) (by decide) rfl rfl fun w1 h => WN.seq (WC.seq ?_)
  refine unpD 64 12 h (by decide) rfl rfl rfl rfl fun w1 h => WN.seq (WC.seq ?_)
  refine unpC 6 (by kernel_rfl) h rfl rfl rfl (by decide) (by decide) (by decide) (by decide) (by decide) rfl rfl fun w1 h => WN.seq (WC.seq ?_)
  refine unpA 6 h rfl rfl rfl (by decide) (by decide) (by decide) (by decide) rfl rfl fun w1 h => WN.seq (WC.seq ?_)
  refine unpA 16 h rfl rfl rfl (by decide) (by decide) (by decide) (by decide) rfl rfl fun w1 h => WN.seq (WC.seq ?_)
  refine unpB 26 6 h rfl rfl (by decide) rfl (by decide) (by decide) rfl rfl fun w1 h => WN.seq (WC.seq ?_)
  refine unpD 96 16 h (by decide) rfl rfl rfl rfl fun w1 h => WN.seq (WC.seq ?_)
  refine unpC 4 (by kernel_rfl) h rfl rfl rfl (by decide) (by decide) (by decide) (by decide) (by decide) rfl rfl fun w1 h => WN.seq (WC.seq ?_)
  refine unpA 4 h rfl rfl rfl (by decide) (by decide) (by decide) (by decide) rfl rfl fun w1 h => WN.seq (WC.seq ?_)
  refine unpA 14 h rfl rfl rfl (by decide) (by decide) (by decide) (by decide) rfl rfl fun w1 h => WN.seq (WC.seq ?_)
  refine unpB 24 8 h rfl rfl (by decide) rfl (by decide) (by decide) rfl rfl fun w1 h => WN.seq (WC.seq ?_)
  refine unpD 128 20 h (by decide) rfl rfl rfl rfl fun w1 h => WN.seq (WC.seq ?_)
  refine unpC 2 (by kernel_rfl) h rfl rfl rfl (by decide) (by decide) (by decide) (by decide) (by decide) rfl rfl fun w1 h => WN.seq (WC.seq ?_)
  refine unpA 2 h rfl rfl rfl (by decide) (by decide) (by decide) (by decide) rfl rfl fun w1 h => WN.seq (WC.seq ?_)
  refine unpA 12 h rfl rfl rfl (by decide) (by decide) (by decide) (by decide) rfl rfl fun w1 h => WN.seq (WC.seq ?_)
  refine unpB 22 10 h rfl rfl (by decide) rfl (by decide) (by decide) rfl rfl ?_
  intro w1 h
  replace h := h.next (by decide)
  refine WN.seq (WC.seq ?_)
  refine unpD 160 24 h (by decide) rfl rfl rfl rfl fun w1 h => WN.seq (WC.seq ?_)
  refine unpA 0 h rfl rfl rfl (by decide) (by decide) (by decide) (by decide) rfl rfl fun w1 h => WN.seq (WC.seq ?_)
  refine unpA 10 h rfl rfl rfl (by decide) (by decide) (by decide) (by decide) rfl rfl fun w1 h => WN.seq (WC.seq ?_)
  refine unpA 20 h rfl rfl rfl (by decide) (by decide) (by decide) (by decide) rfl rfl fun w1 h => WN.seq (WC.seq ?_)
  refine unpB 30 2 h rfl rfl (by decide) rfl (by decide) (by decide) rfl rfl fun w1 h => WN.seq (WC.seq ?_)
  refine unpD 192 28 h (by decide) rfl rfl rfl rfl fun w1 h => WN.seq (WC.seq ?_)
  refine unpC 8 (by kernel_rfl) h rfl rfl rfl (by decide) (by decide) (by decide) (by decide) (by decide) rfl rfl fun w1 h => WN.seq (WC.seq ?_)
  refine unpA 8 h rfl rfl rfl (by decide) (by decide) (by decide) (by decide) rfl rfl fun w1 h => WN.seq (WC.seq ?_)
  refine unpA 18 h rfl rfl rfl (by decide) (by decide) (by decide) (by decide) rfl rfl fun w1 h => WN.seq (WC.seq ?_)
  refine unpB 28 4 h rfl rfl (by decide) rfl (by decide) (by decide) rfl rfl fun w1 h => WN.seq (WC.seq ?_)
  refine unpD 224 32 h (by decide) rfl rfl rfl rfl fun w1 h => WN.seq (WC.seq ?_)
  refine unpC 6 (by kernel_rfl) h rfl rfl rfl (by decide) (by decide) (by decide) (by decide) (by decide) rfl rfl fun w1 h => WN.seq (WC.seq ?_)
  refine unpA 6 h rfl rfl rfl (by decide) (by decide) (by decide) (by decide) rfl rfl fun w1 h => WN.seq (WC.seq ?_)
  refine unpA 16 h rfl rfl rfl (by decide) (by decide) (by decide) (by decide) rfl rfl fun w1 h => WN.seq (WC.seq ?_)
  refine unpB 26 6 h rfl rfl (by decide) rfl (by decide) (by decide) rfl rfl fun w1 h => WN.seq (WC.seq ?_)
  refine unpD 256 36 h (by decide) rfl rfl rfl rfl fun w1 h => WN.seq (WC.seq ?_)
  refine unpC 4 (by kernel_rfl) h rfl rfl rfl (by decide) (by decide) (by decide) (by decide) (by decide) rfl rfl fun w1 h => WN.seq (WC.seq ?_)
  refine unpA 4 h rfl rfl rfl (by decide) (by decide) (by decide) (by decide) rfl rfl fun w1 h => WN.seq (WC.seq ?_)
  refine unpA 14 h rfl rfl rfl (by decide) (by decide) (by decide) (by decide) rfl rfl fun w1 h => WN.seq (WC.seq ?_)
  refine unpB 24 8 h rfl rfl (by decide) rfl (by decide) (by decide) rfl rfl fun w1 h => WN.seq (WC.seq ?_)
  refine unpD 288 40 h (by decide) rfl rfl rfl rfl fun w1 h => WN.seq (WC.seq ?_)
  refine unpC 2 (by kernel_rfl) h rfl rfl rfl (by decide) (by decide) (by decide) (by decide) (by decide) rfl rfl fun w1 h => WN.seq (WC.seq ?_)
  refine unpA 2 h rfl rfl rfl (by decide) (by decide) (by decide) (by decide) rfl rfl fun w1 h => WN.seq (WC.seq ?_)
  refine unpA 12 h rfl rfl rfl (by decide) (by decide) (by decide) (by decide) rfl rfl ?_
  intro w1 h
  refine WN.seq ?_
  refine unpB 22 10 h rfl rfl (by decide) rfl (by decide) (by decide) rfl rfl ?_
  intro w1 h
  replace h := h.next (by decide)
  refine WN.endR rfl rfl ?_
  exact h.done

theorem unpk11 (p : UP) {w : World} (h : UIn p 11 w) :
    Ret Tryz.prog 94 #[.iface 120 (.pointer (some ⟨p.rb, p.rb.off, none⟩)), .slice (some ⟨p.g, p.o, none⟩) p.dl p.dc] w (unpR p 11 w) := by
  refine Ret.enter (vs := [.iface 120 (.pointer (some ⟨p.rb, p.rb.off, none⟩)), .slice (some ⟨p.g, p.o, none⟩) p.dl p.dc]) Tryz.func94 Tryz.ntmps94 rfl rfl ?_
  refine WC.seq (WC.region ?_)
  refine WR.alloc zvU rfl rfl ?_
  intro w1 hn _
  refine WR.nil ?_
  replace h := US.start h hn
  refine WN.weak (L3 p w.heap.size) ⟨rfl, rfl, rfl, trivial⟩ ?_
  clear hn
  revert h; generalize w.heap.size = b; intro h
  refine WN.seq (WC.seq ?_)
  refine unpD 0 4 h (by decide) rfl rfl rfl rfl fun w1 h => WN.seq (WC.seq ?_)
  refine unpA 0 h rfl rfl rfl (by decide) (by decide) (by decide) (by decide) rfl rfl fun w1 h => WN.seq (WC.seq ?_)
  refine unpA 11 h rfl rfl rfl (by decide) (by decide) (by decide) (by decide) rfl rfl fun w1 h => WN.seq (WC.seq ?_)
  refine unpB 22 10 h rfl rfl (by decide) rfl (by decide) (by decide) rfl rfl fun w1 h => WN.seq (WC.seq ?_)
  refine unpD 32 8 h (by decide) rfl rfl rfl rfl fun w1 h => WN.seq (WC.seq ?_)
  refine unpC 1 (by kernel_rfl) h rfl rfl rfl (by decide) (by decide) (by decide) (by decide) (by decide) rfl rfl fun w1 h => WN.seq (WC.seq ?_)
  refine unpA 1 h rfl rfl rfl (by decide) (by decide) (by decide) (by decide) rfl rfl fun w1 h => WN.seq (WC.seq ?_)
  refine unpA 12 h rfl rfl rfl (by decide) (by decide) (by decide) (by decide) rfl rfl fun w1 h => WN.seq (WC.seq ?_)
  refine unpB 23 9 h rfl rfl (by decide) rfl (by decide) (by decide) rfl rfl fun w1 h => WN.seq (WC.seq ?_)
  refine unpD 64 12 h (by decide) rfl rfl rfl rfl fun w1 h => WN.seq (WC.seq ?_)
  refine unpC 2 (by kernel_rfl) h rfl rfl rfl (by decide) (by decide) (by decide) (by decide) (by decide) rfl rfl fun w1 h => WN.seq (WC.seq ?_)
  refine unpA 2 h rfl rfl rfl (by decide) (by decide) (by decide) (by decide) rfl rfl fun w1 h => WN.seq (WC.seq ?_)
  refine unpA 13 h rfl rfl rfl (by decide) (by decide) (by decide) (by decide) rfl rfl fun w1 h => WN.seq (WC.seq ?_)
  refine unpB 24 8 h rfl rfl (by decide) rfl (by decide) (by decide) rfl rfl fun w1 h => WN.seq (WC.seq ?_)
  refine unpD 96 16 h (by decide) rfl rfl rfl rfl fun w1 h => WN.seq (WC.seq ?_)
  refine unpC 3 (by kernel_rfl) h rfl rfl rfl (by decide) (by decide) (by decide) (by decide) (by decide) rfl rfl fun w1 h => WN.seq (WC.seq ?_)
  refine unpA 3 h rfl rfl rfl (by decide) (by decide) (by decide) (by decide) rfl rfl fun w1 h => WN.seq (WC.seq ?_)
  refine unpA 14 h rfl rfl rfl (by decide) (by decide) (by decide) (by decide) rfl rfl fun w1 h => WN.seq (WC.seq ?_)
  refine unpB 25 7 h rfl rfl (by decide) rfl (by decide) (by decide) rfl rfl fun w1 h => WN.seq (WC.seq ?_)
  refine unpD 128 20 h (by decide) rfl rfl rfl rfl fun w1 h => WN.seq (WC.seq ?_)
  refine unpC 4 (by kernel_rfl) h rfl rfl rfl (by decide) (by decide) (by decide) (by decide) (by decide) rfl rfl fun w1 h => WN.seq (WC.seq ?_)
  refine unpA 4 h rfl rfl rfl (by decide) (by decide) (by decide) (by decide) rfl rfl fun w1 h => WN.seq (WC.seq ?_)
  refine unpA 15 h rfl rfl rfl (by decide) (by decide) (by decide) (by decide) rfl rfl fun w1 h => WN.seq (WC.seq ?_)
  refine unpB 26 6 h rfl rfl (by decide) rfl (by decide) (by decide) rfl rfl fun w1 h => WN.seq (WC.seq ?_)
  refine unpD 160 24 h (by decide) rfl rfl rfl rfl fun w1 h => WN.seq (WC.seq ?_)
  refine unpC 5 (by kernel_rfl) h rfl rfl rfl (by decide) (by decide) (by decide) (by decide) (by decide) rfl rfl fun w1 h => WN.seq (WC.seq ?_)
  refine unpA 5 h rfl rfl rfl (by decide) (by decide) (by decide) (by decide) rfl rfl fun w1 h => WN.seq (WC.seq ?_)
  refine unpA 16 h rfl rfl rfl (by decide) (by decide) (by decide) (by decide) rfl rfl fun w1 h => WN.seq (WC.seq ?_)
  refine unpB 27 5 h rfl rfl (by decide) rfl (by decide) (by decide) rfl rfl fun w1 h => WN.seq (WC.seq ?_)
  refine unpD 192 28 h (by decide) rfl rfl rfl rfl fun w1 h => WN.seq (WC.seq ?_)
  refine unpC 6 (by kernel_rfl) h rfl rfl rfl (by decide) (by decide) (by decide) (by decide) (by decide) rfl rfl fun w1 h => WN.seq (WC.seq ?_)
  refine unpA 6 h rfl rfl rfl (by decide) (by decide) (by decide) (by decide) rfl rfl fun w1 h => WN.seq (WC.seq ?_)
  refine unpA 17 h rfl rfl rfl (by decide) (by decide) (by decide) (by decide) rfl rfl fun w1 h => WN.seq (WC.seq ?_)
  refine unpB 28 4 h rfl rfl (by decide) rfl (by decide) (by decide) rfl rfl fun w1 h => WN.seq (WC.seq ?_)
  refine unpD 224 32 h (by decide) rfl rfl rfl rfl fun w1 h => WN.seq (WC.seq ?_)
  refine unpC 7 (by kernel_rfl) h rfl rfl rfl (by decide) (by decide) (by decide) (by decide) (by decide) rfl rfl fun w1 h => WN.seq (WC.seq ?_)
  refine unpA 7 h rfl rfl rfl (by decide) (by decide) (by decide) (by decide) rfl rfl fun w1 h => WN.seq (WC.seq ?_)
  refine unpA 18 h rfl rfl rfl (by decide) (by decide) (by decide) (by decide) rfl rfl fun w1 h => WN.seq (WC.seq ?_)
  refine unpB 29 3 h rfl rfl (by decide) rfl (by decide) (by decide) rfl rfl fun w1 h => WN.seq (WC.seq ?_)
  refine unpD 256 36 h (by decide) rfl rfl rfl rfl fun w1 h => WN.seq (WC.seq ?_)
  refine unpC 8 (by kernel_rfl) h rfl rfl rfl (by decide) (by decide) (by decide) (by decide) (by decide) rfl rfl fun w1 h => WN.seq (WC.seq ?_)
  refine unpA 8 h rfl rfl rfl (by decide) (by decide) (by decide) (by decide) rfl rfl fun w1 h => WN.seq (WC.seq ?_)
  refine unpA 19 h rfl rfl rfl (by decide) (by decide) (by decide) (by decide) rfl rfl fun w1 h => WN.seq (WC.seq ?_)
  refine unpB 30 2 h rfl rfl (by decide) rfl (by decide) (by decide) rfl rfl fun w1 h => WN.seq (WC.seq ?_)
  refine unpD 288 40 h (by decide) rfl rfl rfl rfl fun w1 h => WN.seq (WC.seq ?_)
  refine unpC 9 (by kernel_rfl) h rfl rfl rfl (by decide) (by decide) (by decide) (by decide) (by decide) rfl rfl fun w1 h => WN.seq (WC.seq ?_)
  refine unpA 9 h rfl rfl rfl (by decide) (by decide) (by decide) (by decide) rfl rfl fun w1 h => WN.seq (WC.seq ?_)
  refine unpA 20 h rfl rfl rfl (by decide) (by decide) (by decide) (by decide) rfl rfl fun w1 h => WN.seq (WC.seq ?_)
  refine unpB 31 1 h rfl rfl (by decide) rfl (by decide) (by decide) rfl rfl fun w1 h => WN.seq (WC.seq ?_)
  refine unpD 320 44 h (by decide) rfl rfl rfl rfl fun w1 h => WN.seq (WC.seq ?_)
  refine unpC 10 (by kernel_rfl) h rfl rfl rfl (by decide) (by decide) (by decide) (by decide) (by decide) rfl rfl fun w1 h => WN.seq (WC.seq ?_)
  refine unpA 10 h rfl rfl rfl (by decide) (by decide) (by decide) (by decide) rfl rfl ?_
  intro w1 h
  refine WN.seq ?_
  refine unpB 21 11 h rfl rfl (by decide) rfl (by decide) (by decide) rfl rfl ?_
  intro w1 h
  replace h := h.next (by decide)
  refine WN.endR rfl rfl ?_
  exact h.done

theorem unpk12 (p : UP) {w : World} (h : UIn p 12 w) :
    Ret Tryz.prog 95 #[.iface 120 (.pointer (some ⟨p.rb, p.rb.off, none⟩)), .slice (some ⟨p.g, p.o, none⟩) p.dl p.dc] w (unpR p 12 w) := by
  refine Ret.enter (vs := [.iface 120 (.pointer (some ⟨p.rb, p.rb.off, none⟩)), .slice (some ⟨p.g, p.o, none⟩) p.dl p.dc]) Tryz.func95 Tryz.ntmps95 rfl rfl ?_
  refine WC.seq (WC.region ?_)
  refine WR.alloc zvU rfl rfl ?_
  intro w1 hn _
  refine WR.nil ?_
  replace h := US.start h hn
  refine WN.weak (L3 p w.heap.size) ⟨rfl, rfl, rfl, trivial⟩ ?_
  clear hn
  revert h; generalize w.heap.size = b; intro h
  refine WN.seq (WC.seq ?_)
  refine unpD 0 4 h (by decide) rfl rfl rfl rfl fun w1 h => WN.seq (WC.seq ?_)
  refine unpA 0 h rfl rfl rfl (by decide) (by decide) (by decide) (by decide) rfl rfl fun w1 h => WN.seq (WC.seq ?_)
  refine unpA 12 h rfl rfl rfl (by decide) (by decide) (by decide) (by decide) rfl rfl fun w1 h => WN.seq (WC.seq ?_)
  refine unpB 24 8 h rfl rfl (by decide) rfl (by decide) (by decide) rfl rfl fun w1 h => WN.seq (WC.seq ?_)
  refine unpD 32 8 h (by decide) rfl rfl rfl rfl fun w1 h => WN.seq (WC.seq ?_)
  refine unpC 4 (by kernel_rfl) h rfl rfl rfl (by decide) (by decide) (by decide) (by decide) (by decide) rfl rfl fun w1 h => WN.seq (WC.seq ?_)
  refine unpA 4 h rfl rfl rfl (by decide) (by decide) (by decide) (by decide) rfl rfl fun w1 h => WN.seq (WC.seq ?_)
  refine unpA 16 h rfl rfl rfl (by decide) (by decide) (by decide) (by decide) rfl rfl fun w1 h => WN.seq (WC.seq ?_)
  refine unpB 28 4 h rfl rfl (by decide) rfl (by decide) (by decide) rfl rfl fun w1 h => WN.seq (WC.seq ?_)
  refine unpD 64 12 h (by decide) rfl rfl rfl rfl fun w1 h => WN.seq (WC.seq ?_)
  refine unpC 8 (by kernel_rfl) h rfl rfl rfl (by decide) (by decide) (by decide) (by decide) (by decide) rfl rfl fun w1 h => WN.seq (WC.seq ?_)
  refine unpA 8 h rfl rfl rfl (by decide) (by decide) (by decide) (by decide) rfl rfl fun w1 h => WN.seq (WC.seq ?_)
  refine unpB 20 12 h rfl rfl (by decide) rfl (by decide) (by decide) rfl rfl ?_
  intro w1 h
  replace h := h.next (by decide)
  refine WN.seq (WC.seq ?_)
  refine unpD 96 16 h (by decide) rfl rfl rfl rfl fun w1 h => WN.seq (WC.seq ?_)
  refine unpA 0 h rfl rfl rfl (by decide) (by decide) (by decide) (by decide) rfl rfl fun w1 h => WN.seq (WC.seq ?_)
  refine unpA 12 h rfl rfl rfl (by decide) (by decide) (by decide) (by decide) rfl rfl fun w1 h => WN.seq (WC.seq ?_)
  refine unpB 24 8 h rfl rfl (by decide) rfl (by decide) (by decide) rfl rfl fun w1 h => WN.seq (WC.seq ?_)
  refine unpD 128 20 h (by decide) rfl rfl rfl rfl fun w1 h => WN.seq (WC.seq ?_)
  refine unpC 4 (by kernel_rfl) h rfl rfl rfl (by decide) (by decide) (by decide) (by decide) (by decide) rfl rfl fun w1 h => WN.seq (WC.seq ?_)
  refine unpA 4 h rfl rfl rfl (by decide) (by decide) (by decide) (by decide) rfl rfl fun w1 h => WN.seq (WC.seq ?_)
  refine unpA 16 h rfl rfl rfl (by decide) (by decide) (by decide) (by decide) rfl rfl fun w1 h => WN.seq (WC.seq ?_)
  refine unpB 28 4 h rfl rfl (by decide) rfl (by decide) (by decide) rfl rfl fun w1 h => WN.seq (WC.seq ?_)
  refine unpD 160 24 h (by decide) rfl rfl rfl rfl fun w1 h => WN.seq (WC.seq ?_)
  refine unpC 8 (by kernel_rfl) h rfl rfl rfl (by decide) (by decide) (by decide) (by decide) (by decide) rfl rfl fun w1 h => WN.seq (WC.seq ?_)
  refine unpA 8 h rfl rfl rfl (by decide) (by decide) (by decide) (by decide) rfl rfl fun w1 h => WN.seq (WC.seq ?_)
  refine unpB 20 12 h rfl rfl (by decide) rfl (by decide) (by decide) rfl rfl ?_
  intro w1 h
  replace h := h.next (by decide)
  refine WN.seq (WC.seq ?_)
  refine unpD 192 28 h (by decide) rfl rfl rfl rfl fun w1 h => WN.seq (WC.seq ?_)
  refine unpA 0 h rfl rfl rfl (by decide) (by decide) (by decide) (by decide) rfl rfl fun w1 h => WN.seq (WC.seq ?_)
  refine unpA 12 h rfl rfl rfl (by decide) (by decide) (by decide) (by decide) rfl rfl fun w1 h => WN.seq (WC.seq ?_)
  refine unpB 24 8 h rfl rfl (by decide) rfl (by decide) (by decide) rfl rfl fun w1 h => WN.seq (WC.seq ?_)
  refine unpD 224 32 h (by decide) rfl rfl rfl rfl fun w1 h => WN.seq (WC.seq ?_)
  refine unpC 4 (by kernel_rfl) h rfl rfl rfl (by decide) (by decide) (by decide) (by decide) (by decide) rfl rfl fun w1 h => WN.seq (WC.seq ?_)
  refine unpA 4 h rfl rfl rfl (by decide) (by decide) (by decide) (by decide) rfl rfl fun w1 h => WN.seq (WC.seq ?_)
  refine unpA 16 h rfl rfl rfl (by decide) (by decide) (by decide) (by decide) rfl rfl fun w1 h => WN.seq (WC.seq ?_)
  refine unpB 28 4 h rfl rfl (by decide) rfl (by decide) (by decide) rfl rfl fun w1 h => WN.seq (WC.seq ?_)
  refine unpD 256 36 h (by decide) rfl rfl rfl rfl fun w1 h => WN.seq (WC.seq ?_)
  refine unpC 8 (by kernel_rfl) h rfl rfl rfl (by decide) (by decide) (by decide) (by decide) (by decide) rfl rfl fun w1 h => WN.seq (WC.seq ?_)
  refine unpA 8 h rfl rfl rfl (by decide) (by decide) (by decide) (by decide) rfl rfl fun w1 h => WN.seq (WC.seq ?_)
  refine unpB 20 12 h rfl rfl (by decide) rfl (by decide) (by decide) rfl rfl ?_
  intro w1 h
  replace h := h.next (by decide)
  refine WN.seq (WC.seq ?_)
  refine unpD 288 40 h (by decide) rfl rfl rfl rfl fun w1 h => WN.seq (WC.seq ?_)
  refine unpA 0 h rfl rfl rfl (by decide) (by decide) (by decide) (by decide) rfl rfl fun w1 h => WN.seq (WC.seq ?_)
  refine unpA 12 h rfl rfl rfl (by decide) (by decide) (by decide) (by decide) rfl rfl fun w1 h => WN.seq (WC.seq ?_)
  refine unpB 24 8 h rfl rfl (by decide) rfl (by decide) (by decide) rfl rfl fun w1 h => WN.seq (WC.seq ?_)
  refine unpD 320 44 h (by decide) rfl rfl rfl rfl fun w1 h => WN.seq (WC.seq ?_)
  refine unpC 4 (by kernel_rfl) h rfl rfl rfl (by decide) (by decide) (by decide) (by decide) (by decide) rfl rfl fun w1 h => WN.seq (WC.seq ?_)
  refine unpA 4 h rfl rfl rfl (by decide) (by decide) (by decide) (by decide) rfl rfl fun w1 h => WN.seq (WC.seq ?_)
  refine unpA 16 h rfl rfl rfl (by decide) (by decide) (by decide) (by decide) rfl rfl fun w1 h => WN.seq (WC.seq ?_)
  refine unpB 28 4 h rfl rfl (by decide) rfl (by decide) (by decide) rfl rfl fun w1 h => WN.seq (WC.seq ?_)
  refine unpD 352 48 h (by decide) rfl rfl rfl rfl fun w1 h => WN.seq (WC.seq ?_)
  refine unpC 8 (by kernel_rfl) h rfl rfl rfl (by decide) (by decide) (by decide) (by decide) (by decide) rfl rfl fun w1 h => WN.seq (WC.seq ?_)
  refine unpA 8 h rfl rfl rfl (by decide) (by decide) (by decide) (by decide) rfl rfl ?_
  intro w1 h
  refine WN.seq ?_
  refine unpB 20 12 h rfl rfl (by decide) rfl (by decide) (by decide) rfl rfl ?_
  intro w1 h
  replace h := h.next (by decide)
  refine WN.endR rfl rfl ?_
  exact h.done

theorem unpk13 (p : UP) {w : World} (h : UIn p 13 w) :
    Ret Tryz.prog 96 #[.iface 120 (.pointer (some ⟨p.rb, p.rb.off, none⟩)), .slice (some ⟨p.g, p.o, none⟩) p.dl p.dc] w (unpR p 13 w) := by
  refine Ret.enter (vs := [.iface 120 (.pointer (some ⟨p.rb, p.rb.off, none⟩)), .slice (some ⟨p.g, p.o, none⟩) p.dl p.dc]) Tryz.func96 Tryz.ntmps96 rfl rfl ?_
  refine WC.seq (WC.region ?_)
  refine WR.alloc zvU rfl rfl ?_
  intro w1 hn _
  refine WR.nil ?_
  replace h := US.start h hn
  refine WN.weak (L3 p w.heap.size) ⟨rfl, rfl, rfl, trivial⟩ ?_
  clear hn
  revert h; generalize w.heap.size = b; intro h
  refine WN.seq (WC.seq ?_)
  refine unpD 0 4 h (by decide) rfl rfl rfl rfl fun w1 h => WN.seq (WC.seq ?_)
  refine unpA 0 h rfl rfl rfl (by decide) (by decide) (by decide) (by decide) rfl rfl fun w1 h => WN.seq (WC.seq ?_)
  refine unpA 13 h rfl rfl rfl (by decide) (by decide) (by decide) (by decide) rfl rfl fun w1 h => WN.seq (WC.seq ?_)
  refine unpB 26 6 h rfl rfl (by decide) rfl (by decide) (by decide) rfl rfl fun w1 h => WN.seq (WC.seq ?_)
  refine unpD 32 8 h (by decide) rfl rfl rfl rfl fun w1 h => WN.seq (WC.seq ?_)
  refine unpC 7 (by kernel_rfl) h rfl rfl rfl (by decide) (by decide) (by decide) (by decide) (by decide) rfl rfl fun w1 h => WN.seq (WC.seq ?_)
  refine unpA 7 h rfl rfl rfl (by decide) (by decide) (by decide) (by decide) rfl rfl fun w1 h => WN.seq (WC.seq ?_)
  refine unpB 20 12 h rfl rfl (by decide) rfl (by decide) (by decide) rfl rfl fun w1 h => WN.seq (WC.seq ?_)
  refine unpD 64 12 h (by decide) rfl rfl rfl rfl fun w1 h => WN.seq (WC.seq ?_)
  refine unpC 1 (by kernel_rfl) h rfl rfl rfl (by decide) (by decide) (by decide) (by decide) (by decide) rfl rfl fun w1 h => WN.seq (WC.seq ?_)
  refine unpA 1 h rfl rfl rfl (by decide) (by decide) (by decide) (by decide) rfl rfl fun w1 h => WN.seq (WC.seq ?_)
  refine unpA 14 h rfl rfl rfl (by decide) (by decide) (by decide) (by decide) rfl rfl fun w1 h => WN.seq (WC.seq ?_)
  refine unpB 27 5 h rfl rfl (by decide) rfl (by decide) (by decide) rfl rfl fun w1 h => WN.seq (WC.seq ?_)
  refine unpD 96 16 h (by decide) rfl rfl rfl rfl fun w1 h => WN.seq (WC.seq ?_)
  refine unpC 8 (by kernel_rfl) h rfl rfl rfl (by decide) (by decide) (by decide) (by decide) (by decide) rfl rfl fun w1 h => WN.seq (WC.seq ?_)
  refine unpA 8 h rfl rfl rfl (by decide) (by decide) (by decide) (by decide) rfl rfl fun w1 h => WN.seq (WC.seq ?_)
  refine unpB 21 11 h rfl rfl (by decide) rfl (by decide) (by decide) rfl rfl fun w1 h => WN.seq (WC.seq ?_)
  refine unpD 128 20 h (by decide) rfl rfl rfl rfl fun w1 h => WN.seq (WC.seq ?_)
  refine unpC 2 (by kernel_rfl) h rfl rfl rfl (by decide) (by decide) (by decide) (by decide) (by decide) rfl rfl fun w1 h => WN.seq (WC.seq ?_)
  refine unpA 2 h rfl rfl rfl (by decide) (by decide) (by decide) (by decide) rfl rfl fun w1 h => WN.seq (WC.seq ?_)
  refine unpA 15 h rfl rfl rfl (by decide) (by decide) (by decide) (by decide) rfl rfl fun w1 h => WN.seq (WC.seq ?_)
  refine unpB 28 4 h rfl rfl (by decide) rfl (by decide) (by decide) rfl rfl fun w1 h => WN.seq (WC.seq ?_)
  refine unpD 160 24 h (by decide) rfl rfl rfl rfl fun w1 h => WN.seq (WC.seq ?_)
  refine unpC 9 (by kernel_rfl) h rfl rfl rfl (by decide) (by decide) (by decide) (by decide) (by decide) rfl rfl fun w1 h => WN.seq (WC.seq ?_)
  refine unpA 9 h rfl rfl rfl (by decide) (by decide) (by decide) (by decide) rfl rfl fun w1 h => WN.seq (WC.seq ?_)
  refine unpB 22 10 h rfl rfl (by decide) rfl (by decide) (by decide) rfl rfl fun w1 h => WN.seq (WC.seq ?_)
  refine unpD 192 28 h (by decide) rfl rfl rfl rfl fun w1 h => WN.seq (WC.seq ?_)
  refine unpC 3 (by kernel_rfl) h rfl rfl rfl (by decide) (by decide) (by decide) (by decide) (by decide) rfl rfl fun w1 h => WN.seq (WC.seq ?_)
  refine unpA 3 h rfl rfl rfl (by decide) (by decide) (by decide) (by decide) rfl rfl fun w1 h => WN.seq (WC.seq ?_)
  refine unpA 16 h rfl rfl rfl (by decide) (by decide) (by decide) (by decide) rfl rfl fun w1 h => WN.seq (WC.seq ?_)
  refine unpB 29 3 h rfl rfl (by decide) rfl (by decide) (by decide) rfl rfl fun w1 h => WN.seq (WC.seq ?_)
  refine unpD 224 32 h (by decide) rfl rfl rfl rfl fun w1 h => WN.seq (WC.seq ?_)
  refine unpC 10 (by kernel_rfl) h rfl rfl rfl (by decide) (by decide) (by decide) (by decide) (by decide) rfl rfl fun w1 h => WN.seq (WC.seq ?_)
  refine unpA 10 h rfl rfl rfl (by decide) (by decide) (by decide) (by decide) rfl rfl fun w1 h => WN.seq (WC.seq ?_)
  refine unpB 23 9 h rfl rfl (by decide) rfl (by decide) (by decide) rfl rfl fun w1 h => WN.seq (WC.seq ?_)
  refine unpD 256 36 h (by decide) rfl rfl rfl rfl fun w1 h => WN.seq (WC.seq ?_)
  refine unpC 4 (by kernel_rfl) h rfl rfl rfl (by decide) (by decide) (by decide) (by decide) (by decide) rfl rfl fun w1 h => WN.seq (WC.seq ?_)
  refine unpA 4 h rfl rfl rfl (by decide) (by decide) (by decide) (by decide) rfl rfl fun w1 h => WN.seq (WC.seq ?_)
  refine unpA 17 h rfl rfl rfl (by decide) (by decide) (by decide) (by decide) rfl rfl fun w1 h => WN.seq (WC.seq ?_)
  refine unpB 30 2 h rfl rfl (by decide) rfl (by decide) (by decide) rfl rfl fun w1 h => WN.seq (WC.seq ?_)
  refine unpD 288 40 h (by decide) rfl rfl rfl rfl fun w1 h => WN.seq (WC.seq ?_)
  refine unpC 11 (by kernel_rfl) h rfl rfl rfl (by decide) (by decide) (by decide) (by decide) (by decide) rfl rfl fun w1 h => WN.seq (WC.seq ?_)
  refine unpA 11 h rfl rfl rfl (by decide) (by decide) (by decide) (by decide) rfl rfl fun w1 h => WN.seq (WC.seq ?_)
  refine unpB 24 8 h rfl rfl (by decide) rfl (by decide) (by decide) rfl rfl fun w1 h => WN.seq (WC.seq ?_)
  refine unpD 320 44 h (by decide) rfl rfl rfl rfl fun w1 h => WN.seq (WC.seq ?_)
  refine unpC 5 (by kernel_rfl) h rfl rfl rfl (by decide) (by decide) (by decide) (by decide) (by decide) rfl rfl fun w1 h => WN.seq (WC.seq ?_)
  refine unpA 5 h rfl rfl rfl (by decide) (by decide) (by decide) (by decide) rfl rfl fun w1 h => WN.seq (WC.seq ?_)
  refine unpA 18 h rfl rfl rfl (by decide) (by decide) (by decide) (by decide) rfl rfl fun w1 h => WN.seq (WC.seq ?_)
  refine unpB 31 1 h rfl rfl (by decide) rfl (by decide) (by decide) rfl rfl fun w1 h => WN.seq (WC.seq ?_)
  refine unpD 352 48 h (by decide) rfl rfl rfl rfl fun w1 h => WN.seq (WC.seq ?_)
  refine unpC 12 (by kernel_rfl) h rfl rfl rfl (by decide) (by decide) (by decide) (by decide) (by decide) rfl rfl fun w1 h => WN.seq (WC.seq ?_)
  refine unpA 12 h rfl rfl rfl (by decide) (by decide) (by decide) (by decide) rfl rfl fun w1 h => WN.seq (WC.seq ?_)
  refine unpB 25 7 h rfl rfl (by decide) rfl (by decide) (by decide) rfl rfl fun w1 h => WN.seq (WC.seq ?_)
  refine unpD 384 52 h (by decide) rfl rfl rfl rfl fun w1 h => WN.seq (WC.seq ?_)
  refine unpC 6 (by kernel_rfl) h rfl rfl rfl (by decide) (by decide) (by decide) (by decide) (by decide) rfl rfl fun w1 h => WN.seq (WC.seq ?_)
  refine unpA 6 h rfl rfl rfl (by decide) (by decide) (by decide) (by decide) rfl rfl ?_
  intro w1 h
  refine WN.seq ?_
  refine unpB 19 13 h rfl rfl (by decide) rfl (by decide) (by decide) rfl rfl ?_
  intro w1 h
  replace h := h.next (by decide)
  refine WN.endR rfl rfl ?_
  exact h.done

theorem unpk14 (p : UP) {w : World} (h : UIn p 14 w) :
    Ret Tryz.prog 97 #[.iface 120 (.pointer (some ⟨p.rb, p.rb.off, none⟩)), .slice (some ⟨p.g, p.o, none⟩) p.dl p.dc] w (unpR p 14 w) := by
  refine Ret.enter (vs := [.iface 120 (.pointer (some ⟨p.rb, p.rb.off, none⟩)), .slice (some ⟨p.g, p.o, none⟩) p.dl p.dc]) Tryz.func97 Tryz.ntmps97 rfl rfl ?_
  refine WC.seq (WC.region ?_)
  refine WR.alloc zvU rfl rfl ?_
  intro w1 hn _
  refine WR.nil ?_
  replace h := US.start h hn
  refine WN.weak (L3 p w.heap.size) ⟨rfl, rfl, rfl, trivial⟩ ?_
  clear hn
  revert h; generalize w.heap.size = b; intro h
  refine WN.seq (WC.seq ?_)
  refine unpD 0 4 h (by decide) rfl rfl rfl rfl fun w1 h => WN.seq (WC.seq ?_)
  refine unpA 0 h rfl rfl rfl (by decide) (by decide) (by decide) (by decide) rfl rfl fun w1 h => WN.seq (WC.seq ?_)
  refine unpA 14 h rfl rfl rfl (by decide) (by decide) (by decide) (by decide) rfl rfl fun w1 h => WN.seq (WC.seq ?_)
  refine unpB 28 4 h rfl rfl (by decide) rfl (by decide) (by decide) rfl rfl fun w1 h => WN.seq (WC.seq ?_)
  refine unpD 32 8 h (by decide) rfl rfl rfl rfl fun w1 h => WN.seq (WC.seq ?_)
  refine unpC 10 (by kernel_rfl) h rfl rfl rfl (by decide) (by decide) (by decide) (by decide) (by decide) rfl rfl fun w1 h => WN.seq (WC.seq ?_)
  refine unpA 10 h rfl rfl rfl (by decide) (by decide) (by decide) (by decide) rfl rfl fun w1 h => WN.seq (WC.seq ?_)
  refine unpB 24 8 h rfl rfl (by decide) rfl (by decide) (by decide) rfl rfl fun w1 h => WN.seq (WC.seq ?_)
  refine unpD 64 12 h (by decide) rfl rfl rfl rfl fun w1 h => WN.seq (WC.seq ?_)
  refine unpC 6 (by kernel_rfl) h rfl rfl rfl (by decide) (by decide) (by decide) (by decide) (by decide) rfl rfl fun w1 h => WN.seq (WC.seq ?_)
  refine unpA 6 h rfl rfl rfl (by decide) (by decide) (by decide) (by decide) rfl rfl fun w1 h => WN.seq (WC.seq ?_)
  refine unpB 20 12 h rfl rfl (by decide) rfl (by decide) (by decide) rfl rfl fun w1 h => WN.seq (WC.seq ?_)
  refine unpD 96 16 h (by decide) rfl rfl rfl rfl fun w1 h => WN.seq (WC.seq ?_)
  refine unpC 2 (by kernel_rfl) h rfl rfl rfl (by decide) (by decide) (by decide) (by decide) (by decide) rfl rfl fun w1 h => WN.seq (WC.seq ?_)
  refine unpA 2 h rfl rfl rfl (by decide) (by decide) (by decide) (by decide) rfl rfl fun w1 h => WN.seq (WC.seq ?_)
  refine unpA 16 h rfl rfl rfl (by decide) (by decide) (by decide) (by decide) rfl rfl fun w1 h => WN.seq (WC.seq ?_)
  refine unpB 30 2 h rfl rfl (by decide) rfl (by decide) (by decide) rfl rfl fun w1 h => WN.seq (WC.seq ?_)
  refine unpD 128 20 h (by decide) rfl rfl rfl rfl fun w1 h => WN.seq (WC.seq ?_)
  refine unpC 12 (by kernel_rfl) h rfl rfl rfl (by decide) (by decide) (by decide) (by decide) (by decide) rfl rfl fun w1 h => WN.seq (WC.seq ?_)
  refine unpA 12 h rfl rfl rfl (by decide) (by decide) (by decide) (by decide) rfl rfl fun w1 h => WN.seq (WC.seq ?_)
  refine unpB 26 6 h rfl rfl (by decide) rfl (by decide) (by decide) rfl rfl fun w1 h => WN.seq (WC.seq ?_)
  refine unpD 160 24 h (by decide) rfl rfl rfl rfl fun w1 h => WN.seq (WC.seq ?_)
  refine unpC 8 (by kernel_rfl) h rfl rfl rfl (by decide) (by decide) (by decide) (by decide) (by decide) rfl rfl fun w1 h => WN.seq (WC.seq ?_)
  refine unpA 8 h rfl rfl rfl (by decide) (by decide) (by decide) (by decide) rfl rfl fun w1 h => WN.seq (WC.seq ?_)
  refine unpB 22 10 h rfl rfl (by decide) rfl (by decide) (by decide) rfl rfl fun w1 h => WN.seq (WC.seq ?_)
  refine unpD 192 28 h (by decide) rfl rfl rfl rfl fun w1 h => WN.seq (WC.seq ?_)
  refine unpC 4 (by kernel_rfl) h rfl rfl rfl (by decide) (by decide) (by decide) (by decide) (by decide) rfl rfl fun w1 h => WN.seq (WC.seq ?_)
  refine unpA 4 h rfl rfl rfl (by decide) (by decide) (by decide) (by decide) rfl rfl fun w1 h => WN.seq (WC.seq ?_)
  refine unpB 18 14 h rfl rfl (by decide) rfl (by decide) (by decide) rfl rfl ?_
  intro w1 h
  replace h := h.next (by decide)
  refine WN.seq (WC.seq ?_)
  refine unpD 224 32 h (by decide) rfl rfl rfl rfl fun w1 h => WN.seq (WC.seq ?_)
  refine unpA 0 h rfl rfl rfl (by decide) (by decide) (by decide) (by decide) rfl rfl fun w1 h => WN.seq (WC.seq ?_)
  refine unpA 14 h rfl rfl rfl (by decide) (by decide) (by decide) (by decide) rfl rfl fun w1 h => WN.seq (WC.seq ?_)
  refine unpB 28 4 h rfl rfl (by decide) rfl (by decide) (by decide) rfl rfl fun w1 h => WN.seq (WC.seq ?_)
  refine unpD 256 36 h (by decide) rfl rfl rfl rfl fun w1 h => WN.seq (WC.seq ?_)
  refine unpC 10 (by kernel_rfl) h rfl rfl rfl (by decide) (by decide) (by decide) (by decide) (by decide) rfl rfl fun w1 h => WN.seq (WC.seq ?_)
  refine unpA 10 h rfl rfl rfl (by decide) (by decide) (by decide) (by decide) rfl rfl fun w1 h => WN.seq (WC.seq ?_)
  refine unpB 24 8 h rfl rfl (by decide) rfl (by decide) (by decide) rfl rfl fun w1 h => WN.seq (WC.seq ?_)
  refine unpD 288 40 h (by decide) rfl rfl rfl rfl fun w1 h => WN.seq (WC.seq ?_)
  refine unpC 6 (by kernel_rfl) h rfl rfl rfl (by decide) (by decide) (by decide) (by decide) (by decide) rfl rfl fun w1 h => WN.seq (WC.seq ?_)
  refine unpA 6 h rfl rfl rfl (by decide) (by decide) (by decide) (by decide) rfl rfl fun w1 h => WN.seq (WC.seq ?_)
  refine unpB 20 12 h rfl rfl (by decide) rfl (by decide) (by decide) rfl rfl fun w1 h => WN.seq (WC.seq ?_)
  refine unpD 320 44 h (by decide) rfl rfl rfl rfl fun w1 h => WN.seq (WC.seq ?_)
  refine unpC 2 (by kernel_rfl) h rfl rfl rfl (by decide) (by decide) (by decide) (by decide) (by decide) rfl rfl fun w1 h => WN.seq (WC.seq ?_)
  refine unpA 2 h rfl rfl rfl (by decide) (by decide) (by decide) (by decide) rfl rfl fun w1 h => WN.seq (WC.seq ?_)
  refine unpA 16 h rfl rfl rfl (by decide) (by decide) (by decide) (by decide) rfl rfl fun w1 h => WN.seq (WC.seq ?_)
  refine unpB 30 2 h rfl rfl (by decide) rfl (by decide) (by decide) rfl rfl fun w1 h => WN.seq (WC.seq ?_)
  refine unpD 352 48 h (by decide) rfl rfl rfl rfl fun w1 h => WN.seq (WC.seq ?_)
  refine unpC 12 (by kernel_rfl) h rfl rfl rfl (by decide) (by decide) (by decide) (by decide) (by decide) rfl rfl fun w1 h => WN.seq (WC.seq ?_)
  refine unpA 12 h rfl rfl rfl (by decide) (by decide) (by decide) (by decide) rfl rfl fun w1 h => WN.seq (WC.seq ?_)
  refine unpB 26 6 h rfl rfl (by decide) rfl (by decide) (by decide) rfl rfl fun w1 h => WN.seq (WC.seq ?_)
  refine unpD 384 52 h (by decide) rfl rfl rfl rfl fun w1 h => WN.seq (WC.seq ?_)
  refine unpC 8 (by kernel_rfl) h rfl rfl rfl (by decide) (by decide) (by decide) (by decide) (by decide) rfl rfl fun w1 h => WN.seq (WC.seq ?_)
  refine unpA 8 h rfl rfl rfl (by decide) (by decide) (by decide) (by decide) rfl rfl fun w1 h => WN.seq (WC.seq ?_)
  refine unpB 22 10 h rfl rfl (by decide) rfl (by decide) (by decide) rfl rfl fun w1 h => WN.seq (WC.seq ?_)
  refine unpD 416 56 h (by decide) rfl rfl rfl rfl fun w1 h => WN.seq (WC.seq ?_)
  refine unpC 4 (by kernel_rfl) h rfl rfl rfl (by decide) (by decide) (by decide) (by decide) (by decide) rfl rfl fun w1 h => WN.seq (WC.seq ?_)
  refine unpA 4 h rfl rfl rfl (by decide) (by decide) (by decide) (by decide) rfl rfl ?_
  intro w1 h
  refine WN.seq ?_
  refine unpB 18 14 h rfl rfl (by decide) rfl (by decide) (by decide) rfl rfl ?_
  intro w1 h
  replace h := h.next (by decide)
  refine WN.endR rfl rfl ?_
  exact h.done

theorem unpk15 (p : UP) {w : World} (h : UIn p 15 w) :
    Ret Tryz.prog 98 #[.iface 120 (.pointer (some ⟨p.rb, p.rb.off, none⟩)), .slice (some ⟨p.g, p.o, none⟩) p.dl p.dc] w (unpR p 15 w) := by
  refine Ret.enter (vs := [.iface 120 (.pointer (some ⟨p.rb, p.rb.off, none⟩)), .slice (some ⟨p.g, p.o, none⟩) p.dl p.dc]) Tryz.func98 Tryz.ntmps98 rfl rfl ?_
  refine WC.seq (WC.region ?_)
  refine WR.alloc zvU rfl rfl ?_
  intro w1 hn _
  refine WR.nil ?_
  replace h := US.start h hn
  refine WN.weak (L3 p w.heap.size) ⟨rfl, rfl, rfl, trivial⟩ ?_
  clear hn
  revert h; generalize w.heap.size = b; intro h
  refine WN.seq (WC.seq ?_)
  refine unpD 0 4 h (by decide) rfl rfl rfl rfl fun w1 h => WN.seq (WC.seq ?_)
  refine unpA 0 h rfl rfl rfl (by decide) (by decide) (by decide) (by decide) rfl rfl fun w1 h => WN.seq (WC.seq ?_)
  refine unpA 15 h rfl rfl rfl (by decide) (by decide) (by decide) (by decide) rfl rfl fun w1 h => WN.seq (WC.seq ?_)
  refine unpB 30 2 h rfl rfl (by decide) rfl (by decide) (by decide) rfl rfl fun w1 h => WN.seq (WC.seq ?_)
  refine unpD 32 8 h (by decide) rfl rfl rfl rfl fun w1 h => WN.seq (WC.seq ?_)
  refine unpC 13 (by kernel_rfl) h rfl rfl rfl (by decide) (by decide) (by decide) (by decide) (by decide) rfl rfl fun w1 h => WN.seq (WC.seq ?_)
  refine unpA 13 h rfl rfl rfl (by decide) (by decide) (by decide) (by decide) rfl rfl fun w1 h => WN.seq (WC.seq ?_)
  refine unpB 28 4 h rfl rfl (by decide) rfl (by decide) (by decide) rfl rfl fun w1 h => WN.seq (WC.seq ?_)
  refine unpD 64 12 h (by decide) rfl rfl rfl rfl fun w1 h => WN.seq (WC.seq ?_)
  refine unpC 11 (by kernel_rfl) h rfl rfl rfl (by decide) (by decide) (by decide) (by decide) (by decide) rfl rfl fun w1 h => WN.seq (WC.seq ?_)
  refine unpA 11 h rfl rfl rfl (by decide) (by decide) (by decide) (by decide) rfl rfl fun w1 h => WN.seq (WC.seq ?_)
  refine unpB 26 6 h rfl rfl (by decide) rfl (by decide) (by decide) rfl rfl fun w1 h => WN.seq (WC.seq ?_)
  refine unpD 96 16 h (by decide) rfl rfl rfl rfl fun w1 h => WN.seq (WC.seq ?_)
  refine unpC 9 (by kernel_rfl) h rfl rfl rfl (by decide) (by decide) (by decide) (by decide) (by decide) rfl rfl fun w1 h => WN.seq (WC.seq ?_)
  refine unpA 9 h rfl rfl rfl (by decide) (by decide) (by decide) (by decide) rfl rfl fun w1 h => WN.seq (WC.seq ?_)
  refine unpB 24 8 h rfl rfl (by decide) rfl (by decide) (by decide) rfl rfl fun w1 h => WN.seq (WC.seq ?_)
  refine unpD 128 20 h (by decide) rfl rfl rfl rfl fun w1 h => WN.seq (WC.seq ?_)
  refine unpC 7 (by kernel_rfl) h rfl rfl rfl (by decide) (by decide) (by decide) (by decide) (by decide) rfl rfl fun w1 h => WN.seq (WC.seq ?_)
  refine unpA 7 h rfl rfl rfl (by decide) (by decide) (by decide) (by decide) rfl rfl fun w1 h => WN.seq (WC.seq ?_)
  refine unpB 22 10 h rfl rfl (by decide) rfl (by decide) (by decide) rfl rfl fun w1 h => WN.seq (WC.seq ?_)
  refine unpD 160 24 h (by decide) rfl rfl rfl rfl fun w1 h => WN.seq (WC.seq ?_)
  refine unpC 5 (by kernel_rfl) h rfl rfl rfl (by decide) (by decide) (by decide) (by decide) (by decide) rfl rfl fun w1 h => WN.seq (WC.seq ?_)
  refine unpA 5 h rfl rfl rfl (by decide) (by decide) (by decide) (by decide) rfl rfl fun w1 h => WN.seq (WC.seq ?_)
  refine unpB 20 12 h rfl rfl (by decide) rfl (by decide) (by decide) rfl rfl fun w1 h => WN.seq (WC.seq ?_)
  refine unpD 192 28 h (by decide) rfl rfl rfl rfl fun w1 h => WN.seq (WC.seq ?_)
  refine unpC 3 (by kernel_rfl) h rfl rfl rfl (by decide) (by decide) (by decide) (by decide) (by decide) rfl rfl fun w1 h => WN.seq (WC.seq ?_)
  refine unpA 3 h rfl rfl rfl (by decide) (by decide) (by decide) (by decide) rfl rfl fun w1 h => WN.seq (WC.seq ?_)
  refine unpB 18 14 h rfl rfl (by decide) rfl (by decide) (by decide) rfl rfl fun w1 h => WN.seq (WC.seq ?_)
  refine unpD 224 32 h (by decide) rfl rfl rfl rfl fun w1 h => WN.seq (WC.seq ?_)
  refine unpC 1 (by kernel_rfl) h rfl rfl rfl (by decide) (by decide) (by decide) (by decide) (by decide) rfl rfl fun w1 h => WN.seq (WC.seq ?_)
  refine unpA 1 h rfl rfl rfl (by decide) (by decide) (by decide) (by decide) rfl rfl fun w1 h => WN.seq (WC.seq ?_)
  refine unpA 16 h rfl rfl rfl (by decide) (by decide) (by decide) (by decide) rfl rfl fun w1 h => WN.seq (WC.seq ?_)
  refine unpB 31 1 h rfl rfl (by decide) rfl (by decide) (by decide) rfl rfl fun w1 h => WN.seq (WC.seq ?_)
  refine unpD 256 36 h (by decide) rfl rfl rfl rfl fun w1 h => WN.seq (WC.seq ?_)
  refine unpC 14 (by kernel_rfl) h rfl rfl rfl (by decide) (by decide) (by decide) (by decide) (by decide) rfl rfl fun w1 h => WN.seq (WC.seq ?_)
  refine unpA 14 h rfl rfl rfl (by decide) (by decide) (by decide) (by decide) rfl rfl fun w1 h => WN.seq (WC.seq ?_)
  refine unpB 29 3 h rfl rfl (by decide) rfl (by decide) (by decide) rfl rfl fun w1 h => WN.seq (WC.seq ?_)
  refine unpD 288 40 h (by decide) rfl rfl rfl rfl fun w1 h => WN.seq (WC.seq ?_)
  refine unpC 12 (by kernel_rfl) h rfl rfl rfl (by decide) (by decide) (by decide) (by decide) (by decide) rfl rfl fun w1 h => WN.seq (WC.seq ?_)
  refine unpA 12 h rfl rfl rfl (by decide) (by decide) (by decide) (by decide) rfl rfl fun w1 h => WN.seq (WC.seq ?_)
  refine unpB 27 5 h rfl rfl (by decide) rfl (by decide) (by decide) rfl rfl fun w1 h => WN.seq (WC.seq ?_)
  refine unpD 320 44 h (by decide) rfl rfl rfl rfl fun w1 h => WN.seq (WC.seq ?_)
  refine unpC 10 (by kernel_rfl) h rfl rfl rfl (by decide) (by decide) (by decide) (by decide) (by decide) rfl rfl fun w1 h => WN.seq (WC.seq ?_)
  refine unpA 10 h rfl rfl rfl (by decide) (by decide) (by decide) (by decide) rfl rfl fun w1 h => WN.seq (WC.seq ?_)
  refine unpB 25 7 h rfl rfl (by decide) rfl (by decide) (by decide) rfl rfl fun w1 h => WN.seq (WC.seq ?_)
  refine unpD 352 48 h (by decide) rfl rfl rfl rfl fun w1 h => WN.seq (WC.seq ?_)
  refine unpC 8 (by kernel_rfl) h rfl rfl rfl (by decide) (by decide) (by decide) (by decide) (by decide) rfl rfl fun w1 h => WN.seq (WC.seq ?_)
  refine unpA 8 h rfl rfl rfl (by decide) (by decide) (by decide) (by decide) rfl rfl fun w1 h => WN.seq (WC.seq ?_)
  refine unpB 23 9 h rfl rfl (by decide) rfl (by decide) (by decide) rfl rfl fun w1 h => WN.seq (WC.seq ?_)
  refine unpD 384 52 h (by decide) rfl rfl rfl rfl fun w1 h => WN.seq (WC.seq ?_)
  refine unpC 6 (by kernel_rfl) h rfl rfl rfl (by decide) (by decide) (by decide) (by decide) (by decide) rfl rfl fun w1 h => WN.seq (WC.seq ?_)
  refine unpA 6 h rfl rfl rfl (by decide) (by decide) (by decide) (by decide) rfl rfl fun w1 h => WN.seq (WC.seq ?_)
  refine unpB 21 11 h rfl rfl (by decide) rfl (by decide) (by decide) rfl rfl fun w1 h => WN.seq (WC.seq ?_)
  refine unpD 416 56 h (by decide) rfl rfl rfl rfl fun w1 h => WN.seq (WC.seq ?_)
  refine unpC 4 (by kernel_rfl) h rfl rfl rfl (by decide) (by decide) (by decide) (by decide) (by decide) rfl rfl fun w1 h => WN.seq (WC.seq ?_)
  refine unpA 4 h rfl rfl rfl (by decide) (by decide) (by decide) (by decide) rfl rfl fun w1 h => WN.seq (WC.seq ?_)
  refine unpB 19 13 h rfl rfl (by decide) rfl (by decide) (by decide) rfl rfl fun w1 h => WN.seq (WC.seq ?_)
  refine unpD 448 60 h (by decide) rfl rfl rfl rfl fun w1 h => WN.seq (WC.seq ?_)
  refine unpC 2 (by kernel_rfl) h rfl rfl rfl (by decide) (by decide) (by decide) (by decide) (by decide) rfl rfl fun w1 h => WN.seq (WC.seq ?_)
  refine unpA 2 h rfl rfl rfl (by decide) (by decide) (by decide) (by decide) rfl rfl ?_
  intro w1 h
  refine WN.seq ?_
  refine unpB 17 15 h rfl rfl (by decide) rfl (by decide) (by decide) rfl rfl ?_
  intro w1 h
  replace h := h.next (by decide)
  refine WN.endR rfl rfl ?_
  exact h.done

theorem unpk17 (p : UP) {w : World} (h : UIn p 17 w) :
    Ret Tryz.prog 100 #[.iface 120 (.pointer (some ⟨p.rb, p.rb.off, none⟩)), .slice (some ⟨p.g, p.o, none⟩) p.dl p.dc] w (unpR p 17 w) := by
  refine Ret.enter (vs := [.iface 120 (.pointer (some ⟨p.rb, p.rb.off, none⟩)), .slice (some ⟨p.g, p.o, none⟩) p.dl p.dc]) Tryz.func100 Tryz.ntmps100 rfl rfl ?_
  refine WC.seq (WC.region ?_)
  refine WR.alloc zvU rfl rfl ?_
  intro w1 hn _
  refine WR.nil ?_
  replace h := US.start h hn
  refine WN.weak (L3 p w.heap.size) ⟨rfl, rfl, rfl, trivial⟩ ?_
  clear hn
  revert h; generalize w.heap.size = b; intro h
  refine WN.seq (WC.seq ?_)
  refine unpD 0 4 h (by decide) rfl rfl rfl rfl fun w1 h => WN.seq (WC.seq ?_)
  refine unpA 0 h rfl rfl rfl (by decide) (by decide) (by decide) (by decide) rfl rfl fun w1 h => WN.seq (WC.seq ?_)
  refine unpB 17 15 h rfl rfl (by decide) rfl (by decide) (by decide) rfl rfl fun w1 h => WN.seq (WC.seq ?_)
  refine unpD 32 8 h (by decide) rfl rfl rfl rfl fun w1 h => WN.seq (WC.seq ?_)
  refine unpC 2 (by kernel_rfl) h rfl rfl rfl (by decide) (by decide) (by decide) (by decide) (by decide) rfl rfl fun w1 h => WN.seq (WC.seq ?_)
  refine unpA 2 h rfl rfl rfl (by decide) (by decide) (by decide) (by decide) rfl rfl fun w1 h => WN.seq (WC.seq ?_)
  refine unpB 19 13 h rfl rfl (by decide) rfl (by decide) (by decide) rfl rfl fun w1 h => WN.seq (WC.seq ?_)
  refine unpD 64 12 h (by decide) rfl rfl rfl rfl fun w1 h => WN.seq (WC.seq ?_)
  refine unpC 4 (by kernel_rfl) h rfl rfl rfl (by decide) (by decide) (by decide) (by decide) (by decide) rfl rfl fun w1 h => WN.seq (WC.seq ?_)
  refine unpA 4 h rfl rfl rfl (by decide) (by decide) (by decide) (by decide) rfl rfl fun w1 h => WN.seq (WC.seq ?_)
  refine unpB 21 11 h rfl rfl (by decide) rfl (by decide) (by decide) rfl rfl fun w1 h => WN.seq (WC.seq ?_)
  refine unpD 96 16 h (by decide) rfl rfl rfl rfl fun w1 h => WN.seq (WC.seq ?_)
  refine unpC 6 (by kernel_rfl) h rfl rfl rfl (by decide) (by decide) (by decide) (by decide) (by decide) rfl rfl fun w1 h => WN.seq (WC.seq ?_)
  refine unpA 6 h rfl rfl rfl (by decide) (by decide) (by decide) (by decide) rfl rfl fun w1 h => WN.seq (WC.seq ?_)
  refine unpB 23 9 h rfl rfl (by decide) rfl (by decide) (by decide) rfl rfl fun w1 h => WN.seq (WC.seq ?_)
  refine unpD 128 20 h (by decide) rfl rfl rfl rfl fun w1 h => WN.seq (WC.seq ?_)
  refine unpC 8 (by kernel_rfl) h rfl rfl rfl (by decide) (by decide) (by decide) (by decide) (by decide) rfl rfl fun w1 h => WN.seq (WC.seq ?_)
  refine unpA 8 h rfl rfl rfl (by decide) (by decide) (by decide) (by decide) rfl rfl fun w1 h => WN.seq (WC.seq ?_)
  refine unpB 25 7 h rfl rfl (by decide) rfl (by decide) (by decide) rfl rfl fun w1 h => WN.seq (WC.seq ?_)
  refine unpD 160 24 h (by decide) rfl rfl rfl rfl fun w1 h => WN.seq (WC.seq ?_)
  refine unpC 10 (by kernel_rfl) h rfl rfl rfl (by decide) (by decide) (by decide) (by decide) (by decide) rfl rfl fun w1 h => WN.seq (WC.seq ?_)
  refine unpA 10 h rfl rfl rfl (by decide) (by decide) (by decide) (by decide) rfl rfl fun w1 h => WN.seq (WC.seq ?_)
  refine unpB 27 5 h rfl rfl (by decide) rfl (by decide) (by decide) rfl rfl fun w1 h => WN.seq (WC.seq ?_)
  refine unpD 192 28 h (by decide) rfl rfl rfl rfl fun w1 h => WN.seq (WC.seq ?_)
  refine unpC 12 (by kernel_rfl) h rfl rfl rfl (by decide) (by decide) (by decide) (by decide) (by decide) rfl rfl fun w1 h => WN.seq (WC.seq ?_)
  refine unpA 12 h rfl rfl rfl (by decide) (by decide) (by decide) (by decide) rfl rfl fun w1 h => WN.seq (WC.seq ?_)
  refine unpB 29 3 h rfl rfl (by decide) rfl (by decide) (by decide) rfl rfl fun w1 h => WN.seq (WC.seq ?_)
  refine unpD 224 32 h (by decide) rfl rfl rfl rfl fun w1 h => WN.seq (WC.seq ?_)
  refine unpC 14 (by kernel_rfl) h rfl rfl rfl (by decide) (by decide) (by decide) (by decide) (by decide) rfl rfl fun w1 h => WN.seq (WC.seq ?_)
  refine unpA 14 h rfl rfl rfl (by decide) (by decide) (by decide) (by decide) rfl rfl fun w1 h => WN.seq (WC.seq ?_)
  refine unpB 31 1 h rfl rfl (by decide) rfl (by decide) (by decide) rfl rfl fun w1 h => WN.seq (WC.seq ?_)
  refine unpD 256 36 h (by decide) rfl rfl rfl rfl fun w1 h => WN.seq (WC.seq ?_)
  refine unpC 16 (by kernel_rfl) h rfl rfl rfl (by decide) (by decide) (by decide) (by decide) (by decide) rfl rfl fun w1 h => WN.seq (WC.seq ?_)
  refine unpB 16 16 h rfl rfl (by decide) rfl (by decide) (by decide) rfl rfl fun w1 h => WN.seq (WC.seq ?_)
  refine unpD 288 40 h (by decide) rfl rfl rfl rfl fun w1 h => WN.seq (WC.seq ?_)
  refine unpC 1 (by kernel_rfl) h rfl rfl rfl (by decide) (by decide) (by decide) (by decide) (by decide) rfl rfl fun w1 h => WN.seq (WC.seq ?_)
  refine unpA 1 h rfl rfl rfl (by decide) (by decide) (by decide) (by decide) rfl rfl fun w1 h => WN.seq (WC.seq ?_)
  refine unpB 18 14 h rfl rfl (by decide) rfl (by decide) (by decide) rfl rfl fun w1 h => WN.seq (WC.seq ?_)
  refine unpD 320 44 h (by decide) rfl rfl rfl rfl fun w1 h => WN.seq (WC.seq ?_)
  refine unpC 3 (by kernel_rfl) h rfl rfl rfl (by decide) (by decide) (by decide) (by decide) (by decide) rfl rfl fun w1 h => WN.seq (WC.seq ?_)
  refine unpA 3 h rfl rfl rfl (by decide) (by decide) (by decide) (by decide) rfl rfl fun w1 h => WN.seq (WC.seq ?_)
  refine unpB 20 12 h rfl rfl (by decide) rfl (by decide) (by decide) rfl rfl fun w1 h => WN.seq (WC.seq ?_)
  refine unpD 352 48 h (by decide) rfl rfl rfl rfl fun w1 h => WN.seq (WC.seq ?_)
  refine unpC 5 (by kernel_rfl) h rfl rfl rfl (by decide) (by decide) (by decide) (by decide) (by decide) rfl rfl fun w1 h => WN.seq (WC.seq ?_)
  refine unpA 5 h rfl rfl rfl (by decide) (by decide) (by decide) (by decide) rfl rfl fun w1 h => WN.seq (WC.seq ?_)
  refine unpB 22 10 h rfl rfl (by decide) rfl (by decide) (by decide) rfl rfl fun w1 h => WN.seq (WC.seq ?_)
  refine unpD 384 52 h (by decide) rfl rfl rfl rfl fun w1 h => WN.seq (WC.seq ?_)
  refine unpC 7 (by kernel_rfl) h rfl rfl rfl (by decide) (by decide) (by decide) (by decide) (by decide) rfl rfl fun w1 h => WN.seq (WC.seq ?_)
  refine unpA 7 h rfl rfl rfl (by decide) (by decide) (by decide) (by decide) rfl rfl fun w1 h => WN.seq (WC.seq ?_)
  refine unpB 24 8 h rfl rfl (by decide) rfl (by decide) (by decide) rfl rfl fun w1 h => WN.seq (WC.seq ?_)
  refine unpD 416 56 h (by decide) rfl rfl rfl rfl fun w1 h => WN.seq (WC.seq ?_)
  refine unpC 9 (by kernel_rfl) h rfl rfl rfl (by decide) (by decide) (by decide) (by decide) (by decide) rfl rfl fun w1 h => WN.seq (WC.seq ?_)
  refine unpA 9 h rfl rfl rfl (by decide) (by decide) (by decide) (by decide) rfl rfl fun w1 h => WN.seq (WC.seq ?_)
  refine unpB 26 6 h rfl rfl (by decide) rfl (by decide) (by decide) rfl rfl fun w1 h => WN.seq (WC.seq ?_)
  refine unpD 448 60 h (by decide) rfl rfl rfl rfl fun w1 h => WN.seq (WC.seq ?_)
  refine unpC 11 (by kernel_rfl) h rfl rfl rfl (by decide) (by decide) (by decide) (by decide) (by decide) rfl rfl fun w1 h => WN.seq (WC.seq ?_)
  refine unpA 11 h rfl rfl rfl (by decide) (by decide) (by decide) (by decide) rfl rfl fun w1 h => WN.seq (WC.seq ?_)
  refine unpB 28 4 h rfl rfl (by decide) rfl (by decide) (by decide) rfl rfl fun w1 h => WN.seq (WC.seq ?_)
  refine unpD 480 64 h (by decide) rfl rfl rfl rfl fun w1 h => WN.seq (WC.seq ?_)
  refine unpC 13 (by kernel_rfl) h rfl rfl rfl (by decide) (by decide) (by decide) (by decide) (by decide) rfl rfl fun w1 h => WN.seq (WC.seq ?_)
  refine unpA 13 h rfl rfl rfl (by decide) (by decide) (by decide) (by decide) rfl rfl fun w1 h => WN.seq (WC.seq ?_)
  refine unpB 30 2 h rfl rfl (by decide) rfl (by decide) (by decide) rfl rfl fun w1 h => WN.seq (WC.seq ?_)
  refine unpD 512 68 h (by decide) rfl rfl rfl rfl fun w1 h => WN.seq (WC.seq ?_)
  refine unpC 15 (by kernel_rfl) h rfl rfl rfl (by decide) (by decide) (by decide) (by decide) (by decide) rfl rfl ?_
  intro w1 h
  refine WN.seq ?_
  refine unpB 15 17 h rfl rfl (by decide) rfl (by decide) (by decide) rfl rfl ?_
  intro w1 h
  replace h := h.next (by decide)
  refine WN.endR rfl rfl ?_
  exact h.done

theorem unpk18 (p : UP) {w : World} (h : UIn p 18 w) :
    Ret Tryz.prog 101 #[.iface 120 (.pointer (some ⟨p.rb, p.rb.off, none⟩)), .slice (some ⟨p.g, p.o, none⟩) p.dl p.dc] w (unpR p 18 w) := by
  refine Ret.enter (vs := [.iface 120 (.pointer (some ⟨p.rb, p.rb.off, none⟩)), .slice (some ⟨p.g, p.o, none⟩) p.dl p.dc]) Tryz.func101 Tryz.ntmps101 rfl rfl ?_
  refine WC.seq (WC.region ?_)
  refine WR.alloc zvU rfl rfl ?_
  intro w1 hn _
  refine WR.nil ?_
  replace h := US.start h hn
  refine WN.weak (L3 p w.heap.size) ⟨rfl, rfl, rfl, trivial⟩ ?_
  clear hn
  revert h; generalize w.heap.size = b; intro h
  refine WN.seq (WC.seq ?_)
  refine unpD 0 4 h (by decide) rfl rfl rfl rfl fun w1 h => WN.seq (WC.seq ?_)
  refine unpA 0 h rfl rfl rfl (by decide) (by decide) (by decide) (by decide) rfl rfl fun w1 h => WN.seq (WC.seq ?_)
  refine unpB 18 14 h rfl rfl (by decide) rfl (by decide) (by decide) rfl rfl fun w1 h => WN.seq (WC.seq ?_)
  refine unpD 32 8 h (by decide) rfl rfl rfl rfl fun w1 h => WN.seq (WC.seq ?_)
  refine unpC 4 (by kernel_rfl) h rfl rfl rfl (by decide) (by decide) (by decide) (by decide) (by decide) rfl rfl fun w1 h => WN.seq (WC.seq ?_)
  refine unpA 4 h rfl rfl rfl (by decide) (by decide) (by decide) (by decide) rfl rfl fun w1 h => WN.seq (WC.seq ?_)
  refine unpB 22 10 h rfl rfl (by decide) rfl (by decide) (by decide) rfl rfl fun w1 h => WN.seq (WC.seq ?_)
  refine unpD 64 12 h (by decide) rfl rfl rfl rfl fun w1 h => WN.seq (WC.seq ?_)
  refine unpC 8 (by kernel_rfl) h rfl rfl rfl (by decide) (by decide) (by decide) (by decide) (by decide) rfl rfl fun w1 h => WN.seq (WC.seq ?_)
  refine unpA 8 h rfl rfl rfl (by decide) (by decide) (by decide) (by decide) rfl rfl fun w1 h => WN.seq (WC.seq ?_)
  refine unpB 26 6 h rfl rfl (by decide) rfl (by decide) (by decide) rfl rfl fun w1 h => WN.seq (WC.seq ?_)
  refine unpD 96 16 h (by decide) rfl rfl rfl rfl fun w1 h => WN.seq (WC.seq ?_)
  refine unpC 12 (by kernel_rfl) h rfl rfl rfl (by decide) (by decide) (by decide) (by decide) (by decide) rfl rfl fun w1 h => WN.seq (WC.seq ?_)
  refine unpA 12 h rfl rfl rfl (by decide) (by decide) (by decide) (by decide) rfl rfl fun w1 h => WN.seq (WC.seq ?_)
  refine unpB 30 2 h rfl rfl (by decide) rfl (by decide) (by decide) rfl rfl fun w1 h => WN.seq (WC.seq ?_)
  refine unpD 128 20 h (by decide) rfl rfl rfl rfl fun w1 h => WN.seq (WC.seq ?_)
  refine unpC 16 (by kernel_rfl) h rfl rfl rfl (by decide) (by decide) (by decide) (by decide) (by decide) rfl rfl fun w1 h => WN.seq (WC.seq ?_)
  refine unpB 16 16 h rfl rfl (by decide) rfl (by decide) (by decide) rfl rfl fun w1 h => WN.seq (WC.seq ?_)
  refine unpD 160 24 h (by decide) rfl rfl rfl rfl fun w1 h => WN.seq (WC.seq ?_)
  refine unpC 2 (by kernel_rfl) h rfl rfl rfl (by decide) (by decide) (by decide) (by decide) (by decide) rfl rfl fun w1 h => WN.seq (WC.seq ?_)
  refine unpA 2 h rfl rfl rfl (by decide) (by decide) (by decide) (by decide) rfl rfl fun w1 h => WN.seq (WC.seq ?_)
  refine unpB 20 12 h rfl rfl (by decide) rfl (by decide) (by decide) rfl rfl fun w1 h => WN.seq (WC.seq ?_)
  refine unpD 192 28 h (by decide) rfl rfl rfl rfl fun w1 h => WN.seq (WC.seq ?_)
  refine unpC 6 (by kernel_rfl) h rfl rfl rfl (by decide) (by decide) (by decide) (by decide) (by decide) rfl rfl fun w1 h => WN.seq (WC.seq ?_)
  refine unpA 6 h rfl rfl rfl (by decide) (by decide) (by decide) (by decide) rfl rfl fun w1 h => WN.seq (WC.seq ?_)
  refine unpB 24 8 h rfl rfl (by decide) rfl (by decide) (by decide) rfl rfl fun w1 h => WN.seq (WC.seq ?_)
  refine unpD 224 32 h (by decide) rfl rfl rfl rfl fun w1 h => WN.seq (WC.seq ?_)
  refine unpC 10 (by kernel_rfl) h rfl rfl rfl (by decide) (by decide) (by decide) (by decide) (by decide) rfl rfl fun w1 h => WN.seq (WC.seq ?_)
  refine unpA 10 h rfl rfl rfl (by decide) (by decide) (by decide) (by decide) rfl rfl fun w1 h => WN.seq (WC.seq ?_)
  refine unpB 28 4 h rfl rfl (by decide) rfl (by decide) (by decide) rfl rfl fun w1 h => WN.seq (WC.seq ?_)
  refine unpD 256 36 h (by decide) rfl rfl rfl rfl fun w1 h => WN.seq (WC.seq ?_)
  refine unpC 14 (by kernel_rfl) h rfl rfl rfl (by decide) (by decide) (by decide) (by decide) (by decide) rfl rfl fun w1 h => WN.seq (WC.seq ?_)
  refine unpB 14 18 h rfl rfl (by decide) rfl (by decide) (by decide) rfl rfl ?_
  intro w1 h
  replace h := h.next (by decide)
  refine WN.seq (WC.seq ?_)
  refine unpD 288 40 h (by decide) rfl rfl rfl rfl fun w1 h => WN.seq (WC.seq ?_)
  refine unpA 0 h rfl rfl rfl (by decide) (by decide) (by decide) (by decide) rfl rfl fun w1 h => WN.seq (WC.seq ?_)
  refine unpB 18 14 h rfl rfl (by decide) rfl (by decide) (by decide) rfl rfl fun w1 h => WN.seq (WC.seq ?_)
  refine unpD 320 44 h (by decide) rfl rfl rfl rfl fun w1 h => WN.seq (WC.seq ?_)
  refine unpC 4 (by kernel_rfl) h rfl rfl rfl (by decide) (by decide) (by decide) (by decide) (by decide) rfl rfl fun w1 h => WN.seq (WC.seq ?_)
  refine unpA 4 h rfl rfl rfl (by decide) (by decide) (by decide) (by decide) rfl rfl fun w1 h => WN.seq (WC.seq ?_)
  refine unpB 22 10 h rfl rfl (by decide) rfl (by decide) (by decide) rfl rfl fun w1 h => WN.seq (WC.seq ?_)
  refine unpD 352 48 h (by decide) rfl rfl rfl rfl fun w1 h => WN.seq (WC.seq ?_)
  refine unpC 8 (by kernel_rfl) h rfl rfl rfl (by decide) (by decide) (by decide) (by decide) (by decide) rfl rfl fun w1 h => WN.seq (WC.seq ?_)
  refine unpA 8 h rfl rfl rfl (by decide) (by decide) (by decide) (by decide) rfl rfl fun w1 h => WN.seq (WC.seq ?_)
  refine unpB 26 6 h rfl rfl (by decide) rfl (by decide) (by decide) rfl rfl fun w1 h => WN.seq (WC.seq ?_)
  refine unpD 384 52 h (by decide) rfl rfl rfl rfl fun w1 h => WN.seq (WC.seq ?_)
  refine unpC 12 (by kernel_rfl) h rfl rfl rfl (by decide) (by decide) (by decide) (by decide) (by decide) rfl rfl fun w1 h => WN.seq (WC.seq ?_)
  refine unpA 12 h rfl rfl rfl (by decide) (by decide) (by decide) (by decide) rfl rfl fun w1 h => WN.seq (WC.seq ?_)
  refine unpB 30 2 h rfl rfl (by decide) rfl (by decide) (by decide) rfl rfl fun w1 h => WN.seq (WC.seq ?_)
  refine unpD 416 56 h (by decide) rfl rfl rfl rfl fun w1 h => WN.seq (WC.seq ?_)
  refine unpC 16 (by kernel_rfl) h rfl rfl rfl (by decide) (by decide) (by decide) (by decide) (by decide) rfl rfl fun w1 h => WN.seq (WC.seq ?_)
  refine unpB 16 16 h rfl rfl (by decide) rfl (by decide) (by decide) rfl rfl fun w1 h => WN.seq (WC.seq ?_)
  refine unpD 448 60 h (by decide) rfl rfl rfl rfl fun w1 h => WN.seq (WC.seq ?_)
  refine unpC 2 (by kernel_rfl) h rfl rfl rfl (by decide) (by decide) (by decide) (by decide) (by decide) rfl rfl fun w1 h => WN.seq (WC.seq ?_)
  refine unpA 2 h rfl rfl rfl (by decide) (by decide) (by decide) (by decide) rfl rfl fun w1 h => WN.seq (WC.seq ?_)
  refine unpB 20 12 h rfl rfl (by decide) rfl (by decide) (by decide) rfl rfl fun w1 h => WN.seq (WC.seq ?_)
  refine unpD 480 64 h (by decide) rfl rfl rfl rfl fun w1 h => WN.seq (WC.seq ?_)
  refine unpC 6 (by kernel_rfl) h rfl rfl rfl (by decide) (by decide) (by decide) (by decide) (by decide) rfl rfl fun w1 h => WN.seq (WC.seq ?_)
  refine unpA 6 h rfl rfl rfl (by decide) (by decide) (by decide) (by decide) rfl rfl fun w1 h => WN.seq (WC.seq ?_)
  refine unpB 24 8 h rfl rfl (by decide) rfl (by decide) (by decide) rfl rfl fun w1 h => WN.seq (WC.seq ?_)
  refine unpD 512 68 h (by decide) rfl rfl rfl rfl fun w1 h => WN.seq (WC.seq ?_)
  refine unpC 10 (by kernel_rfl) h rfl rfl rfl (by decide) (by decide) (by decide) (by decide) (by decide) rfl rfl fun w1 h => WN.seq (WC.seq ?_)
  refine unpA 10 h rfl rfl rfl (by decide) (by decide) (by decide) (by decide) rfl rfl fun w1 h => WN.seq (WC.seq ?_)
  refine unpB 28 4 h rfl rfl (by decide) rfl (by decide) (by decide) rfl rfl fun w1 h => WN.seq (WC.seq ?_)
  refine unpD 544 72 h (by decide) rfl rfl rfl rfl fun w1 h => WN.seq (WC.seq ?_)
  refine unpC 14 (by kernel_rfl) h rfl rfl rfl (by decide) (by decide) (by decide) (by decide) (by decide) rfl rfl ?_
  intro w1 h
  refine WN.seq ?_
  refine unpB 14 18 h rfl rfl (by decide) rfl (by decide) (by decide) rfl rfl ?_
  intro w1 h
  replace h := h.next (by decide)
  refine WN.endR rfl rfl ?_
  exact h.done

theorem unpk19 (p : UP) {w : World} (h : UIn p 19 w) :
    Ret Tryz.prog 102 #[.iface 120 (.pointer (some ⟨p.rb, p.rb.off, none⟩)), .slice (some ⟨p.g, p.o, none⟩) p.dl p.dc] w (unpR p 19 w) := by
  refine Ret.enter (vs := [.iface 120 (.pointer (some ⟨p.rb, p.rb.off, none⟩)), .slice (some ⟨p.g, p.o, none⟩) p.dl p.dc]) Tryz.func102 Tryz.ntmps102 rfl rfl ?_
  refine WC.seq (WC.region ?_)
  refine WR.alloc zvU rfl rfl ?_
  intro w1 hn _
  refine WR.nil ?_
  replace h := US.start h hn
  refine WN.weak (L3 p w.heap.size) ⟨rfl, rfl, rfl, trivial⟩ ?_
  clear hn
  revert h; generalize w.heap.size = b; intro h
  refine WN.seq (WC.seq ?_)
  refine unpD 0 4 h (by decide) rfl rfl rfl rfl fun w1 h => WN.seq (WC.seq ?_)
  refine unpA 0 h rfl rfl rfl (by decide) (by decide) (by decide) (by decide) rfl rfl fun w1 h => WN.seq (WC.seq ?_)
  refine unpB 19 13 h rfl rfl (by decide) rfl (by decide) (by decide) rfl rfl fun w1 h => WN.seq (WC.seq ?_)
  refine unpD 32 8 h (by decide) rfl rfl rfl rfl fun w1 h => WN.seq (WC.seq ?_)
  refine unpC 6 (by kernel_rfl) h rfl rfl rfl (by decide) (by decide) (by decide) (by decide) (by decide) rfl rfl fun w1 h => WN.seq (WC.seq ?_)
  refine unpA 6 h rfl rfl rfl (by decide) (by decide) (by decide) (by decide) rfl rfl fun w1 h => WN.seq (WC.seq ?_)
  refine unpB 25 7 h rfl rfl (by decide) rfl (by decide) (by decide) rfl rfl fun w1 h => WN.seq (WC.seq ?_)
  refine unpD 64 12 h (by decide) rfl rfl rfl rfl fun w1 h => WN.seq (WC.seq ?_)
  refine unpC 12 (by kernel_rfl) h rfl rfl rfl (by decide) (by decide) (by decide) (by decide) (by decide) rfl rfl fun w1 h => WN.seq (WC.seq ?_)
  refine unpA 12 h rfl rfl rfl (by decide) (by decide) (by decide) (by decide) rfl rfl fun w1 h => WN.seq (WC.seq ?_)
  refine unpB 31 1 h rfl rfl (by decide) rfl (by decide) (by decide) rfl rfl fun w1 h => WN.seq (WC.seq ?_)
  refine unpD 96 16 h (by decide) rfl rfl rfl rfl fun w1 h => WN.seq (WC.seq ?_)
  refine unpC 18 (by kernel_rfl) h rfl rfl rfl (by decide) (by decide) (by decide) (by decide) (by decide) rfl rfl fun w1 h => WN.seq (WC.seq ?_)
  refine unpB 18 14 h rfl rfl (by decide) rfl (by decide) (by decide) rfl rfl fun w1 h => WN.seq (WC.seq ?_)
  refine unpD 128 20 h (by decide) rfl rfl rfl rfl fun w1 h => WN.seq (WC.seq ?_)
  refine unpC 5 (by kernel_rfl) h rfl rfl rfl (by decide) (by decide) (by decide) (by decide) (by decide) rfl rfl fun w1 h => WN.seq (WC.seq ?_)
  refine unpA 5 h rfl rfl rfl (by decide) (by decide) (by decide) (by decide) rfl rfl fun w1 h => WN.seq (WC.seq ?_)
  refine unpB 24 8 h rfl rfl (by decide) rfl (by decide) (by decide) rfl rfl fun w1 h => WN.seq (WC.seq ?_)
  refine unpD 160 24 h (by decide) rfl rfl rfl rfl fun w1 h => WN.seq (WC.seq ?_)
  refine unpC 11 (by kernel_rfl) h rfl rfl rfl (by decide) (by decide) (by decide) (by decide) (by decide) rfl rfl fun w1 h => WN.seq (WC.seq ?_)
  refine unpA 11 h rfl rfl rfl (by decide) (by decide) (by decide) (by decide) rfl rfl fun w1 h => WN.seq (WC.seq ?_)
  refine unpB 30 2 h rfl rfl (by decide) rfl (by decide) (by decide) rfl rfl fun w1 h => WN.seq (WC.seq ?_)
  refine unpD 192 28 h (by decide) rfl rfl rfl rfl fun w1 h => WN.seq (WC.seq ?_)
  refine unpC 17 (by kernel_rfl) h rfl rfl rfl (by decide) (by decide) (by decide) (by decide) (by decide) rfl rfl fun w1 h => WN.seq (WC.seq ?_)
  refine unpB 17 15 h rfl rfl (by decide) rfl (by decide) (by decide) rfl rfl fun w1 h => WN.seq (WC.seq ?_)
  refine unpD 224 32 h (by decide) rfl rfl rfl rfl fun w1 h => WN.seq (WC.seq ?_)
  refine unpC 4 (by kernel_rfl) h rfl rfl rfl (by decide) (by decide) (by decide) (by decide) (by decide) rfl rfl fun w1 h => WN.seq (WC.seq ?_)
  refine unpA 4 h rfl rfl rfl (by decide) (by decide) (by decide) (by decide) rfl rfl fun w1 h => WN.seq (WC.seq ?_)
  refine unpB 23 9 h rfl rfl (by decide) rfl (by decide) (by decide) rfl rfl fun w1 h => WN.seq (WC.seq ?_)
  refine unpD 256 36 h (by decide) rfl rfl rfl rfl fun w1 h => WN.seq (WC.seq ?_)
  refine unpC 10 (by kernel_rfl) h rfl rfl rfl (by decide) (by decide) (by decide) (by decide) (by decide) rfl rfl fun w1 h => WN.seq (WC.seq ?_)
  refine unpA 10 h rfl rfl rfl (by decide) (by decide) (by decide) (by decide) rfl rfl fun w1 h => WN.seq (WC.seq ?_)
  refine unpB 29 3 h rfl rfl (by decide) rfl (by decide) (by decide) rfl rfl fun w1 h => WN.seq (WC.seq ?_)
  refine unpD 288 40 h (by decide) rfl rfl rfl rfl fun w1 h => WN.seq (WC.seq ?_)
  refine unpC 16 (by kernel_rfl) h rfl rfl rfl (by decide) (by decide) (by decide) (by decide) (by decide) rfl rfl fun w1 h => WN.seq (WC.seq ?_)
  refine unpB 16 16 h rfl rfl (by decide) rfl (by decide) (by decide) rfl rfl fun w1 h => WN.seq (WC.seq ?_)
  refine unpD 320 44 h (by decide) rfl rfl rfl rfl fun w1 h => WN.seq (WC.seq ?_)
  refine unpC 3 (by kernel_rfl) h rfl rfl rfl (by decide) (by decide) (by decide) (by decide) (by decide) rfl rfl fun w1 h => WN.seq (WC.seq ?_)
  refine unpA 3 h rfl rfl rfl (by decide) (by decide) (by decide) (by decide) rfl rfl fun w1 h => WN.seq (WC.seq ?_)
  refine unpB 22 10 h rfl rfl (by decide) rfl (by decide) (by decide) rfl rfl fun w1 h => WN.seq (WC.seq ?_)
  refine unpD 352 48 h (by decide) rfl rfl rfl rfl fun w1 h => WN.seq (WC.seq ?_)
  refine unpC 9 (by kernel_rfl) h rfl rfl rfl (by decide) (by decide) (by decide) (by decide) (by decide) rfl rfl fun w1 h => WN.seq (WC.seq ?_)
  refine unpA 9 h rfl rfl rfl (by decide) (by decide) (by decide) (by decide) rfl rfl fun w1 h => WN.seq (WC.seq ?_)
  refine unpB 28 4 h rfl rfl (by decide) rfl (by decide) (by decide) rfl rfl fun w1 h => WN.seq (WC.seq ?_)
  refine unpD 384 52 h (by decide) rfl rfl rfl rfl fun w1 h => WN.seq (WC.seq ?_)
  refine unpC 15 (by kernel_rfl) h rfl rfl rfl (by decide) (by decide) (by decide) (by decide) (by decide) rfl rfl fun w1 h => WN.seq (WC.seq ?_)
  refine unpB 15 17 h rfl rfl (by decide) rfl (by decide) (by decide) rfl rfl fun w1 h => WN.seq (WC.seq ?_)
  refine unpD 416 56 h (by decide) rfl rfl rfl rfl fun w1 h => WN.seq (WC.seq ?_)
  refine unpC 2 (by kernel_rfl) h rfl rfl rfl (by decide) (by decide) (by decide) (by decide) (by decide) rfl rfl fun w1 h => WN.seq (WC.seq ?_)
  refine unpA 2 h rfl rfl rfl (by decide) (by decide) (by decide) (by decide) rfl rfl fun w1 h => WN.seq (WC.seq ?_)
  refine unpB 21 11 h rfl rfl (by decide) rfl (by decide) (by decide) rfl rfl fun w1 h => WN.seq (WC.seq ?_)
  refine unpD 448 60 h (by decide) rfl rfl rfl rfl fun w1 h => WN.seq (WC.seq ?_)
  refine unpC 8 (by kernel_rfl) h rfl rfl rfl (by decide) (by decide) (by decide) (by decide) (by decide) rfl rfl fun w1 h => WN.seq (WC.seq ?_)
  refine unpA 8 h rfl rfl rfl (by decide) (by decide) (by decide) (by decide) rfl rfl fun w1 h => WN.seq (WC.seq ?_)
  refine unpB 27 5 h rfl rfl (by decide) rfl (by decide) (by decide) rfl rfl fun w1 h => WN.seq (WC.seq ?_)
  refine unpD 480 64 h (by decide) rfl rfl rfl rfl fun w1 h => WN.seq (WC.seq ?_)
  refine unpC 14 (by kernel_rfl) h rfl rfl rfl (by decide) (by decide) (by decide) (by decide) (by decide) rfl rfl fun w1 h => WN.seq (WC.seq ?_)
  refine unpB 14 18 h rfl rfl (by decide) rfl (by decide) (by decide) rfl rfl fun w1 h => WN.seq (WC.seq ?_)
  refine unpD 512 68 h (by decide) rfl rfl rfl rfl fun w1 h => WN.seq (WC.seq ?_)
  refine unpC 1 (by kernel_rfl) h rfl rfl rfl (by decide) (by decide) (by decide) (by decide) (by decide) rfl rfl fun w1 h => WN.seq (WC.seq ?_)
  refine unpA 1 h rfl rfl rfl (by decide) (by decide) (by decide) (by decide) rfl rfl fun w1 h => WN.seq (WC.seq ?_)
  refine unpB 20 12 h rfl rfl (by decide) rfl (by decide) (by decide) rfl rfl fun w1 h => WN.seq (WC.seq ?_)
  refine unpD 544 72 h (by decide) rfl rfl rfl rfl fun w1 h => WN.seq (WC.seq ?_)
  refine unpC 7 (by kernel_rfl) h rfl rfl rfl (by decide) (by decide) (by decide) (by decide) (by decide) rfl rfl fun w1 h => WN.seq (WC.seq ?_)
  refine unpA 7 h rfl rfl rfl (by decide) (by decide) (by decide) (by decide) rfl rfl fun w1 h => WN.seq (WC.seq ?_)
  refine unpB 26 6 h rfl rfl (by decide) rfl (by decide) (by decide) rfl rfl fun w1 h => WN.seq (WC.seq ?_)
  refine unpD 576 76 h (by decide) rfl rfl rfl rfl fun w1 h => WN.seq (WC.seq ?_)
  refine unpC 13 (by kernel_rfl) h rfl rfl rfl (by decide) (by decide) (by decide) (by decide) (by decide) rfl rfl ?_
  intro w1 h
  refine WN.seq ?_
  refine unpB 13 19 h rfl rfl (by decide) rfl (by decide) (by decide) rfl rfl ?_
  intro w1 h
  replace h := h.next (by decide)
  refine WN.endR rfl rfl ?_
  exact h.done

theorem unpk20 (p : UP) {w : World} (h : UIn p 20 w) :
    Ret Tryz.prog 103 #[.iface 120 (.pointer (some ⟨p.rb, p.rb.off, none⟩)), .slice (some ⟨p.g, p.o, none⟩) p.dl p.dc] w (unpR p 20 w) := by
  refine Ret.enter (vs := [.iface 120 (.pointer (some ⟨p.rb, p.rb.off, none⟩)), .slice (some ⟨p.g, p.o, none⟩) p.dl p.dc]) Tryz.func103 Tryz.ntmps103 rfl rfl ?_
  refine WC.seq (WC.region ?_)
  refine WR.alloc zvU rfl rfl ?_
  intro w1 hn _
  refine WR.nil ?_
  replace h := US.start h hn
  refine WN.weak (L3 p w.heap.size) ⟨rfl, rfl, rfl, trivial⟩ ?_
  clear hn
  revert h; generalize w.heap.size = b; intro h
  refine WN.seq (WC.seq ?_)
  refine unpD 0 4 h (by decide) rfl rfl rfl rfl fun w1 h => WN.seq (WC.seq ?_)
  refine unpA 0 h rfl rfl rfl (by decide) (by decide) (by decide) (by decide) rfl rfl fun w1 h => WN.seq (WC.seq ?_)
  refine unpB 20 12 h rfl rfl (by decide) rfl (by decide) (by decide) rfl rfl fun w1 h => WN.seq (WC.seq ?_)
  refine unpD 32 8 h (by decide) rfl rfl rfl rfl fun w1 h => WN.seq (WC.seq ?_)
  refine unpC 8 (by kernel_rfl) h rfl rfl rfl (by decide) (by decide) (by decide) (by decide) (by decide) rfl rfl fun w1 h => WN.seq (WC.seq ?_)
  refine unpA 8 h rfl rfl rfl (by decide) (by decide) (by decide) (by decide) rfl rfl fun w1 h => WN.seq (WC.seq ?_)
  refine unpB 28 4 h rfl rfl (by decide) rfl (by decide) (by decide) rfl rfl fun w1 h => WN.seq (WC.seq ?_)
  refine unpD 64 12 h (by decide) rfl rfl rfl rfl fun w1 h => WN.seq (WC.seq ?_)
  refine unpC 16 (by kernel_rfl) h rfl rfl rfl (by decide) (by decide) (by decide) (by decide) (by decide) rfl rfl fun w1 h => WN.seq (WC.seq ?_)
  refine unpB 16 16 h rfl rfl (by decide) rfl (by decide) (by decide) rfl rfl fun w1 h => WN.seq (WC.seq ?_)
  refine unpD 96 16 h (by decide) rfl rfl rfl rfl fun w1 h => WN.seq (WC.seq ?_)
  refine unpC 4 (by kernel_rfl) h rfl rfl rfl (by decide) (by decide) (by decide) (by decide) (by decide) rfl rfl fun w1 h => WN.seq (WC.seq ?_)
  refine unpA 4 h rfl rfl rfl (by decide) (by decide) (by decide) (by decide) rfl rfl fun w1 h => WN.seq (WC.seq ?_)
  refine unpB 24 8 h rfl rfl (by decide) rfl (by decide) (by decide) rfl rfl fun w1 h => WN.seq (WC.seq ?_)
  refine unpD 128 20 h (by decide) rfl rfl rfl rfl fun w1 h => WN.seq (WC.seq ?_)
  refine unpC 12 (by kernel_rfl) h rfl rfl rfl (by decide) (by decide) (by decide) (by decide) (by decide) rfl rfl fun w1 h => WN.seq (WC.seq ?_)
  refine unpB 12 20 h rfl rfl (by decide) rfl (by decide) (by decide) rfl rfl ?_
  intro w1 h
  replace h := h.next (by decide)
  refine WN.seq (WC.seq ?_)
  refine unpD 160 24 h (by decide) rfl rfl rfl rfl fun w1 h => WN.seq (WC.seq ?_)
  refine unpA 0 h rfl rfl rfl (by decide) (by decide) (by decide) (by decide) rfl rfl fun w1 h => WN.seq (WC.seq ?_)
  refine unpB 20 12 h rfl rfl (by decide) rfl (by decide) (by decide) rfl rfl fun w1 h => WN.seq (WC.seq ?_)
  refine unpD 192 28 h (by decide) rfl rfl rfl rfl fun w1 h => WN.seq (WC.seq ?_)
  refine unpC 8 (by kernel_rfl) h rfl rfl rfl (by decide) (by decide) (by decide) (by decide) (by decide) rfl rfl fun w1 h => WN.seq (WC.seq ?_)
  refine unpA 8 h rfl rfl rfl (by decide) (by decide) (by decide) (by decide) rfl rfl fun w1 h => WN.seq (WC.seq ?_)
  refine unpB 28 4 h rfl rfl (by decide) rfl (by decide) (by decide) rfl rfl fun w1 h => WN.seq (WC.seq ?_)
  refine unpD 224 32 h (by decide) rfl rfl rfl rfl fun w1 h => WN.seq (WC.seq ?_)
  refine unpC 16 (by kernel_rfl) h rfl rfl rfl (by decide) (by decide) (by decide) (by decide) (by decide) rfl rfl fun w1 h => WN.seq (WC.seq ?_)
  refine unpB 16 16 h rfl rfl (by decide) rfl (by decide) (by decide) rfl rfl fun w1 h => WN.seq (WC.seq ?_)
  refine unpD 256 36 h (by decide) rfl rfl rfl rfl fun w1 h => WN.seq (WC.seq ?_)
  refine unpC 4 (by kernel_rfl) h rfl rfl rfl (by decide) (by decide) (by decide) (by decide) (by decide) rfl rfl fun w1 h => WN.seq (WC.seq ?_)
  refine unpA 4 h rfl rfl rfl (by decide) (by decide) (by decide) (by decide) rfl rfl fun w1 h => WN.seq (WC.seq ?_)
  refine unpB 24 8 h rfl rfl (by decide) rfl (by decide) (by decide) rfl rfl fun w1 h => WN.seq (WC.seq ?_)
  refine unpD 288 40 h (by decide) rfl rfl rfl rfl fun w1 h => WN.seq (WC.seq ?_)
  refine unpC 12 (by kernel_rfl) h rfl rfl rfl (by decide) (by decide) (by decide) (by decide) (by decide) rfl rfl fun w1 h => WN.seq (WC.seq ?_)
  refine unpB 12 20 h rfl rfl (by decide) rfl (by decide) (by decide) rfl rfl ?_
  intro w1 h
  replace h := h.next (by decide)
  refine WN.seq (WC.seq ?_)
  refine unpD 320 44 h (by decide) rfl rfl rfl rfl fun w1 h => WN.seq (WC.seq ?_)
  refine unpA 0 h rfl rfl rfl (by decide) (by decide) (by decide) (by decide) rfl rfl fun w1 h => WN.seq (WC.seq ?_)
  refine unpB 20 12 h rfl rfl (by decide) rfl (by decide) (by decide) rfl rfl fun w1 h => WN.seq (WC.seq ?_)
  refine unpD 352 48 h (by decide) rfl rfl rfl rfl fun w1 h => WN.seq (WC.seq ?_)
  refine unpC 8 (by kernel_rfl) h rfl rfl rfl (by decide) (by decide) (by decide) (by decide) (by decide) rfl rfl fun w1 h => WN.seq (WC.seq ?_)
  refine unpA 8 h rfl rfl rfl (by decide) (by decide) (by decide) (by decide) rfl rfl fun w1 h => WN.seq (WC.seq ?_)
  refine unpB 28 4 h rfl rfl (by decide) rfl (by decide) (by decide) rfl rfl fun w1 h => WN.seq (WC.seq ?_)
  refine unpD 384 52 h (by decide) rfl rfl rfl rfl fun w1 h => WN.seq (WC.seq ?_)
  refine unpC 16 (by kernel_rfl) h rfl rfl rfl (by decide) (by decide) (by decide) (by decide) (by decide) rfl rfl fun w1 h => WN.seq (WC.seq ?_)
  refine unpB 16 16 h rfl rfl (by decide) rfl (by decide) (by decide) rfl rfl fun w1 h => WN.seq (WC.seq ?_)
  refine unpD 416 56 h (by decide) rfl rfl rfl rfl fun w1 h => WN.seq (WC.seq ?_)
  refine unpC 4 (by kernel_rfl) h rfl rfl rfl (by decide) (by decide) (by decide) (by decide) (by decide) rfl rfl fun w1 h => WN.seq (WC.seq ?_)
  refine unpA 4 h rfl rfl rfl (by decide) (by decide) (by decide) (by decide) rfl rfl fun w1 h => WN.seq (WC.seq ?_)
  refine unpB 24 8 h rfl rfl (by decide) rfl (by decide) (by decide) rfl rfl fun w1 h => WN.seq (WC.seq ?_)
  refine unpD 448 60 h (by decide) rfl rfl rfl rfl fun w1 h => WN.seq (WC.seq ?_)
  refine unpC 12 (by kernel_rfl) h rfl rfl rfl (by decide) (by decide) (by decide) (by decide) (by decide) rfl rfl fun w1 h => WN.seq (WC.seq ?_)
  refine unpB 12 20 h rfl rfl (by decide) rfl (by decide) (by decide) rfl rfl ?_
  intro w1 h
  replace h := h.next (by decide)
  refine WN.seq (WC.seq ?_)
  refine unpD 480 64 h (by decide) rfl rfl rfl rfl fun w1 h => WN.seq (WC.seq ?_)
  refine unpA 0 h rfl rfl rfl (by decide) (by decide) (by decide) (by decide) rfl rfl fun w1 h => WN.seq (WC.seq ?_)
  refine unpB 20 12 h rfl rfl (by decide) rfl (by decide) (by decide) rfl rfl fun w1 h => WN.seq (WC.seq ?_)
  refine unpD 512 68 h (by decide) rfl rfl rfl rfl fun w1 h => WN.seq (WC.seq ?_)
  refine unpC 8 (by kernel_rfl) h rfl rfl rfl (by decide) (by decide) (by decide) (by decide) (by decide) rfl rfl fun w1 h => WN.seq (WC.seq ?_)
  refine unpA 8 h rfl rfl rfl (by decide) (by decide) (by decide) (by decide) rfl rfl fun w1 h => WN.seq (WC.seq ?_)
  refine unpB 28 4 h rfl rfl (by decide) rfl (by decide) (by decide) rfl rfl fun w1 h => WN.seq (WC.seq ?_)
  refine unpD 544 72 h (by decide) rfl rfl rfl rfl fun w1 h => WN.seq (WC.seq ?_)
  refine unpC 16 (by kernel_rfl) h rfl rfl rfl (by decide) (by decide) (by decide) (by decide) (by decide) rfl rfl fun w1 h => WN.seq (WC.seq ?_)
  refine unpB 16 16 h rfl rfl (by decide) rfl (by decide) (by decide) rfl rfl fun w1 h => WN.seq (WC.seq ?_)
  refine unpD 576 76 h (by decide) rfl rfl rfl rfl fun w1 h => WN.seq (WC.seq ?_)
  refine unpC 4 (by kernel_rfl) h rfl rfl rfl (by decide) (by decide) (by decide) (by decide) (by decide) rfl rfl fun w1 h => WN.seq (WC.seq ?_)
  refine unpA 4 h rfl rfl rfl (by decide) (by decide) (by decide) (by decide) rfl rfl fun w1 h => WN.seq (WC.seq ?_)
  refine unpB 24 8 h rfl rfl (by decide) rfl (by decide) (by decide) rfl rfl fun w1 h => WN.seq (WC.seq ?_)
  refine unpD 608 80 h (by decide) rfl rfl rfl rfl fun w1 h => WN.seq (WC.seq ?_)
  refine unpC 12 (by kernel_rfl) h rfl rfl rfl (by decide) (by decide) (by decide) (by decide) (by decide) rfl rfl ?_
  intro w1 h
  refine WN.seq ?_
  refine unpB 12 20 h rfl rfl (by decide) rfl (by decide) (by decide) rfl rfl ?_
  intro w1 h
  replace h := h.next (by decide)
  refine WN.endR rfl rfl ?_
  exact h.done

theorem unpk21 (p : UP) {w : World} (h : UIn p 21 w) :
    Ret Tryz.prog 104 #[.iface 120 (.pointer (some ⟨p.rb, p.rb.off, none⟩)), .slice (some ⟨p.g, p.o, none⟩) p.dl p.dc] w (unpR p 21 w) := by
  refine Ret.enter (vs := [.iface 120 (.pointer (some ⟨p.rb, p.rb.off, none⟩)), .slice (some ⟨p.g, p.o, none⟩) p.dl p.dc]) Tryz.func104 Tryz.ntmps104 rfl rfl ?_
  refine WC.seq (WC.region ?_)
  refine WR.alloc zvU rfl rfl ?_
  intro w1 hn _
  refine WR.nil ?_
  replace h := US.start h hn
  refine WN.weak (L3 p w.heap.size) ⟨rfl, rfl, rfl, trivial⟩ ?_
  clear hn
  revert h; generalize w.heap.size = b; intro h
  refine WN.seq (WC.seq ?_)
  refine unpD 0 4 h (by decide) rfl rfl rfl rfl fun w1 h => WN.seq (WC.seq ?_)
  refine unpA 0 h rfl rfl rfl (by decide) (by decide) (by decide) (by decide) rfl rfl fun w1 h => WN.seq (WC.seq ?_)
  refine unpB 21 11 h rfl rfl (by decide) rfl (by decide) (by decide) rfl rfl fun w1 h => WN.seq (WC.seq ?_)
  refine unpD 32 8 h (by decide) rfl rfl rfl rfl fun w1 h => WN.seq (WC.seq ?_)
  refine unpC 10 (by kernel_rfl) h rfl rfl rfl (by decide) (by decide) (by decide) (by decide) (by decide) rfl rfl fun w1 h => WN.seq (WC.seq ?_)
  refine unpA 10 h rfl rfl rfl (by decide) (by decide) (by decide) (by decide) rfl rfl fun w1 h => WN.seq (WC.seq ?_)
  refine unpB 31 1 h rfl rfl (by decide) rfl (by decide) (by decide) rfl rfl fun w1 h => WN.seq (WC.seq ?_)
  refine unpD 64 12 h (by decide) rfl rfl rfl rfl fun w1 h => WN.seq (WC.seq ?_)
  refine unpC 20 (by kernel_rfl) h rfl rfl rfl (by decide) (by decide) (by decide) (by decide) (by decide) rfl rfl fun w1 h => WN.seq (WC.seq ?_)
  refine unpB 20 12 h rfl rfl (by decide) rfl (by decide) (by decide) rfl rfl fun w1 h => WN.seq (WC.seq ?_)
  refine unpD 96 16 h (by decide) rfl rfl rfl rfl fun w1 h => WN.seq (WC.seq ?_)
  refine unpC 9 (by kernel_rfl) h rfl rfl rfl (by decide) (by decide) (by decide) (by decide) (by decide) rfl rfl fun w1 h => WN.seq (WC.seq ?_)
  refine unpA 9 h rfl rfl rfl (by decide) (by decide) (by decide) (by decide) rfl rfl fun w1 h => WN.seq (WC.seq ?_)
  refine unpB 30 2 h rfl rfl (by decide) rfl (by decide) (by decide) rfl rfl fun w1 h => WN.seq (WC.seq ?_)
  refine unpD 128 20 h (by decide) rfl rfl rfl rfl fun w1 h => WN.seq (WC.seq ?_)
  refine unpC 19 (by kernel_rfl) h rfl rfl rfl (by decide) (by decide) (by decide) (by decide) (by decide) rfl rfl fun w1 h => WN.seq (WC.seq ?_)
  refine unpB 19 13 h rfl rfl (by decide) rfl (by decide) (by decide) rfl rfl fun w1 h => WN.seq (WC.seq ?_)
  refine unpD 160 24 h (by decide) rfl rfl rfl rfl fun w1 h => WN.seq (WC.seq ?_)
  refine unpC 8 (by kernel_rfl) h rfl rfl rfl (by decide) (by decide) (by decide) (by decide) (by decide) rfl rfl fun w1 h => WN.seq (WC.seq ?_)
  refine unpA 8 h rfl rfl rfl (by decide) (by decide) (by decide) (by decide) rfl rfl fun w1 h => WN.seq (WC.seq ?_)
  refine unpB 29 3 h rfl rfl (by decide) rfl (by decide) (by decide) rfl rfl fun w1 h => WN.seq (WC.seq ?_)
  refine unpD 192 28 h (by decide) rfl rfl rfl rfl fun w1 h => WN.seq (WC.seq ?_)
  refine unpC 18 (by kernel_rfl) h rfl rfl rfl (by decide) (by decide) (by decide) (by decide) (by decide) rfl rfl fun w1 h => WN.seq (WC.seq ?_)
  refine unpB 18 14 h rfl rfl (by decide) rfl (by decide) (by decide) rfl rfl fun w1 h => WN.seq (WC.seq ?_)
  refine unpD 224 32 h (by decide) rfl rfl rfl rfl fun w1 h => WN.seq (WC.seq ?_)
  refine unpC 7 (by kernel_rfl) h rfl rfl rfl (by decide) (by decide) (by decide) (by decide) (by decide) rfl rfl fun w1 h => WN.seq (WC.seq ?_)
  refine unpA 7 h rfl rfl rfl (by decide) (by decide) (by decide) (by decide) rfl rfl fun w1 h => WN.seq (WC.seq ?_)
  refine unpB 28 4 h rfl rfl (by decide) rfl (by decide) (by decide) rfl rfl fun w1 h => WN.seq (WC.seq ?_)
  refine unpD 256 36 h (by decide) rfl rfl rfl rfl fun w1 h => WN.seq (WC.seq ?_)
  refine unpC 17 (by kernel_rfl) h rfl rfl rfl (by decide) (by decide) (by decide) (by decide) (by decide) rfl rfl fun w1 h => WN.seq (WC.seq ?_)
  refine unpB 17 15 h rfl rfl (by decide) rfl (by decide) (by decide) rfl rfl fun w1 h => WN.seq (WC.seq ?_)
  refine unpD 288 40 h (by decide) rfl rfl rfl rfl fun w1 h => WN.seq (WC.seq ?_)
  refine unpC 6 (by kernel_rfl) h rfl rfl rfl (by decide) (by decide) (by decide) (by decide) (by decide) rfl rfl fun w1 h => WN.seq (WC.seq ?_)
  refine unpA 6 h rfl rfl rfl (by decide) (by decide) (by decide) (by decide) rfl rfl fun w1 h => WN.seq (WC.seq ?_)
  refine unpB 27 5 h rfl rfl (by decide) rfl (by decide) (by decide) rfl rfl fun w1 h => WN.seq (WC.seq ?_)
  refine unpD 320 44 h (by decide) rfl rfl rfl rfl fun w1 h => WN.seq (WC.seq ?_)
  refine unpC 16 (by kernel_rfl) h rfl rfl rfl (by decide) (by decide) (by decide) (by decide) (by decide) rfl rfl fun w1 h => WN.seq (WC.seq ?_)
  refine unpB 16 16 h rfl rfl (by decide) rfl (by decide) (by decide) rfl rfl fun w1 h => WN.seq (WC.seq ?_)
  refine unpD 352 48 h (by decide) rfl rfl rfl rfl fun w1 h => WN.seq (WC.seq ?_)
  refine unpC 5 (by kernel_rfl) h rfl rfl rfl (by decide) (by decide) (by decide) (by decide) (by decide) rfl rfl fun w1 h => WN.seq (WC.seq ?_)
  refine unpA 5 h rfl rfl rfl (by decide) (by decide) (by decide) (by decide) rfl rfl fun w1 h => WN.seq (WC.seq ?_)
  refine unpB 26 6 h rfl rfl (by decide) rfl (by decide) (by decide) rfl rfl fun w1 h => WN.seq (WC.seq ?_)
  refine unpD 384 52 h (by decide) rfl rfl rfl rfl fun w1 h => WN.seq (WC.seq ?_)
  refine unpC 15 (by kernel_rfl) h rfl rfl rfl (by decide) (by decide) (by decide) (by decide) (by decide) rfl rfl fun w1 h => WN.seq (WC.seq ?_)
  refine unpB 15 17 h rfl rfl (by decide) rfl (by decide) (by decide) rfl rfl fun w1 h => WN.seq (WC.seq ?_)
  refine unpD 416 56 h (by decide) rfl rfl rfl rfl fun w1 h => WN.seq (WC.seq ?_)
  refine unpC 4 (by kernel_rfl) h rfl rfl rfl (by decide) (by decide) (by decide) (by decide) (by decide) rfl rfl fun w1 h => WN.seq (WC.seq ?_)
  refine unpA 4 h rfl rfl rfl (by decide) (by decide) (by decide) (by decide) rfl rfl fun w1 h => WN.seq (WC.seq ?_)
  refine unpB 25 7 h rfl rfl (by decide) rfl (by decide) (by decide) rfl rfl fun w1 h => WN.seq (WC.seq ?_)
  refine unpD 448 60 h (by decide) rfl rfl rfl rfl fun w1 h => WN.seq (WC.seq ?_)
  refine unpC 14 (by kernel_rfl) h rfl rfl rfl (by decide) (by decide) (by decide) (by decide) (by decide) rfl rfl fun w1 h => WN.seq (WC.seq ?_)
  refine unpB 14 18 h rfl rfl (by decide) rfl (by decide) (by decide) rfl rfl fun w1 h => WN.seq (WC.seq ?_)
  refine unpD 480 64 h (by decide) rfl rfl rfl rfl fun w1 h => WN.seq (WC.seq ?_)
  refine unpC 3 (by kernel_rfl) h rfl rfl rfl (by decide) (by decide) (by decide) (by decide) (by decide) rfl rfl fun w1 h => WN.seq (WC.seq ?_)
  refine unpA 3 h rfl rfl rfl (by decide) (by decide) (by decide) (by decide) rfl rfl fun w1 h => WN.seq (WC.seq ?_)
  refine unpB 24 8 h rfl rfl (by decide) rfl (by decide) (by decide) rfl rfl fun w1 h => WN.seq (WC.seq ?_)
  refine unpD 512 68 h (by decide) rfl rfl rfl rfl fun w1 h => WN.seq (WC.seq ?_)
  refine unpC 13 (by kernel_rfl) h rfl rfl rfl (by decide) (by decide) (by decide) (by decide) (by decide) rfl rfl fun w1 h => WN.seq (WC.seq ?_)
  refine unpB 13 19 h rfl rfl (by decide) rfl (by decide) (by decide) rfl rfl fun w1 h => WN.seq (WC.seq ?_)
  refine unpD 544 72 h (by decide) rfl rfl rfl rfl fun w1 h => WN.seq (WC.seq ?_)
  refine unpC 2 (by kernel_rfl) h rfl rfl rfl (by decide) (by decide) (by decide) (by decide) (by decide) rfl rfl fun w1 h => WN.seq (WC.seq ?_)
  refine unpA 2 h rfl rfl rfl (by decide) (by decide) (by decide) (by decide) rfl rfl fun w1 h => WN.seq (WC.seq ?_)
  refine unpB 23 9 h rfl rfl (by decide) rfl (by decide) (by decide) rfl rfl fun w1 h => WN.seq (WC.seq ?_)
  refine unpD 576 76 h (by decide) rfl rfl rfl rfl fun w1 h => WN.seq (WC.seq ?_)
  refine unpC 12 (by kernel_rfl) h rfl rfl rfl (by decide) (by decide) (by decide) (by decide) (by decide) rfl rfl fun w1 h => WN.seq (WC.seq ?_)
  refine unpB 12 20 h rfl rfl (by decide) rfl (by decide) (by decide) rfl rfl fun w1 h => WN.seq (WC.seq ?_)
  refine unpD 608 80 h (by decide) rfl rfl rfl rfl fun w1 h => WN.seq (WC.seq ?_)
  refine unpC 1 (by kernel_rfl) h rfl rfl rfl (by decide) (by decide) (by decide) (by decide) (by decide) rfl rfl fun w1 h => WN.seq (WC.seq ?_)
  refine unpA 1 h rfl rfl rfl (by decide) (by decide) (by decide) (by decide) rfl rfl fun w1 h => WN.seq (WC.seq ?_)
  refine unpB 22 10 h rfl rfl (by decide) rfl (by decide) (by decide) rfl rfl fun w1 h => WN.seq (WC.seq ?_)
  refine unpD 640 84 h (by decide) rfl rfl rfl rfl fun w1 h => WN.seq (WC.seq ?_)
  refine unpC 11 (by kernel_rfl) h rfl rfl rfl (by decide) (by decide) (by decide) (by decide) (by decide) rfl rfl ?_
  intro w1 h
  refine WN.seq ?_
  refine unpB 11 21 h rfl rfl (by decide) rfl (by decide) (by decide) rfl rfl ?_
  intro w1 h
  replace h := h.next (by decide)
  refine WN.endR rfl rfl ?_
  exact h.done

theorem unpk22 (p : UP) {w : World} (h : UIn p 22 w) :
    Ret Tryz.prog 105 #[.iface 120 (.pointer (some ⟨p.rb, p.rb.off, none⟩)), .slice (some ⟨p.g, p.o, none⟩) p.dl p.dc] w (unpR p 22 w) := by
  refine Ret.enter (vs := [.iface 120 (.pointer (some ⟨p.rb, p.rb.off, none⟩)), .slice (some ⟨p.g, p.o, none⟩) p.dl p.dc]) Tryz.func105 Tryz.ntmps105 rfl rfl ?_
  refine WC.seq (WC.region ?_)
  refine WR.alloc zvU rfl rfl ?_
  intro w1 hn _
  refine WR.nil ?_
  replace h := US.start h hn
  refine WN.weak (L3 p w.heap.size) ⟨rfl, rfl, rfl, trivial⟩ ?_
  clear hn
  revert h; generalize w.heap.size = b; intro h
  refine WN.seq (WC.seq ?_)
  refine unpD 0 4 h (by decide) rfl rfl rfl rfl fun w1 h => WN.seq (WC.seq ?_)
  refine unpA 0 h rfl rfl rfl (by decide) (by decide) (by decide) (by decide) rfl rfl fun w1 h => WN.seq (WC.seq ?_)
  refine unpB 22 10 h rfl rfl (by decide) rfl (by decide) (by decide) rfl rfl fun w1 h => WN.seq (WC.seq ?_)
  refine unpD 32 8 h (by decide) rfl rfl rfl rfl fun w1 h => WN.seq (WC.seq ?_)
  refine unpC 12 (by kernel_rfl) h rfl rfl rfl (by decide) (by decide) (by decide) (by decide) (by decide) rfl rfl fun w1 h => WN.seq (WC.seq ?_)
  refine unpB 12 20 h rfl rfl (by decide) rfl (by decide) (by decide) rfl rfl fun w1 h => WN.seq (WC.seq ?_)
  refine unpD 64 12 h (by decide) rfl rfl rfl rfl fun w1 h => WN.seq (WC.seq ?_)
  refine unpC 2 (by kernel_rfl) h rfl rfl rfl (by decide) (by decide) (by decide) (by decide) (by decide) rfl rfl fun w1 h => WN.seq (WC.seq ?_)
  refine unpA 2 h rfl rfl rfl (by decide) (by decide) (by decide) (by decide) rfl rfl fun w1 h => WN.seq (WC.seq ?_)
  refine unpB 24 8 h rfl rfl (by decide) rfl (by decide) (by decide) rfl rfl fun w1 h => WN.seq (WC.seq ?_)
  refine unpD 96 16 h (by decide) rfl rfl rfl rfl fun w1 h => WN.seq (WC.seq ?_)
  refine unpC 14 (by kernel_rfl) h rfl rfl rfl (by decide) (by decide) (by decide) (by decide) (by decide) rfl rfl fun w1 h => WN.seq (WC.seq ?_)
  refine unpB 14 18 h rfl rfl (by decide) rfl (by decide) (by decide) rfl rfl fun w1 h => WN.seq (WC.seq ?_)
  refine unpD 128 20 h (by decide) rfl rfl rfl rfl fun w1 h => WN.seq (WC.seq ?_)
  refine unpC 4 (by kernel_rfl) h rfl rfl rfl (by decide) (by decide) (by decide) (by decide) (by decide) rfl rfl fun w1 h => WN.seq (WC.seq ?_)
  refine unpA 4 h rfl rfl rfl (by decide) (by decide) (by decide) (by decide) rfl rfl fun w1 h => WN.seq (WC.seq ?_)
  refine unpB 26 6 h rfl rfl (by decide) rfl (by decide) (by decide) rfl rfl fun w1 h => WN.seq (WC.seq ?_)
  refine unpD 160 24 h (by decide) rfl rfl rfl rfl fun w1 h => WN.seq (WC.seq ?_)
  refine unpC 16 (by kernel_rfl) h rfl rfl rfl (by decide) (by decide) (by decide) (by decide) (by decide) rfl rfl fun w1 h => WN.seq (WC.seq ?_)
  refine unpB 16 16 h rfl rfl (by decide) rfl (by decide) (by decide) rfl rfl fun w1 h => WN.seq (WC.seq ?_)
  refine unpD 192 28 h (by decide) rfl rfl rfl rfl fun w1 h => WN.seq (WC.seq ?_)
  refine unpC 6 (by kernel_rfl) h rfl rfl rfl (by decide) (by decide) (by decide) (by decide) (by decide) rfl rfl fun w1 h => WN.seq (WC.seq ?_)
  refine unpA 6 h rfl rfl rfl (by decide) (by decide) (by decide) (by decide) rfl rfl fun w1 h => WN.seq (WC.seq ?_)
  refine unpB 28 4 h rfl rfl (by decide) rfl (by decide) (by decide) rfl rfl fun w1 h => WN.seq (WC.seq ?_)
  refine unpD 224 32 h (by decide) rfl rfl rfl rfl fun w1 h => WN.seq (WC.seq ?_)
  refine unpC 18 (by kernel_rfl) h rfl rfl rfl (by decide) (by decide) (by decide) (by decide) (by decide) rfl rfl fun w1 h => WN.seq (WC.seq ?_)
  refine unpB 18 14 h rfl rfl (by decide) rfl (by decide) (by decide) rfl rfl fun w1 h => WN.seq (WC.seq ?_)
  refine unpD 256 36 h (by decide) rfl rfl rfl rfl fun w1 h => WN.seq (WC.seq ?_)
  refine unpC 8 (by kernel_rfl) h rfl rfl rfl (by decide) (by decide) (by decide) (by decide) (by decide) rfl rfl fun w1 h => WN.seq (WC.seq ?_)
  refine unpA 8 h rfl rfl rfl (by decide) (by decide) (by decide) (by decide) rfl rfl fun w1 h => WN.seq (WC.seq ?_)
  refine unpB 30 2 h rfl rfl (by decide) rfl (by decide) (by decide) rfl rfl fun w1 h => WN.seq (WC.seq ?_)
  refine unpD 288 40 h (by decide) rfl rfl rfl rfl fun w1 h => WN.seq (WC.seq ?_)
  refine unpC 20 (by kernel_rfl) h rfl rfl rfl (by decide) (by decide) (by decide) (by decide) (by decide) rfl rfl fun w1 h => WN.seq (WC.seq ?_)
  refine unpB 20 12 h rfl rfl (by decide) rfl (by decide) (by decide) rfl rfl fun w1 h => WN.seq (WC.seq ?_)
  refine unpD 320 44 h (by decide) rfl rfl rfl rfl fun w1 h => WN.seq (WC.seq ?_)
  refine unpC 10 (by kernel_rfl) h rfl rfl rfl (by decide) (by decide) (by decide) (by decide) (by decide) rfl rfl fun w1 h => WN.seq (WC.seq ?_)
  refine unpB 10 22 h rfl rfl (by decide) rfl (by decide) (by decide) rfl rfl ?_
  intro w1 h
  replace h := h.next (by decide)
  refine WN.seq (WC.seq ?_)
  refine unpD 352 48 h (by decide) rfl rfl rfl rfl fun w1 h => WN.seq (WC.seq ?_)
  refine unpA 0 h rfl rfl rfl (by decide) (by decide) (by decide) (by decide) rfl rfl fun w1 h => WN.seq (WC.seq ?_)
  refine unpB 22 10 h rfl rfl (by decide) rfl (by decide) (by decide) rfl rfl fun w1 h => WN.seq (WC.seq ?_)
  refine unpD 384 52 h (by decide) rfl rfl rfl rfl fun w1 h => WN.seq (WC.seq ?_)
  refine unpC 12 (by kernel_rfl) h rfl rfl rfl (by decide) (by decide) (by decide) (by decide) (by decide) rfl rfl fun w1 h => WN.seq (WC.seq ?_)
  refine unpB 12 20 h rfl rfl (by decide) rfl (by decide) (by decide) rfl rfl fun w1 h => WN.seq (WC.seq ?_)
  refine unpD 416 56 h (by decide) rfl rfl rfl rfl fun w1 h => WN.seq (WC.seq ?_)
  refine unpC 2 (by kernel_rfl) h rfl rfl rfl (by decide) (by decide) (by decide) (by decide) (by decide) rfl rfl fun w1 h => WN.seq (WC.seq ?_)
  refine unpA 2 h rfl rfl rfl (by decide) (by decide) (by decide) (by decide) rfl rfl fun w1 h => WN.seq (WC.seq ?_)
  refine unpB 24 8 h rfl rfl (by decide) rfl (by decide) (by decide) rfl rfl fun w1 h => WN.seq (WC.seq ?_)
  refine unpD 448 60 h (by decide) rfl rfl rfl rfl fun w1 h => WN.seq (WC.seq ?_)
  refine unpC 14 (by kernel_rfl) h rfl rfl rfl (by decide) (by decide) (by decide) (by decide) (by decide) rfl rfl fun w1 h => WN.seq (WC.seq ?_)
  refine unpB 14 18 h rfl rfl (by decide) rfl (by decide) (by decide) rfl rfl fun w1 h => WN.seq (WC.seq ?_)
  refine unpD 480 64 h (by decide) rfl rfl rfl rfl fun w1 h => WN.seq (WC.seq ?_)
  refine unpC 4 (by kernel_rfl) h rfl rfl rfl (by decide) (by decide) (by decide) (by decide) (by decide) rfl rfl fun w1 h => WN.seq (WC.seq ?_)
  refine unpA 4 h rfl rfl rfl (by decide) (by decide) (by decide) (by decide) rfl rfl fun w1 h => WN.seq (WC.seq ?_)
  refine unpB 26 6 h rfl rfl (by decide) rfl (by decide) (by decide) rfl rfl fun w1 h => WN.seq (WC.seq ?_)
  refine unpD 512 68 h (by decide) rfl rfl rfl rfl fun w1 h => WN.seq (WC.seq ?_)
  refine unpC 16 (by kernel_rfl) h rfl rfl rfl (by decide) (by decide) (by decide) (by decide) (by decide) rfl rfl fun w1 h => WN.seq (WC.seq ?_)
  refine unpB 16 16 h rfl rfl (by decide) rfl (by decide) (by decide) rfl rfl fun w1 h => WN.seq (WC.seq ?_)
  refine unpD 544 72 h (by decide) rfl rfl rfl rfl fun w1 h => WN.seq (WC.seq ?_)
  refine unpC 6 (by kernel_rfl) h rfl rfl rfl (by decide) (by decide) (by decide) (by decide) (by decide) rfl rfl fun w1 h => WN.seq (WC.seq ?_)
  refine unpA 6 h rfl rfl rfl (by decide) (by decide) (by decide) (by decide) rfl rfl fun w1 h => WN.seq (WC.seq ?_)
  refine unpB 28 4 h rfl rfl (by decide) rfl (by decide) (by decide) rfl rfl fun w1 h => WN.seq (WC.seq ?_)
  refine unpD 576 76 h (by decide) rfl rfl rfl rfl fun w1 h => WN.seq (WC.seq ?_)
  refine unpC 18 (by kernel_rfl) h rfl rfl rfl (by decide) (by decide) (by decide) (by decide) (by decide) rfl rfl fun w1 h => WN.seq (WC.seq ?_)
  refine unpB 18 14 h rfl rfl (by decide) rfl (by decide) (by decide) rfl rfl fun w1 h => WN.seq (WC.seq ?_)
  refine unpD 608 80 h (by decide) rfl rfl rfl rfl fun w1 h => WN.seq (WC.seq ?_)
  refine unpC 8 (by kernel_rfl) h rfl rfl rfl (by decide) (by decide) (by decide) (by decide) (by decide) rfl rfl fun w1 h => WN.seq (WC.seq ?_)
  refine unpA 8 h rfl rfl rfl (by decide) (by decide) (by decide) (by decide) rfl rfl fun w1 h => WN.seq (WC.seq ?_)
  refine unpB 30 2 h rfl rfl (by decide) rfl (by decide) (by decide) rfl rfl fun w1 h => WN.seq (WC.seq ?_)
  refine unpD 640 84 h (by decide) rfl rfl rfl rfl fun w1 h => WN.seq (WC.seq ?_)
  refine unpC 20 (by kernel_rfl) h rfl rfl rfl (by decide) (by decide) (by decide) (by decide) (by decide) rfl rfl fun w1 h => WN.seq (WC.seq ?_)
  refine unpB 20 12 h rfl rfl (by decide) rfl (by decide) (by decide) rfl rfl fun w1 h => WN.seq (WC.seq ?_)
  refine unpD 672 88 h (by decide) rfl rfl rfl rfl fun w1 h => WN.seq (WC.seq ?_)
  refine unpC 10 (by kernel_rfl) h rfl rfl rfl (by decide) (by decide) (by decide) (by decide) (by decide) rfl rfl ?_
  intro w1 h
  refine WN.seq ?_
  refine unpB 10 22 h rfl rfl (by decide) rfl (by decide) (by decide) rfl rfl ?_
  intro w1 h
  replace h := h.next (by decide)
  refine WN.endR rfl rfl ?_
  exact h.done

theorem unpk23 (p : UP) {w : World} (h : UIn p 23 w) :
    Ret Tryz.prog 106 #[.iface 120 (.pointer (some ⟨p.rb, p.rb.off, none⟩)), .slice (some ⟨p.g, p.o, none⟩) p.dl p.dc] w (unpR p 23 w) := by
  refine Ret.enter (vs := [.iface 120 (.pointer (some ⟨p.rb, p.rb.off, none⟩)), .slice (some ⟨p.g, p.o, none⟩) p.dl p.dc]) Tryz.func106 Tryz.ntmps106 rfl rfl ?_
  refine WC.seq (WC.region ?_)
  refine WR.alloc zvU rfl rfl ?_
  intro w1 hn _
  refine WR.nil ?_
  replace h := US.start h hn
  refine WN.weak (L3 p w.heap.size) ⟨rfl, rfl, rfl, trivial⟩ ?_
  clear hn
  revert h; generalize w.heap.size = b; intro h
  refine WN.seq (WC.seq ?_)
  refine unpD 0 4 h (by decide) rfl rfl rfl rfl fun w1 h => WN.seq (WC.seq ?_)
  refine unpA 0 h rfl rfl rfl (by decide) (by decide) (by decide) (by decide) rfl rfl fun w1 h => WN.seq (WC.seq ?_)
  refine unpB 23 9 h rfl rfl (by decide) rfl (by decide) (by decide) rfl rfl fun w1 h => WN.seq (WC.seq ?_)
  refine unpD 32 8 h (by decide) rfl rfl rfl rfl fun w1 h => WN.seq (WC.seq ?_)
  refine unpC 14 (by kernel_rfl) h rfl rfl rfl (by decide) (by decide) (by decide) (by decide) (by decide) rfl rfl fun w1 h => WN.seq (WC.seq ?_)
  refine unpB 14 18 h rfl rfl (by decide) rfl (by decide) (by decide) rfl rfl fun w1 h => WN.seq (WC.seq ?_)
  refine unpD 64 12 h (by decide) rfl rfl rfl rfl fun w1 h => WN.seq (WC.seq ?_)
  refine unpC 5 (by kernel_rfl) h rfl rfl rfl (by decide) (by decide) (by decide) (by decide) (by decide) rfl rfl fun w1 h => WN.seq (WC.seq ?_)
  refine unpA 5 h rfl rfl rfl (by decide) (by decide) (by decide) (by decide) rfl rfl fun w1 h => WN.seq (WC.seq ?_)
  refine unpB 28 4 h rfl rfl (by decide) rfl (by decide) (by decide) rfl rfl fun w1 h => WN.seq (WC.seq ?_)
  refine unpD 96 16 h (by decide) rfl rfl rfl rfl fun w1 h => WN.seq (WC.seq ?_)
  refine unpC 19 (by kernel_rfl) h rfl rfl rfl (by decide) (by decide) (by decide) (by decide) (by decide) rfl rfl fun w1 h => WN.seq (WC.seq ?_)
  refine unpB 19 13 h rfl rfl (by decide) rfl (by decide) (by decide) rfl rfl fun w1 h => WN.seq (WC.seq ?_)
  refine unpD 128 20 h (by decide) rfl rfl rfl rfl fun w1 h => WN.seq (WC.seq ?_)
  refine unpC 10 (by kernel_rfl) h rfl rfl rfl (by decide) (by decide) (by decide) (by decide) (by decide) rfl rfl fun w1 h => WN.seq (WC.seq ?_)
  refine unpB 10 22 h rfl rfl (by decide) rfl (by decide) (by decide) rfl rfl fun w1 h => WN.seq (WC.seq ?_)
  refine unpD 160 24 h (by decide) rfl rfl rfl rfl fun w1 h => WN.seq (WC.seq ?_)
  refine unpC 1 (by kernel_rfl) h rfl rfl rfl (by decide) (by decide) (by decide) (by decide) (by decide) rfl rfl fun w1 h => WN.seq (WC.seq ?_)
  refine unpA 1 h rfl rfl rfl (by decide) (by decide) (by decide) (by decide) rfl rfl fun w1 h => WN.seq (WC.seq ?_)
  refine unpB 24 8 h rfl rfl (by decide) rfl (by decide) (by decide) rfl rfl fun w1 h => WN.seq (WC.seq ?_)
  refine unpD 192 28 h (by decide) rfl rfl rfl rfl fun w1 h => WN.seq (WC.seq ?_)
  refine unpC 15 (by kernel_rfl) h rfl rfl rfl (by decide) (by decide) (by decide) (by decide) (by decide) rfl rfl fun w1 h => WN.seq (WC.seq ?_)
  refine unpB 15 17 h rfl rfl (by decide) rfl (by decide) (by decide) rfl rfl fun w1 h => WN.seq (WC.seq ?_)
  refine unpD 224 32 h (by decide) rfl rfl rfl rfl fun w1 h => WN.seq (WC.seq ?_)
  refine unpC 6 (by kernel_rfl) h rfl rfl rfl (by decide) (by decide) (by decide) (by decide) (by decide) rfl rfl fun w1 h => WN.seq (WC.seq ?_)
  refine unpA 6 h rfl rfl rfl (by decide) (by decide) (by decide) (by decide) rfl rfl fun w1 h => WN.seq (WC.seq ?_)
  refine unpB 29 3 h rfl rfl (by decide) rfl (by decide) (by decide) rfl rfl fun w1 h => WN.seq (WC.seq ?_)
  refine unpD 256 36 h (by decide) rfl rfl rfl rfl fun w1 h => WN.seq (WC.seq ?_)
  refine unpC 20 (by kernel_rfl) h rfl rfl rfl (by decide) (by decide) (by decide) (by decide) (by decide) rfl rfl fun w1 h => WN.seq (WC.seq ?_)
  refine unpB 20 12 h rfl rfl (by decide) rfl (by decide) (by decide) rfl rfl fun w1 h => WN.seq (WC.seq ?_)
  refine unpD 288 40 h (by decide) rfl rfl rfl rfl fun w1 h => WN.seq (WC.seq ?_)
  refine unpC 11 (by kernel_rfl) h rfl rfl rfl (by decide) (by decide) (by decide) (by decide) (by decide) rfl rfl fun w1 h => WN.seq (WC.seq ?_)
  refine unpB 11 21 h rfl rfl (by decide) rfl (by decide) (by decide) rfl rfl fun w1 h => WN.seq (WC.seq ?_)
  refine unpD 320 44 h (by decide) rfl rfl rfl rfl fun w1 h => WN.seq (WC.seq ?_)
  refine unpC 2 (by kernel_rfl) h rfl rfl rfl (by decide) (by decide) (by decide) (by decide) (by decide) rfl rfl fun w1 h => WN.seq (WC.seq ?_)
  refine unpA 2 h rfl rfl rfl (by decide) (by decide) (by decide) (by decide) rfl rfl fun w1 h => WN.seq (WC.seq ?_)
  refine unpB 25 7 h rfl rfl (by decide) rfl (by decide) (by decide) rfl rfl fun w1 h => WN.seq (WC.seq ?_)
  refine unpD 352 48 h (by decide) rfl rfl rfl rfl fun w1 h => WN.seq (WC.seq ?_)
  refine unpC 16 (by kernel_rfl) h rfl rfl rfl (by decide) (by decide) (by decide) (by decide) (by decide) rfl rfl fun w1 h => WN.seq (WC.seq ?_)
  refine unpB 16 16 h rfl rfl (by decide) rfl (by decide) (by decide) rfl rfl fun w1 h => WN.seq (WC.seq ?_)
  refine unpD 384 52 h (by decide) rfl rfl rfl rfl fun w1 h => WN.seq (WC.seq ?_)
  refine unpC 7 (by kernel_rfl) h rfl rfl rfl (by decide) (by decide) (by decide) (by decide) (by decide) rfl rfl fun w1 h => WN.seq (WC.seq ?_)
  refine unpA 7 h rfl rfl rfl (by decide) (by decide) (by decide) (by decide) rfl rfl fun w1 h => WN.seq (WC.seq ?_)
  refine unpB 30 2 h rfl rfl (by decide) rfl (by decide) (by decide) rfl rfl fun w1 h => WN.seq (WC.seq ?_)
  refine unpD 416 56 h (by decide) rfl rfl rfl rfl fun w1 h => WN.seq (WC.seq ?_)
  refine unpC 21 (by kernel_rfl) h rfl rfl rfl (by decide) (by decide) (by decide) (by decide) (by decide) rfl rfl fun w1 h => WN.seq (WC.seq ?_)
  refine unpB 21 11 h rfl rfl (by decide) rfl (by decide) (by decide) rfl rfl fun w1 h => WN.seq (WC.seq ?_)
  refine unpD 448 60 h (by decide) rfl rfl rfl rfl fun w1 h => WN.seq (WC.seq ?_)
  refine unpC 12 (by kernel_rfl) h rfl rfl rfl (by decide) (by decide) (by decide) (by decide) (by decide) rfl rfl fun w1 h => WN.seq (WC.seq ?_)
  refine unpB 12 20 h rfl rfl (by decide) rfl (by decide) (by decide) rfl rfl fun w1 h => WN.seq (WC.seq ?_)
  refine unpD 480 64 h (by decide) rfl rfl rfl rfl fun w1 h => WN.seq (WC.seq ?_)
  refine unpC 3 (by kernel_rfl) h rfl rfl rfl (by decide) (by decide) (by decide) (by decide) (by decide) rfl rfl fun w1 h => WN.seq (WC.seq ?_)
  refine unpA 3 h rfl rfl rfl (by decide) (by decide) (by decide) (by decide) rfl rfl fun w1 h => WN.seq (WC.seq ?_)
  refine unpB 26 6 h rfl rfl (by decide) rfl (by decide) (by decide) rfl rfl fun w1 h => WN.seq (WC.seq ?_)
  refine unpD 512 68 h (by decide) rfl rfl rfl rfl fun w1 h => WN.seq (WC.seq ?_)
  refine unpC 17 (by kernel_rfl) h rfl rfl rfl (by decide) (by decide) (by decide) (by decide) (by decide) rfl rfl fun w1 h => WN.seq (WC.seq ?_)
  refine unpB 17 15 h rfl rfl (by decide) rfl (by decide) (by decide) rfl rfl fun w1 h => WN.seq (WC.seq ?_)
  refine unpD 544 72 h (by decide) rfl rfl rfl rfl fun w1 h => WN.seq (WC.seq ?_)
  refine unpC 8 (by kernel_rfl) h rfl rfl rfl (by decide) (by decide) (by decide) (by decide) (by decide) rfl rfl fun w1 h => WN.seq (WC.seq ?_)
  refine unpA 8 h rfl rfl rfl (by decide) (by decide) (by decide) (by decide) rfl rfl fun w1 h => WN.seq (WC.seq ?_)
  refine unpB 31 1 h rfl rfl (by decide) rfl (by decide) (by decide) rfl rfl fun w1 h => WN.seq (WC.seq ?_)
  refine unpD 576 76 h (by decide) rfl rfl rfl rfl fun w1 h => WN.seq (WC.seq ?_)
  refine unpC 22 (by kernel_rfl) h rfl rfl rfl (by decide) (by decide) (by decide) (by decide) (by decide) rfl rfl fun w1 h => WN.seq (WC.seq ?_)
  refine unpB 22 10 h rfl rfl (by decide) rfl (by decide) (by decide) rfl rfl fun w1 h => WN.seq (WC.seq ?_)
  refine unpD 608 80 h (by decide) rfl rfl rfl rfl fun w1 h => WN.seq (WC.seq ?_)
  refine unpC 13 (by kernel_rfl) h rfl rfl rfl (by decide) (by decide) (by decide) (by decide) (by decide) rfl rfl fun w1 h => WN.seq (WC.seq ?_)
  refine unpB 13 19 h rfl rfl (by decide) rfl (by decide) (by decide) rfl rfl fun w1 h => WN.seq (WC.seq ?_)
  refine unpD 640 84 h (by decide) rfl rfl rfl rfl fun w1 h => WN.seq (WC.seq ?_)
  refine unpC 4 (by kernel_rfl) h rfl rfl rfl (by decide) (by decide) (by decide) (by decide) (by decide) rfl rfl fun w1 h => WN.seq (WC.seq ?_)
  refine unpA 4 h rfl rfl rfl (by decide) (by decide) (by decide) (by decide) rfl rfl fun w1 h => WN.seq (WC.seq ?_)
  refine unpB 27 5 h rfl rfl (by decide) rfl (by decide) (by decide) rfl rfl fun w1 h => WN.seq (WC.seq ?_)
  refine unpD 672 88 h (by decide) rfl rfl rfl rfl fun w1 h => WN.seq (WC.seq ?_)
  refine unpC 18 (by kernel_rfl) h rfl rfl rfl (by decide) (by decide) (by decide) (by decide) (by decide) rfl rfl fun w1 h => WN.seq (WC.seq ?_)
  refine unpB 18 14 h rfl rfl (by decide) rfl (by decide) (by decide) rfl rfl fun w1 h => WN.seq (WC.seq ?_)
  refine unpD 704 92 h (by decide) rfl rfl rfl rfl fun w1 h => WN.seq (WC.seq ?_)
  refine unpC 9 (by kernel_rfl) h rfl rfl rfl (by decide) (by decide) (by decide) (by decide) (by decide) rfl rfl ?_
  intro w1 h
  refine WN.seq ?_
  refine unpB 9 23 h rfl rfl (by decide) rfl (by decide) (by decide) rfl rfl ?_
  intro w1 h
  replace h := h.next (by decide)
  refine WN.endR rfl rfl ?_
  exact h.done

theorem unpk25 (p : UP) {w : World} (h : UIn p 25 w) :
    Ret Tryz.prog 108 #[.iface 120 (.pointer (some ⟨p.rb, p.rb.off, none⟩)), .slice (some ⟨p.g, p.o, none⟩) p.dl p.dc] w (unpR p 25 w) := by
  refine Ret.enter (vs := [.iface 120 (.pointer (some ⟨p.rb, p.rb.off, none⟩)), .slice (some ⟨p.g, p.o, none⟩) p.dl p.dc]) Tryz.func108 Tryz.ntmps108 rfl rfl ?_
  refine WC.seq (WC.region ?_)
  refine WR.alloc zvU rfl rfl ?_
  intro w1 hn _
  refine WR.nil ?_
  replace h := US.start h hn
  refine WN.weak (L3 p w.heap.size) ⟨rfl, rfl, rfl, trivial⟩ ?_
  clear hn
  revert h; generalize w.heap.size = b; intro h
  refine WN.seq (WC.seq ?_)
  refine unpD 0 4 h (by decide) rfl rfl rfl rfl fun w1 h => WN.seq (WC.seq ?_)
  refine unpA 0 h rfl rfl rfl (by decide) (by decide) (by decide) (by decide) rfl rfl fun w1 h => WN.seq (WC.seq ?_)
  refine unpB 25 7 h rfl rfl (by decide) rfl (by decide) (by decide) rfl rfl fun w1 h => WN.seq (WC.seq ?_)
  refine unpD 32 8 h (by decide) rfl rfl rfl rfl fun w1 h => WN.seq (WC.seq ?_)
  refine unpC 18 (by kernel_rfl) h rfl rfl rfl (by decide) (by decide) (by decide) (by decide) (by decide) rfl rfl fun w1 h => WN.seq (WC.seq ?_)
  refine unpB 18 14 h rfl rfl (by decide) rfl (by decide) (by decide) rfl rfl fun w1 h => WN.seq (WC.seq ?_)
  refine unpD 64 12 h (by decide) rfl rfl rfl rfl fun w1 h => WN.seq (WC.seq ?_)
  refine unpC 11 (by kernel_rfl) h rfl rfl rfl (by decide) (by decide) (by decide) (by decide) (by decide) rfl rfl fun w1 h => WN.seq (WC.seq ?_)
  refine unpB 11 21 h rfl rfl (by decide) rfl (by decide) (by decide) rfl rfl fun w1 h => WN.seq (WC.seq ?_)
  refine unpD 96 16 h (by decide) rfl rfl rfl rfl fun w1 h => WN.seq (WC.seq ?_)
  refine unpC 4 (by kernel_rfl) h rfl rfl rfl (by decide) (by decide) (by decide) (by decide) (by decide) rfl rfl fun w1 h => WN.seq (WC.seq ?_)
  refine unpA 4 h rfl rfl rfl (by decide) (by decide) (by decide) (by decide) rfl rfl fun w1 h => WN.seq (WC.seq ?_)
  refine unpB 29 3 h rfl rfl (by decide) rfl (by decide) (by decide) rfl rfl fun w1 h => WN.seq (WC.seq ?_)
  refine unpD 128 20 h (by decide) rfl rfl rfl rfl fun w1 h => WN.seq (WC.seq ?_)
  refine unpC 22 (by kernel_rfl) h rfl rfl rfl (by decide) (by decide) (by decide) (by decide) (by decide) rfl rfl fun w1 h => WN.seq (WC.seq ?_)
  refine unpB 22 10 h rfl rfl (by decide) rfl (by decide) (by decide) rfl rfl fun w1 h => WN.seq (WC.seq ?_)
  refine unpD 160 24 h (by decide) rfl rfl rfl rfl fun w1 h => WN.seq (WC.seq ?_)
  refine unpC 15 (by kernel_rfl) h rfl rfl rfl (by decide) (by decide) (by decide) (by decide) (by decide) rfl rfl fun w1 h => WN.seq (WC.seq ?_)
  refine unpB 15 17 h rfl rfl (by decide) rfl (by decide) (by decide) rfl rfl fun w1 h => WN.seq (WC.seq ?_)
  refine unpD 192 28 h (by decide) rfl rfl rfl rfl fun w1 h => WN.seq (WC.seq ?_)
  refine unpC 8 (by kernel_rfl) h rfl rfl rfl (by decide) (by decide) (by decide) (by decide) (by decide) rfl rfl fun w1 h => WN.seq (WC.seq ?_)
  refine unpB 8 24 h rfl rfl (by decide) rfl (by decide) (by decide) rfl rfl fun w1 h => WN.seq (WC.seq ?_)
  refine unpD 224 32 h (by decide) rfl rfl rfl rfl fun w1 h => WN.seq (WC.seq ?_)
  refine unpC 1 (by kernel_rfl) h rfl rfl rfl (by decide) (by decide) (by decide) (by decide) (by decide) rfl rfl fun w1 h => WN.seq (WC.seq ?_)
  refine unpA 1 h rfl rfl rfl (by decide) (by decide) (by decide) (by decide) rfl rfl fun w1 h => WN.seq (WC.seq ?_)
  refine unpB 26 6 h rfl rfl (by decide) rfl (by decide) (by decide) rfl rfl fun w1 h => WN.seq (WC.seq ?_)
  refine unpD 256 36 h (by decide) rfl rfl rfl rfl fun w1 h => WN.seq (WC.seq ?_)
  refine unpC 19 (by kernel_rfl) h rfl rfl rfl (by decide) (by decide) (by decide) (by decide) (by decide) rfl rfl fun w1 h => WN.seq (WC.seq ?_)
  refine unpB 19 13 h rfl rfl (by decide) rfl (by decide) (by decide) rfl rfl fun w1 h => WN.seq (WC.seq ?_)
  refine unpD 288 40 h (by decide) rfl rfl rfl rfl fun w1 h => WN.seq (WC.seq ?_)
  refine unpC 12 (by kernel_rfl) h rfl rfl rfl (by decide) (by decide) (by decide) (by decide) (by decide) rfl rfl fun w1 h => WN.seq (WC.seq ?_)
  refine unpB 12 20 h rfl rfl (by decide) rfl (by decide) (by decide) rfl rfl fun w1 h => WN.seq (WC.seq ?_)
  refine unpD 320 44 h (by decide) rfl rfl rfl rfl fun w1 h => WN.seq (WC.seq ?_)
  refine unpC 5 (by kernel_rfl) h rfl rfl rfl (by decide) (by decide) (by decide) (by decide) (by decide) rfl rfl fun w1 h => WN.seq (WC.seq ?_)
  refine unpA 5 h rfl rfl rfl (by decide) (by decide) (by decide) (by decide) rfl rfl fun w1 h => WN.seq (WC.seq ?_)
  refine unpB 30 2 h rfl rfl (by decide) rfl (by decide) (by decide) rfl rfl fun w1 h => WN.seq (WC.seq ?_)
  refine unpD 352 48 h (by decide) rfl rfl rfl rfl fun w1 h => WN.seq (WC.seq ?_)
  refine unpC 23 (by kernel_rfl) h rfl rfl rfl (by decide) (by decide) (by decide) (by decide) (by decide) rfl rfl fun w1 h => WN.seq (WC.seq ?_)
  refine unpB 23 9 h rfl rfl (by decide) rfl (by decide) (by decide) rfl rfl fun w1 h => WN.seq (WC.seq ?_)
  refine unpD 384 52 h (by decide) rfl rfl rfl rfl fun w1 h => WN.seq (WC.seq ?_)
  refine unpC 16 (by kernel_rfl) h rfl rfl rfl (by decide) (by decide) (by decide) (by decide) (by decide) rfl rfl fun w1 h => WN.seq (WC.seq ?_)
  refine unpB 16 16 h rfl rfl (by decide) rfl (by decide) (by decide) rfl rfl fun w1 h => WN.seq (WC.seq ?_)
  refine unpD 416 56 h (by decide) rfl rfl rfl rfl fun w1 h => WN.seq (WC.seq ?_)
  refine unpC 9 (by kernel_rfl) h rfl rfl rfl (by decide) (by decide) (by decide) (by decide) (by decide) rfl rfl fun w1 h => WN.seq (WC.seq ?_)
  refine unpB 9 23 h rfl rfl (by decide) rfl (by decide) (by decide) rfl rfl fun w1 h => WN.seq (WC.seq ?_)
  refine unpD 448 60 h (by decide) rfl rfl rfl rfl fun w1 h => WN.seq (WC.seq ?_)
  refine unpC 2 (by kernel_rfl) h rfl rfl rfl (by decide) (by decide) (by decide) (by decide) (by decide) rfl rfl fun w1 h => WN.seq (WC.seq ?_)
  refine unpA 2 h rfl rfl rfl (by decide) (by decide) (by decide) (by decide) rfl rfl fun w1 h => WN.seq (WC.seq ?_)
  refine unpB 27 5 h rfl rfl (by decide) rfl (by decide) (by decide) rfl rfl fun w1 h => WN.seq (WC.seq ?_)
  refine unpD 480 64 h (by decide) rfl rfl rfl rfl fun w1 h => WN.seq (WC.seq ?_)
  refine unpC 20 (by kernel_rfl) h rfl rfl rfl (by decide) (by decide) (by decide) (by decide) (by decide) rfl rfl fun w1 h => WN.seq (WC.seq ?_)
  refine unpB 20 12 h rfl rfl (by decide) rfl (by decide) (by decide) rfl rfl fun w1 h => WN.seq (WC.seq ?_)
  refine unpD 512 68 h (by decide) rfl rfl rfl rfl fun w1 h => WN.seq (WC.seq ?_)
  refine unpC 13 (by kernel_rfl) h rfl rfl rfl (by decide) (by decide) (by decide) (by decide) (by decide) rfl rfl fun w1 h => WN.seq (WC.seq ?_)
  refine unpB 13 19 h rfl rfl (by decide) rfl (by decide) (by decide) rfl rfl fun w1 h => WN.seq (WC.seq ?_)
  refine unpD 544 72 h (by decide) rfl rfl rfl rfl fun w1 h => WN.seq (WC.seq ?_)
  refine unpC 6 (by kernel_rfl) h rfl rfl rfl (by decide) (by decide) (by decide) (by decide) (by decide) rfl rfl fun w1 h => WN.seq (WC.seq ?_)
  refine unpA 6 h rfl rfl rfl (by decide) (by decide) (by decide) (by decide) rfl rfl fun w1 h => WN.seq (WC.seq ?_)
  refine unpB 31 1 h rfl rfl (by decide) rfl (by decide) (by decide) rfl rfl fun w1 h => WN.seq (WC.seq ?_)
  refine unpD 576 76 h (by decide) rfl rfl rfl rfl fun w1 h => WN.seq (WC.seq ?_)
  refine unpC 24 (by kernel_rfl) h rfl rfl rfl (by decide) (by decide) (by decide) (by decide) (by decide) rfl rfl fun w1 h => WN.seq (WC.seq ?_)
  refine unpB 24 8 h rfl rfl (by decide) rfl (by decide) (by decide) rfl rfl fun w1 h => WN.seq (WC.seq ?_)
  refine unpD 608 80 h (by decide) rfl rfl rfl rfl fun w1 h => WN.seq (WC.seq ?_)
  refine unpC 17 (by kernel_rfl) h rfl rfl rfl (by decide) (by decide) (by decide) (by decide) (by decide) rfl rfl fun w1 h => WN.seq (WC.seq ?_)
  refine unpB 17 15 h rfl rfl (by decide) rfl (by decide) (by decide) rfl rfl fun w1 h => WN.seq (WC.seq ?_)
  refine unpD 640 84 h (by decide) rfl rfl rfl rfl fun w1 h => WN.seq (WC.seq ?_)
  refine unpC 10 (by kernel_rfl) h rfl rfl rfl (by decide) (by decide) (by decide) (by decide) (by decide) rfl rfl fun w1 h => WN.seq (WC.seq ?_)
  refine unpB 10 22 h rfl rfl (by decide) rfl (by decide) (by decide) rfl rfl fun w1 h => WN.seq (WC.seq ?_)
  refine unpD 672 88 h (by decide) rfl rfl rfl rfl fun w1 h => WN.seq (WC.seq ?_)
  refine unpC 3 (by kernel_rfl) h rfl rfl rfl (by decide) (by decide) (by decide) (by decide) (by decide) rfl rfl fun w1 h => WN.seq (WC.seq ?_)
  refine unpA 3 h rfl rfl rfl (by decide) (by decide) (by decide) (by decide) rfl rfl fun w1 h => WN.seq (WC.seq ?_)
  refine unpB 28 4 h rfl rfl (by decide) rfl (by decide) (by decide) rfl rfl fun w1 h => WN.seq (WC.seq ?_)
  refine unpD 704 92 h (by decide) rfl rfl rfl rfl fun w1 h => WN.seq (WC.seq ?_)
  refine unpC 21 (by kernel_rfl) h rfl rfl rfl (by decide) (by decide) (by decide) (by decide) (by decide) rfl rfl fun w1 h => WN.seq (WC.seq ?_)
  refine unpB 21 11 h rfl rfl (by decide) rfl (by decide) (by decide) rfl rfl fun w1 h => WN.seq (WC.seq ?_)
  refine unpD 736 96 h (by decide) rfl rfl rfl rfl fun w1 h => WN.seq (WC.seq ?_)
  refine unpC 14 (by kernel_rfl) h rfl rfl rfl (by decide) (by decide) (by decide) (by decide) (by decide) rfl rfl fun w1 h => WN.seq (WC.seq ?_)
  refine unpB 14 18 h rfl rfl (by decide) rfl (by decide) (by decide) rfl rfl fun w1 h => WN.seq (WC.seq ?_)
  refine unpD 768 100 h (by decide) rfl rfl rfl rfl fun w1 h => WN.seq (WC.seq ?_)
  refine unpC 7 (by kernel_rfl) h rfl rfl rfl (by decide) (by decide) (by decide) (by decide) (by decide) rfl rfl ?_
  intro w1 h
  refine WN.seq ?_
  refine unpB 7 25 h rfl rfl (by decide) rfl (by decide) (by decide) rfl rfl ?_
  intro w1 h
  replace h := h.next (by decide)
  refine WN.endR rfl rfl ?_
  exact h.done

theorem unpk26 (p : UP) {w : World} (h : UIn p 26 w) :
    Ret Tryz.prog 109 #[.iface 120 (.pointer (some ⟨p.rb, p.rb.off, none⟩)), .slice (some ⟨p.g, p.o, none⟩) p.dl p.dc] w (unpR p 26 w) := by
  refine Ret.enter (vs := [.iface 120 (.pointer (some ⟨p.rb, p.rb.off, none⟩)), .slice (some ⟨p.g, p.o, none⟩) p.dl p.dc]) Tryz.func109 Tryz.ntmps109 rfl rfl ?_
  refine WC.seq (WC.region ?_)
  refine WR.alloc zvU rfl rfl ?_
  intro w1 hn _
  refine WR.nil ?_
  replace h := US.start h hn
  refine WN.weak (L3 p w.heap.size) ⟨rfl, rfl, rfl, trivial⟩ ?_
  clear hn
  revert h; generalize w.heap.size = b; intro h
  refine WN.seq (WC.seq ?_)
  refine unpD 0 4 h (by decide) rfl rfl rfl rfl fun w1 h => WN.seq (WC.seq ?_)
  refine unpA 0 h rfl rfl rfl (by decide) (by decide) (by decide) (by decide) rfl rfl fun w1 h => WN.seq (WC.seq ?_)
  refine unpB 26 6 h rfl rfl (by decide) rfl (by decide) (by decide) rfl rfl fun w1 h => WN.seq (WC.seq ?_)
  refine unpD 32 8 h (by decide) rfl rfl rfl rfl fun w1 h => WN.seq (WC.seq ?_)
  refine unpC 20 (by kernel_rfl) h rfl rfl rfl (by decide) (by decide) (by decide) (by decide) (by decide) rfl rfl fun w1 h => WN.seq (WC.seq ?_)
  refine unpB 20 12 h rfl rfl (by decide) rfl (by decide) (by decide) rfl rfl fun w1 h => WN.seq (WC.seq ?_)
  refine unpD 64 12 h (by decide) rfl rfl rfl rfl fun w1 h => WN.seq (WC.seq ?_)
  refine unpC 14 (by kernel_rfl) h rfl rfl rfl (by decide) (by decide) (by decide) (by decide) (by decide) rfl rfl fun w1 h => WN.seq (WC.seq ?_)
  refine unpB 14 18 h rfl rfl (by decide) rfl (by decide) (by decide) rfl rfl fun w1 h => WN.seq (WC.seq ?_)
  refine unpD 96 16 h (by decide) rfl rfl rfl rfl fun w1 h => WN.seq (WC.seq ?_)
  refine unpC 8 (by kernel_rfl) h rfl rfl rfl (by decide) (by decide) (by decide) (by decide) (by decide) rfl rfl fun w1 h => WN.seq (WC.seq ?_)
  refine unpB 8 24 h rfl rfl (by decide) rfl (by decide) (by decide) rfl rfl fun w1 h => WN.seq (WC.seq ?_)
  refine unpD 128 20 h (by decide) rfl rfl rfl rfl fun w1 h => WN.seq (WC.seq ?_)
  refine unpC 2 (by kernel_rfl) h rfl rfl rfl (by decide) (by decide) (by decide) (by decide) (by decide) rfl rfl fun w1 h => WN.seq (WC.seq ?_)
  refine unpA 2 h rfl rfl rfl (by decide) (by decide) (by decide) (by decide) rfl rfl fun w1 h => WN.seq (WC.seq ?_)
  refine unpB 28 4 h rfl rfl (by decide) rfl (by decide) (by decide) rfl rfl fun w1 h => WN.seq (WC.seq ?_)
  refine unpD 160 24 h (by decide) rfl rfl rfl rfl fun w1 h => WN.seq (WC.seq ?_)
  refine unpC 22 (by kernel_rfl) h rfl rfl rfl (by decide) (by decide) (by decide) (by decide) (by decide) rfl rfl fun w1 h => WN.seq (WC.seq ?_)
  refine unpB 22 10 h rfl rfl (by decide) rfl (by decide) (by decide) rfl rfl fun w1 h => WN.seq (WC.seq ?_)
  refine unpD 192 28 h (by decide) rfl rfl rfl rfl fun w1 h => WN.seq (WC.seq ?_)
  refine unpC 16 (by kernel_rfl) h rfl rfl rfl (by decide) (by decide) (by decide) (by decide) (by decide) rfl rfl fun w1 h => WN.seq (WC.seq ?_)
  refine unpB 16 16 h rfl rfl (by decide) rfl (by decide) (by decide) rfl rfl fun w1 h => WN.seq (WC.seq ?_)
  refine unpD 224 32 h (by decide) rfl rfl rfl rfl fun w1 h => WN.seq (WC.seq ?_)
  refine unpC 10 (by kernel_rfl) h rfl rfl rfl (by decide) (by decide) (by decide) (by decide) (by decide) rfl rfl fun w1 h => WN.seq (WC.seq ?_)
  refine unpB 10 22 h rfl rfl (by decide) rfl (by decide) (by decide) rfl rfl fun w1 h => WN.seq (WC.seq ?_)
  refine unpD 256 36 h (by decide) rfl rfl rfl rfl fun w1 h => WN.seq (WC.seq ?_)
  refine unpC 4 (by kernel_rfl) h rfl rfl rfl (by decide) (by decide) (by decide) (by decide) (by decide) rfl rfl fun w1 h => WN.seq (WC.seq ?_)
  refine unpA 4 h rfl rfl rfl (by decide) (by decide) (by decide) (by decide) rfl rfl fun w1 h => WN.seq (WC.seq ?_)
  refine unpB 30 2 h rfl rfl (by decide) rfl (by decide) (by decide) rfl rfl fun w1 h => WN.seq (WC.seq ?_)
  refine unpD 288 40 h (by decide) rfl rfl rfl rfl fun w1 h => WN.seq (WC.seq ?_)
  refine unpC 24 (by kernel_rfl) h rfl rfl rfl (by decide) (by decide) (by decide) (by decide) (by decide) rfl rfl fun w1 h => WN.seq (WC.seq ?_)
  refine unpB 24 8 h rfl rfl (by decide) rfl (by decide) (by decide) rfl rfl fun w1 h => WN.seq (WC.seq ?_)
  refine unpD 320 44 h (by decide) rfl rfl rfl rfl fun w1 h => WN.seq (WC.seq ?_)
  refine unpC 18 (by kernel_rfl) h rfl rfl rfl (by decide) (by decide) (by decide) (by decide) (by decide) rfl rfl fun w1 h => WN.seq (WC.seq ?_)
  refine unpB 18 14 h rfl rfl (by decide) rfl (by decide) (by decide) rfl rfl fun w1 h => WN.seq (WC.seq ?_)
  refine unpD 352 48 h (by decide) rfl rfl rfl rfl fun w1 h => WN.seq (WC.seq ?_)
  refine unpC 12 (by kernel_rfl) h rfl rfl rfl (by decide) (by decide) (by decide) (by decide) (by decide) rfl rfl fun w1 h => WN.seq (WC.seq ?_)
  refine unpB 12 20 h rfl rfl (by decide) rfl (by decide) (by decide) rfl rfl fun w1 h => WN.seq (WC.seq ?_)
  refine unpD 384 52 h (by decide) rfl rfl rfl rfl fun w1 h => WN.seq (WC.seq ?_)
  refine unpC 6 (by kernel_rfl) h rfl rfl rfl (by decide) (by decide) (by decide) (by decide) (by decide) rfl rfl fun w1 h => WN.seq (WC.seq ?_)
  refine unpB 6 26 h rfl rfl (by decide) rfl (by decide) (by decide) rfl rfl ?_
  intro w1 h
  replace h := h.next (by decide)
  refine WN.seq (WC.seq ?_)
  refine unpD 416 56 h (by decide) rfl rfl rfl rfl fun w1 h => WN.seq (WC.seq ?_)
  refine unpA 0 h rfl rfl rfl (by decide) (by decide) (by decide) (by decide) rfl rfl fun w1 h => WN.seq (WC.seq ?_)
  refine unpB 26 6 h rfl rfl (by decide) rfl (by decide) (by decide) rfl rfl fun w1 h => WN.seq (WC.seq ?_)
  refine unpD 448 60 h (by decide) rfl rfl rfl rfl fun w1 h => WN.seq (WC.seq ?_)
  refine unpC 20 (by kernel_rfl) h rfl rfl rfl (by decide) (by decide) (by decide) (by decide) (by decide) rfl rfl fun w1 h => WN.seq (WC.seq ?_)
  refine unpB 20 12 h rfl rfl (by decide) rfl (by decide) (by decide) rfl rfl fun w1 h => WN.seq (WC.seq ?_)
  refine unpD 480 64 h (by decide) rfl rfl rfl rfl fun w1 h => WN.seq (WC.seq ?_)
  refine unpC 14 (by kernel_rfl) h rfl rfl rfl (by decide) (by decide) (by decide) (by decide) (by decide) rfl rfl fun w1 h => WN.seq (WC.seq ?_)
  refine unpB 14 18 h rfl rfl (by decide) rfl (by decide) (by decide) rfl rfl fun w1 h => WN.seq (WC.seq ?_)
  refine unpD 512 68 h (by decide) rfl rfl rfl rfl fun w1 h => WN.seq (WC.seq ?_)
  refine unpC 8 (by kernel_rfl) h rfl rfl rfl (by decide) (by decide) (by decide) (by decide) (by decide) rfl rfl fun w1 h => WN.seq (WC.seq ?_)
  refine unpB 8 24 h rfl rfl (by decide) rfl (by decide) (by decide) rfl rfl fun w1 h => WN.seq (WC.seq ?_)
  refine unpD 544 72 h (by decide) rfl rfl rfl rfl fun w1 h => WN.seq (WC.seq ?_)
  refine unpC 2 (by kernel_rfl) h rfl rfl rfl (by decide) (by decide) (by decide) (by decide) (by decide) rfl rfl fun w1 h => WN.seq (WC.seq ?_)
  refine unpA 2 h rfl rfl rfl (by decide) (by decide) (by decide) (by decide) rfl rfl fun w1 h => WN.seq (WC.seq ?_)
  refine unpB 28 4 h rfl rfl (by decide) rfl (by decide) (by decide) rfl rfl fun w1 h => WN.seq (WC.seq ?_)
  refine unpD 576 76 h (by decide) rfl rfl rfl rfl fun w1 h => WN.seq (WC.seq ?_)
  refine unpC 22 (by kernel_rfl) h rfl rfl rfl (by decide) (by decide) (by decide) (by decide) (by decide) rfl rfl fun w1 h => WN.seq (WC.seq ?_)
  refine unpB 22 10 h rfl rfl (by decide) rfl (by decide) (by decide) rfl rfl fun w1 h => WN.seq (WC.seq ?_)
  refine unpD 608 80 h (by decide) rfl rfl rfl rfl fun w1 h => WN.seq (WC.seq ?_)
  refine unpC 16 (by kernel_rfl) h rfl rfl rfl (by decide) (by decide) (by decide) (by decide) (by decide) rfl rfl fun w1 h => WN.seq (WC.seq ?_)
  refine unpB 16 16 h rfl rfl (by decide) rfl (by decide) (by decide) rfl rfl fun w1 h => WN.seq (WC.seq ?_)
  refine unpD 640 84 h (by decide) rfl rfl rfl rfl fun w1 h => WN.seq (WC.seq ?_)
  refine unpC 10 (by kernel_rfl) h rfl rfl rfl (by decide) (by decide) (by decide) (by decide) (by decide) rfl rfl fun w1 h => WN.seq (WC.seq ?_)
  refine unpB 10 22 h rfl rfl (by decide) rfl (by decide) (by decide) rfl rfl fun w1 h => WN.seq (WC.seq ?_)
  refine unpD 672 88 h (by decide) rfl rfl rfl rfl fun w1 h => WN.seq (WC.seq ?_)
  refine unpC 4 (by kernel_rfl) h rfl rfl rfl (by decide) (by decide) (by decide) (by decide) (by decide) rfl rfl fun w1 h => WN.seq (WC.seq ?_)
  refine unpA 4 h rfl rfl rfl (by decide) (by decide) (by decide) (by decide) rfl rfl fun w1 h => WN.seq (WC.seq ?_)
  refine unpB 30 2 h rfl rfl (by decide) rfl (by decide) (by decide) rfl rfl fun w1 h => WN.seq (WC.seq ?_)
  refine unpD 704 92 h (by decide) rfl rfl rfl rfl fun w1 h => WN.seq (WC.seq ?_)
  refine unpC 24 (by kernel_rfl) h rfl rfl rfl (by decide) (by decide) (by decide) (by decide) (by decide) rfl rfl fun w1 h => WN.seq (WC.seq ?_)
  refine unpB 24 8 h rfl rfl (by decide) rfl (by decide) (by decide) rfl rfl fun w1 h => WN.seq (WC.seq ?_)
  refine unpD 736 96 h (by decide) rfl rfl rfl rfl fun w1 h => WN.seq (WC.seq ?_)
  refine unpC 18 (by kernel_rfl) h rfl rfl rfl (by decide) (by decide) (by decide) (by decide) (by decide) rfl rfl fun w1 h => WN.seq (WC.seq ?_)
  refine unpB 18 14 h rfl rfl (by decide) rfl (by decide) (by decide) rfl rfl fun w1 h => WN.seq (WC.seq ?_)
  refine unpD 768 100 h (by decide) rfl rfl rfl rfl fun w1 h => WN.seq (WC.seq ?_)
  refine unpC 12 (by kernel_rfl) h rfl rfl rfl (by decide) (by decide) (by decide) (by decide) (by decide) rfl rfl fun w1 h => WN.seq (WC.seq ?_)
  refine unpB 12 20 h rfl rfl (by decide) rfl (by decide) (by decide) rfl rfl fun w1 h => WN.seq (WC.seq ?_)
  refine unpD 800 104 h (by decide) rfl rfl rfl rfl fun w1 h => WN.seq (WC.seq ?_)
  refine unpC 6 (by kernel_rfl) h rfl rfl rfl (by decide) (by decide) (by decide) (by decide) (by decide) rfl rfl ?_
  intro w1 h
  refine WN.seq ?_
  refine unpB 6 26 h rfl rfl (by decide) rfl (by decide) (by decide) rfl rfl ?_
  intro w1 h
  replace h := h.next (by decide)
  refine WN.endR rfl rfl ?_
  exact h.done

theorem unpk27 (p : UP) {w : World} (h : UIn p 27 w) :
    Ret Tryz.prog 110 #[.iface 120 (.pointer (some ⟨p.rb, p.rb.off, none⟩)), .slice (some ⟨p.g, p.o, none⟩) p.dl p.dc] w (unpR p 27 w) := by
  refine Ret.enter (vs := [.iface 120 (.pointer (some ⟨p.rb, p.rb.off, none⟩)), .slice (some ⟨p.g, p.o, none⟩) p.dl p.dc]) Tryz.func110 Tryz.ntmps110 rfl rfl ?_
  refine WC.seq (WC.region ?_)
  refine WR.alloc zvU rfl rfl ?_
  intro w1 hn _
  refine WR.nil ?_
  replace h := US.start h hn
  refine WN.weak (L3 p w.heap.size) ⟨rfl, rfl, rfl, trivial⟩ ?_
  clear hn
  revert h; generalize w.heap.size = b; intro h
  refine WN.seq (WC.seq ?_)
  refine unpD 0 4 h (by decide) rfl rfl rfl rfl fun w1 h => WN.seq (WC.seq ?_)
  refine unpA 0 h rfl rfl rfl (by decide) (by decide) (by decide) (by decide) rfl rfl fun w1 h => WN.seq (WC.seq ?_)
  refine unpB 27 5 h rfl rfl (by decide) rfl (by decide) (by decide) rfl rfl fun w1 h => WN.seq (WC.seq ?_)
  refine unpD 32 8 h (by decide) rfl rfl rfl rfl fun w1 h => WN.seq (WC.seq ?_)
  refine unpC 22 (by kernel_rfl) h rfl rfl rfl (by decide) (by decide) (by decide) (by decide) (by decide) rfl rfl fun w1 h => WN.seq (WC.seq ?_)
  refine unpB 22 10 h rfl rfl (by decide) rfl (by decide) (by decide) rfl rfl fun w1 h => WN.seq (WC.seq ?_)
  refine unpD 64 12 h (by decide) rfl rfl rfl rfl fun w1 h => WN.seq (WC.seq ?_)
  refine unpC 17 (by kernel_rfl) h rfl rfl rfl (by decide) (by decide) (by decide) (by decide) (by decide) rfl rfl fun w1 h => WN.seq (WC.seq ?_)
  refine unpB 17 15 h rfl rfl (by decide) rfl (by decide) (by decide) rfl rfl fun w1 h => WN.seq (WC.seq ?_)
  refine unpD 96 16 h (by decide) rfl rfl rfl rfl fun w1 h => WN.seq (WC.seq ?_)
  refine unpC 12 (by kernel_rfl) h rfl rfl rfl (by decide) (by decide) (by decide) (by decide) (by decide) rfl rfl fun w1 h => WN.seq (WC.seq ?_)
  refine unpB 12 20 h rfl rfl (by decide) rfl (by decide) (by decide) rfl rfl fun w1 h => WN.seq (WC.seq ?_)
  refine unpD 128 20 h (by decide) rfl rfl rfl rfl fun w1 h => WN.seq (WC.seq ?_)
  refine unpC 7 (by kernel_rfl) h rfl rfl rfl (by decide) (by decide) (by decide) (by decide) (by decide) rfl rfl fun w1 h => WN.seq (WC.seq ?_)
  refine unpB 7 25 h rfl rfl (by decide) rfl (by decide) (by decide) rfl rfl fun w1 h => WN.seq (WC.seq ?_)
  refine unpD 160 24 h (by decide) rfl rfl rfl rfl fun w1 h => WN.seq (WC.seq ?_)
  refine unpC 2 (by kernel_rfl) h rfl rfl rfl (by decide) (by decide) (by decide) (by decide) (by decide) rfl rfl fun w1 h => WN.seq (WC.seq ?_)
  refine unpA 2 h rfl rfl rfl (by decide) (by decide) (by decide) (by decide) rfl rfl fun w1 h => WN.seq (WC.seq ?_)
  refine unpB 29 3 h rfl rfl (by decide) rfl (by decide) (by decide) rfl rfl fun w1 h => WN.seq (WC.seq ?_)
  refine unpD 192 28 h (by decide) rfl rfl rfl rfl fun w1 h => WN.seq (WC.seq ?_)
  refine unpC 24 (by kernel_rfl) h rfl rfl rfl (by decide) (by decide) (by decide) (by decide) (by decide) rfl rfl fun w1 h => WN.seq (WC.seq ?_)
  refine unpB 24 8 h rfl rfl (by decide) rfl (by decide) (by decide) rfl rfl fun w1 h => WN.seq (WC.seq ?_)
  refine unpD 224 32 h (by decide) rfl rfl rfl rfl fun w1 h => WN.seq (WC.seq ?_)
  refine unpC 19 (by kernel_rfl) h rfl rfl rfl (by decide) (by decide) (by decide) (by decide) (by decide) rfl rfl fun w1 h => WN.seq (WC.seq ?_)
  refine unpB 19 13 h rfl rfl (by decide) rfl (by decide) (by decide) rfl rfl fun w1 h => WN.seq (WC.seq ?_)
  refine unpD 256 36 h (by decide) rfl rfl rfl rfl fun w1 h => WN.seq (WC.seq ?_)
  refine unpC 14 (by kernel_rfl) h rfl rfl rfl (by decide) (by decide) (by decide) (by decide) (by decide) rfl rfl fun w1 h => WN.seq (WC.seq ?_)
  refine unpB 14 18 h rfl rfl (by decide) rfl (by decide) (by decide) rfl rfl fun w1 h => WN.seq (WC.seq ?_)
  refine unpD 288 40 h (by decide) rfl rfl rfl rfl fun w1 h => WN.seq (WC.seq ?_)
  refine unpC 9 (by kernel_rfl) h rfl rfl rfl (by decide) (by decide) (by decide) (by decide) (by decide) rfl rfl fun w1 h => WN.seq (WC.seq ?_)
  refine unpB 9 23 h rfl rfl (by decide) rfl (by decide) (by decide) rfl rfl fun w1 h => WN.seq (WC.seq ?_)
  refine unpD 320 44 h (by decide) rfl rfl rfl rfl fun w1 h => WN.seq (WC.seq ?_)
  refine unpC 4 (by kernel_rfl) h rfl rfl rfl (by decide) (by decide) (by decide) (by decide) (by decide) rfl rfl fun w1 h => WN.seq (WC.seq ?_)
  refine unpA 4 h rfl rfl rfl (by decide) (by decide) (by decide) (by decide) rfl rfl fun w1 h => WN.seq (WC.seq ?_)
  refine unpB 31 1 h rfl rfl (by decide) rfl (by decide) (by decide) rfl rfl fun w1 h => WN.seq (WC.seq ?_)
  refine unpD 352 48 h (by decide) rfl rfl rfl rfl fun w1 h => WN.seq (WC.seq ?_)
  refine unpC 26 (by kernel_rfl) h rfl rfl rfl (by decide) (by decide) (by decide) (by decide) (by decide) rfl rfl fun w1 h => WN.seq (WC.seq ?_)
  refine unpB 26 6 h rfl rfl (by decide) rfl (by decide) (by decide) rfl rfl fun w1 h => WN.seq (WC.seq ?_)
  refine unpD 384 52 h (by decide) rfl rfl rfl rfl fun w1 h => WN.seq (WC.seq ?_)
  refine unpC 21 (by kernel_rfl) h rfl rfl rfl (by decide) (by decide) (by decide) (by decide) (by decide) rfl rfl fun w1 h => WN.seq (WC.seq ?_)
  refine unpB 21 11 h rfl rfl (by decide) rfl (by decide) (by decide) rfl rfl fun w1 h => WN.seq (WC.seq ?_)
  refine unpD 416 56 h (by decide) rfl rfl rfl rfl fun w1 h => WN.seq (WC.seq ?_)
  refine unpC 16 (by kernel_rfl) h rfl rfl rfl (by decide) (by decide) (by decide) (by decide) (by decide) rfl rfl fun w1 h => WN.seq (WC.seq ?_)
  refine unpB 16 16 h rfl rfl (by decide) rfl (by decide) (by decide) rfl rfl fun w1 h => WN.seq (WC.seq ?_)
  refine unpD 448 60 h (by decide) rfl rfl rfl rfl fun w1 h => WN.seq (WC.seq ?_)
  refine unpC 11 (by kernel_rfl) h rfl rfl rfl (by decide) (by decide) (by decide) (by decide) (by decide) rfl rfl fun w1 h => WN.seq (WC.seq ?_)
  refine unpB 11 21 h rfl rfl (by decide) rfl (by decide) (by decide) rfl rfl fun w1 h => WN.seq (WC.seq ?_)
  refine unpD 480 64 h (by decide) rfl rfl rfl rfl fun w1 h => WN.seq (WC.seq ?_)
  refine unpC 6 (by kernel_rfl) h rfl rfl rfl (by decide) (by decide) (by decide) (by decide) (by decide) rfl rfl fun w1 h => WN.seq (WC.seq ?_)
  refine unpB 6 26 h rfl rfl (by decide) rfl (by decide) (by decide) rfl rfl fun w1 h => WN.seq (WC.seq ?_)
  refine unpD 512 68 h (by decide) rfl rfl rfl rfl fun w1 h => WN.seq (WC.seq ?_)
  refine unpC 1 (by kernel_rfl) h rfl rfl rfl (by decide) (by decide) (by decide) (by decide) (by decide) rfl rfl fun w1 h => WN.seq (WC.seq ?_)
  refine unpA 1 h rfl rfl rfl (by decide) (by decide) (by decide) (by decide) rfl rfl fun w1 h => WN.seq (WC.seq ?_)
  refine unpB 28 4 h rfl rfl (by decide) rfl (by decide) (by decide) rfl rfl fun w1 h => WN.seq (WC.seq ?_)
  refine unpD 544 72 h (by decide) rfl rfl rfl rfl fun w1 h => WN.seq (WC.seq ?_)
  refine unpC 23 (by kernel_rfl) h rfl rfl rfl (by decide) (by decide) (by decide) (by decide) (by decide) rfl rfl fun w1 h => WN.seq (WC.seq ?_)
  refine unpB 23 9 h rfl rfl (by decide) rfl (by decide) (by decide) rfl rfl fun w1 h => WN.seq (WC.seq ?_)
  refine unpD 576 76 h (by decide) rfl rfl rfl rfl fun w1 h => WN.seq (WC.seq ?_)
  refine unpC 18 (by kernel_rfl) h rfl rfl rfl (by decide) (by decide) (by decide) (by decide) (by decide) rfl rfl fun w1 h => WN.seq (WC.seq ?_)
  refine unpB 18 14 h rfl rfl (by decide) rfl (by decide) (by decide) rfl rfl fun w1 h => WN.seq (WC.seq ?_)
  refine unpD 608 80 h (by decide) rfl rfl rfl rfl fun w1 h => WN.seq (WC.seq ?_)
  refine unpC 13 (by kernel_rfl) h rfl rfl rfl (by decide) (by decide) (by decide) (by decide) (by decide) rfl rfl fun w1 h => WN.seq (WC.seq ?_)
  refine unpB 13 19 h rfl rfl (by decide) rfl (by decide) (by decide) rfl rfl fun w1 h => WN.seq (WC.seq ?_)
  refine unpD 640 84 h (by decide) rfl rfl rfl rfl fun w1 h => WN.seq (WC.seq ?_)
  refine unpC 8 (by kernel_rfl) h rfl rfl rfl (by decide) (by decide) (by decide) (by decide) (by decide) rfl rfl fun w1 h => WN.seq (WC.seq ?_)
  refine unpB 8 24 h rfl rfl (by decide) rfl (by decide) (by decide) rfl rfl fun w1 h => WN.seq (WC.seq ?_)
  refine unpD 672 88 h (by decide) rfl rfl rfl rfl fun w1 h => WN.seq (WC.seq ?_)
  refine unpC 3 (by kernel_rfl) h rfl rfl rfl (by decide) (by decide) (by decide) (by decide) (by decide) rfl rfl fun w1 h => WN.seq (WC.seq ?_)
  refine unpA 3 h rfl rfl rfl (by decide) (by decide) (by decide) (by decide) rfl rfl fun w1 h => WN.seq (WC.seq ?_)
  refine unpB 30 2 h rfl rfl (by decide) rfl (by decide) (by decide) rfl rfl fun w1 h => WN.seq (WC.seq ?_)
  refine unpD 704 92 h (by decide) rfl rfl rfl rfl fun w1 h => WN.seq (WC.seq ?_)
  refine unpC 25 (by kernel_rfl) h rfl rfl rfl (by decide) (by decide) (by decide) (by decide) (by decide) rfl rfl fun w1 h => WN.seq (WC.seq ?_)
  refine unpB 25 7 h rfl rfl (by decide) rfl (by decide) (by decide) rfl rfl fun w1 h => WN.seq (WC.seq ?_)
  refine unpD 736 96 h (by decide) rfl rfl rfl rfl fun w1 h => WN.seq (WC.seq ?_)
  refine unpC 20 (by kernel_rfl) h rfl rfl rfl (by decide) (by decide) (by decide) (by decide) (by decide) rfl rfl fun w1 h => WN.seq (WC.seq ?_)
  refine unpB 20 12 h rfl rfl (by decide) rfl (by decide) (by decide) rfl rfl fun w1 h => WN.seq (WC.seq ?_)
  refine unpD 768 100 h (by decide) rfl rfl rfl rfl fun w1 h => WN.seq (WC.seq ?_)
  refine unpC 15 (by kernel_rfl) h rfl rfl rfl (by decide) (by decide) (by decide) (by decide) (by decide) rfl rfl fun w1 h => WN.seq (WC.seq ?_)
  refine unpB 15 17 h rfl rfl (by decide) rfl (by decide) (by decide) rfl rfl fun w1 h => WN.seq (WC.seq ?_)
  refine unpD 800 104 h (by decide) rfl rfl rfl rfl fun w1 h => WN.seq (WC.seq ?_)
  refine unpC 10 (by kernel_rfl) h rfl rfl rfl (by decide) (by decide) (by decide) (by decide) (by decide) rfl rfl fun w1 h => WN.seq (WC.seq ?_)
  refine unpB 10 22 h rfl rfl (by decide) rfl (by decide) (by decide) rfl rfl fun w1 h => WN.seq (WC.seq ?_)
  refine unpD 832 108 h (by decide) rfl rfl rfl rfl fun w1 h => WN.seq (WC.seq ?_)
  refine unpC 5 (by kernel_rfl) h rfl rfl rfl (by decide) (by decide) (by decide) (by decide) (by decide) rfl rfl ?_
  intro w1 h
  refine WN.seq ?_
  refine unpB 5 27 h rfl rfl (by decide) rfl (by decide) (by decide) rfl rfl ?_
  intro w1 h
  replace h := h.next (by decide)
  refine WN.endR rfl rfl ?_
  exact h.done

theorem unpk29 (p : UP) {w : World} (h : UIn p 29 w) :
    Ret Tryz.prog 112 #[.iface 120 (.pointer (some ⟨p.rb, p.rb.off, none⟩)), .slice (some ⟨p.g, p.o, none⟩) p.dl p.dc] w (unpR p 29 w) := by
  refine Ret.enter (vs := [.iface 120 (.pointer (some ⟨p.rb, p.rb.off, none⟩)), .slice (some ⟨p.g, p.o, none⟩) p.dl p.dc]) Tryz.func112 Tryz.ntmps112 rfl rfl ?_
  refine WC.seq (WC.region ?_)
  refine WR.alloc zvU rfl rfl ?_
  intro w1 hn _
  refine WR.nil ?_
  replace h := US.start h hn
  refine WN.weak (L3 p w.heap.size) ⟨rfl, rfl, rfl, trivial⟩ ?_
  clear hn
  revert h; generalize w.heap.size = b; intro h
  refine WN.seq (WC.seq ?_)
  refine unpD 0 4 h (by decide) rfl rfl rfl rfl fun w1 h => WN.seq (WC.seq ?_)
  refine unpA 0 h rfl rfl rfl (by decide) (by decide) (by decide) (by decide) rfl rfl fun w1 h => WN.seq (WC.seq ?_)
  refine unpB 29 3 h rfl rfl (by decide) rfl (by decide) (by decide) rfl rfl fun w1 h => WN.seq (WC.seq ?_)
  refine unpD 32 8 h (by decide) rfl rfl rfl rfl fun w1 h => WN.seq (WC.seq ?_)
  refine unpC 26 (by kernel_rfl) h rfl rfl rfl (by decide) (by decide) (by decide) (by decide) (by decide) rfl rfl fun w1 h => WN.seq (WC.seq ?_)
  refine unpB 26 6 h rfl rfl (by decide) rfl (by decide) (by decide) rfl rfl fun w1 h => WN.seq (WC.seq ?_)
  refine unpD 64 12 h (by decide) rfl rfl rfl rfl fun w1 h => WN.seq (WC.seq ?_)
  refine unpC 23 (by kernel_rfl) h rfl rfl rfl (by decide) (by decide) (by decide) (by decide) (by decide) rfl rfl fun w1 h => WN.seq (WC.seq ?_)
  refine unpB 23 9 h rfl rfl (by decide) rfl (by decide) (by decide) rfl rfl fun w1 h => WN.seq (WC.seq ?_)
  refine unpD 96 16 h (by decide) rfl rfl rfl rfl fun w1 h => WN.seq (WC.seq ?_)
  refine unpC 20 (by kernel_rfl) h rfl rfl rfl (by decide) (by decide) (by decide) (by decide) (by decide) rfl rfl fun w1 h => WN.seq (WC.seq ?_)
  refine unpB 20 12 h rfl rfl (by decide) rfl (by decide) (by decide) rfl rfl fun w1 h => WN.seq (WC.seq ?_)
  refine unpD 128 20 h (by decide) rfl rfl rfl rfl fun w1 h => WN.seq (WC.seq ?_)
  refine unpC 17 (by kernel_rfl) h rfl rfl rfl (by decide) (by decide) (by decide) (by decide) (by decide) rfl rfl fun w1 h => WN.seq (WC.seq ?_)
  refine unpB 17 15 h rfl rfl (by decide) rfl (by decide) (by decide) rfl rfl fun w1 h => WN.seq (WC.seq ?_)
  refine unpD 160 24 h (by decide) rfl rfl rfl rfl fun w1 h => WN.seq (WC.seq ?_)
  refine unpC 14 (by kernel_rfl) h rfl rfl rfl (by decide) (by decide) (by decide) (by decide) (by decide) rfl rfl fun w1 h => WN.seq (WC.seq ?_)
  refine unpB 14 18 h rfl rfl (by decide) rfl (by decide) (by decide) rfl rfl fun w1 h => WN.seq (WC.seq ?_)
  refine unpD 192 28 h (by decide) rfl rfl rfl rfl fun w1 h => WN.seq (WC.seq ?_)
  refine unpC 11 (by kernel_rfl) h rfl rfl rfl (by decide) (by decide) (by decide) (by decide) (by decide) rfl rfl fun w1 h => WN.seq (WC.seq ?_)
  refine unpB 11 21 h rfl rfl (by decide) rfl (by decide) (by decide) rfl rfl fun w1 h => WN.seq (WC.seq ?_)
  refine unpD 224 32 h (by decide) rfl rfl rfl rfl fun w1 h => WN.seq (WC.seq ?_)
  refine unpC 8 (by kernel_rfl) h rfl rfl rfl (by decide) (by decide) (by decide) (by decide) (by decide) rfl rfl fun w1 h => WN.seq (WC.seq ?_)
  refine unpB 8 24 h rfl rfl (by decide) rfl (by decide) (by decide) rfl rfl fun w1 h => WN.seq (WC.seq ?_)
  refine unpD 256 36 h (by decide) rfl rfl rfl rfl fun w1 h => WN.seq (WC.seq ?_)
  refine unpC 5 (by kernel_rfl) h rfl rfl rfl (by decide) (by decide) (by decide) (by decide) (by decide) rfl rfl fun w1 h => WN.seq (WC.seq ?_)
  refine unpB 5 27 h rfl rfl (by decide) rfl (by decide) (by decide) rfl rfl fun w1 h => WN.seq (WC.seq ?_)
  refine unpD 288 40 h (by decide) rfl rfl rfl rfl fun w1 h => WN.seq (WC.seq ?_)
  refine unpC 2 (by kernel_rfl) h rfl rfl rfl (by decide) (by decide) (by decide) (by decide) (by decide) rfl rfl fun w1 h => WN.seq (WC.seq ?_)
  refine unpA 2 h rfl rfl rfl (by decide) (by decide) (by decide) (by decide) rfl rfl fun w1 h => WN.seq (WC.seq ?_)
  refine unpB 31 1 h rfl rfl (by decide) rfl (by decide) (by decide) rfl rfl fun w1 h => WN.seq (WC.seq ?_)
  refine unpD 320 44 h (by decide) rfl rfl rfl rfl fun w1 h => WN.seq (WC.seq ?_)
  refine unpC 28 (by kernel_rfl) h rfl rfl rfl (by decide) (by decide) (by decide) (by decide) (by decide) rfl rfl fun w1 h => WN.seq (WC.seq ?_)
  refine unpB 28 4 h rfl rfl (by decide) rfl (by decide) (by decide) rfl rfl fun w1 h => WN.seq (WC.seq ?_)
  refine unpD 352 48 h (by decide) rfl rfl rfl rfl fun w1 h => WN.seq (WC.seq ?_)
  refine unpC 25 (by kernel_rfl) h rfl rfl rfl (by decide) (by decide) (by decide) (by decide) (by decide) rfl rfl fun w1 h => WN.seq (WC.seq ?_)
  refine unpB 25 7 h rfl rfl (by decide) rfl (by decide) (by decide) rfl rfl fun w1 h => WN.seq (WC.seq ?_)
  refine unpD 384 52 h (by decide) rfl rfl rfl rfl fun w1 h => WN.seq (WC.seq ?_)
  refine unpC 22 (by kernel_rfl) h rfl rfl rfl (by decide) (by decide) (by decide) (by decide) (by decide) rfl rfl fun w1 h => WN.seq (WC.seq ?_)
  refine unpB 22 10 h rfl rfl (by decide) rfl (by decide) (by decide) rfl rfl fun w1 h => WN.seq (WC.seq ?_)
  refine unpD 416 56 h (by decide) rfl rfl rfl rfl fun w1 h => WN.seq (WC.seq ?_)
  refine unpC 19 (by kernel_rfl) h rfl rfl rfl (by decide) (by decide) (by decide) (by decide) (by decide) rfl rfl fun w1 h => WN.seq (WC.seq ?_)
  refine unpB 19 13 h rfl rfl (by decide) rfl (by decide) (by decide) rfl rfl fun w1 h => WN.seq (WC.seq ?_)
  refine unpD 448 60 h (by decide) rfl rfl rfl rfl fun w1 h => WN.seq (WC.seq ?_)
  refine unpC 16 (by kernel_rfl) h rfl rfl rfl (by decide) (by decide) (by decide) (by decide) (by decide) rfl rfl fun w1 h => WN.seq (WC.seq ?_)
  refine unpB 16 16 h rfl rfl (by decide) rfl (by decide) (by decide) rfl rfl fun w1 h => WN.seq (WC.seq ?_)
  refine unpD 480 64 h (by decide) rfl rfl rfl rfl fun w1 h => WN.seq (WC.seq ?_)
  refine unpC 13 (by kernel_rfl) h rfl rfl rfl (by decide) (by decide) (by decide) (by decide) (by decide) rfl rfl fun w1 h => WN.seq (WC.seq ?_)
  refine unpB 13 19 h rfl rfl (by decide) rfl (by decide) (by decide) rfl rfl fun w1 h => WN.seq (WC.seq ?_)
  refine unpD 512 68 h (by decide) rfl rfl rfl rfl fun w1 h => WN.seq (WC.seq ?_)
  refine unpC 10 (by kernel_rfl) h rfl rfl rfl (by decide) (by decide) (by decide) (by decide) (by decide) rfl rfl fun w1 h => WN.seq (WC.seq ?_)
  refine unpB 10 22 h rfl rfl (by decide) rfl (by decide) (by decide) rfl rfl fun w1 h => WN.seq (WC.seq ?_)
  refine unpD 544 72 h (by decide) rfl rfl rfl rfl fun w1 h => WN.seq (WC.seq ?_)
  refine unpC 7 (by kernel_rfl) h rfl rfl rfl (by decide) (by decide) (by decide) (by decide) (by decide) rfl rfl fun w1 h => WN.seq (WC.seq ?_)
  refine unpB 7 25 h rfl rfl (by decide) rfl (by decide) (by decide) rfl rfl fun w1 h => WN.seq (WC.seq ?_)
  refine unpD 576 76 h (by decide) rfl rfl rfl rfl fun w1 h => WN.seq (WC.seq ?_)
  refine unpC 4 (by kernel_rfl) h rfl rfl rfl (by decide) (by decide) (by decide) (by decide) (by decide) rfl rfl fun w1 h => WN.seq (WC.seq ?_)
  refine unpB 4 28 h rfl rfl (by decide) rfl (by decide) (by decide) rfl rfl fun w1 h => WN.seq (WC.seq ?_)
  refine unpD 608 80 h (by decide) rfl rfl rfl rfl fun w1 h => WN.seq (WC.seq ?_)
  refine unpC 1 (by kernel_rfl) h rfl rfl rfl (by decide) (by decide) (by decide) (by decide) (by decide) rfl rfl fun w1 h => WN.seq (WC.seq ?_)
  refine unpA 1 h rfl rfl rfl (by decide) (by decide) (by decide) (by decide) rfl rfl fun w1 h => WN.seq (WC.seq ?_)
  refine unpB 30 2 h rfl rfl (by decide) rfl (by decide) (by decide) rfl rfl fun w1 h => WN.seq (WC.seq ?_)
  refine unpD 640 84 h (by decide) rfl rfl rfl rfl fun w1 h => WN.seq (WC.seq ?_)
  refine unpC 27 (by kernel_rfl) h rfl rfl rfl (by decide) (by decide) (by decide) (by decide) (by decide) rfl rfl fun w1 h => WN.seq (WC.seq ?_)
  refine unpB 27 5 h rfl rfl (by decide) rfl (by decide) (by decide) rfl rfl fun w1 h => WN.seq (WC.seq ?_)
  refine unpD 672 88 h (by decide) rfl rfl rfl rfl fun w1 h => WN.seq (WC.seq ?_)
  refine unpC 24 (by kernel_rfl) h rfl rfl rfl (by decide) (by decide) (by decide) (by decide) (by decide) rfl rfl fun w1 h => WN.seq (WC.seq ?_)
  refine unpB 24 8 h rfl rfl (by decide) rfl (by decide) (by decide) rfl rfl fun w1 h => WN.seq (WC.seq ?_)
  refine unpD 704 92 h (by decide) rfl rfl rfl rfl fun w1 h => WN.seq (WC.seq ?_)
  refine unpC 21 (by kernel_rfl) h rfl rfl rfl (by decide) (by decide) (by decide) (by decide) (by decide) rfl rfl fun w1 h => WN.seq (WC.seq ?_)
  refine unpB 21 11 h rfl rfl (by decide) rfl (by decide) (by decide) rfl rfl fun w1 h => WN.seq (WC.seq ?_)
  refine unpD 736 96 h (by decide) rfl rfl rfl rfl fun w1 h => WN.seq (WC.seq ?_)
  refine unpC 18 (by kernel_rfl) h rfl rfl rfl (by decide) (by decide) (by decide) (by decide) (by decide) rfl rfl fun w1 h => WN.seq (WC.seq ?_)
  refine unpB 18 14 h rfl rfl (by decide) rfl (by decide) (by decide) rfl rfl fun w1 h => WN.seq (WC.seq ?_)
  refine unpD 768 100 h (by decide) rfl rfl rfl rfl fun w1 h => WN.seq (WC.seq ?_)
  refine unpC 15 (by kernel_rfl) h rfl rfl rfl (by decide) (by decide) (by decide) (by decide) (by decide) rfl rfl fun w1 h => WN.seq (WC.seq ?_)
  refine unpB 15 17 h rfl rfl (by decide) rfl (by decide) (by decide) rfl rfl fun w1 h => WN.seq (WC.seq ?_)
  refine unpD 800 104 h (by decide) rfl rfl rfl rfl fun w1 h => WN.seq (WC.seq ?_)
  refine unpC 12 (by kernel_rfl) h rfl rfl rfl (by decide) (by decide) (by decide) (by decide) (by decide) rfl rfl fun w1 h => WN.seq (WC.seq ?_)
  refine unpB 12 20 h rfl rfl (by decide) rfl (by decide) (by decide) rfl rfl fun w1 h => WN.seq (WC.seq ?_)
  refine unpD 832 108 h (by decide) rfl rfl rfl rfl fun w1 h => WN.seq (WC.seq ?_)
  refine unpC 9 (by kernel_rfl) h rfl rfl rfl (by decide) (by decide) (by decide) (by decide) (by decide) rfl rfl fun w1 h => WN.seq (WC.seq ?_)
  refine unpB 9 23 h rfl rfl (by decide) rfl (by decide) (by decide) rfl rfl fun w1 h => WN.seq (WC.seq ?_)
  refine unpD 864 112 h (by decide) rfl rfl rfl rfl fun w1 h => WN.seq (WC.seq ?_)
  refine unpC 6 (by kernel_rfl) h rfl rfl rfl (by decide) (by decide) (by decide) (by decide) (by decide) rfl rfl fun w1 h => WN.seq (WC.seq ?_)
  refine unpB 6 26 h rfl rfl (by decide) rfl (by decide) (by decide) rfl rfl fun w1 h => WN.seq (WC.seq ?_)
  refine unpD 896 116 h (by decide) rfl rfl rfl rfl fun w1 h => WN.seq (WC.seq ?_)
  refine unpC 3 (by kernel_rfl) h rfl rfl rfl (by decide) (by decide) (by decide) (by decide) (by decide) rfl rfl ?_
  intro w1 h
  refine WN.seq ?_
  refine unpB 3 29 h rfl rfl (by decide) rfl (by decide) (by decide) rfl rfl ?_
  intro w1 h
  replace h := h.next (by decide)
  refine WN.endR rfl rfl ?_
  exact h.done

theorem unpk30 (p : UP) {w : World} (h : UIn p 30 w) :
    Ret Tryz.prog 113 #[.iface 120 (.pointer (some ⟨p.rb, p.rb.off, none⟩)), .slice (some ⟨p.g, p.o, none⟩) p.dl p.dc] w (unpR p 30 w) := by
  refine Ret.enter (vs := [.iface 120 (.pointer (some ⟨p.rb, p.rb.off, none⟩)), .slice (some ⟨p.g, p.o, none⟩) p.dl p.dc]) Tryz.func113 Tryz.ntmps113 rfl rfl ?_
  refine WC.seq (WC.region ?_)
  refine WR.alloc zvU rfl rfl ?_
  intro w1 hn _
  refine WR.nil ?_
  replace h := US.start h hn
  refine WN.weak (L3 p w.heap.size) ⟨rfl, rfl, rfl, trivial⟩ ?_
  clear hn
  revert h; generalize w.heap.size = b; intro h
  refine WN.seq (WC.seq ?_)
  refine unpD 0 4 h (by decide) rfl rfl rfl rfl fun w1 h => WN.seq (WC.seq ?_)
  refine unpA 0 h rfl rfl rfl (by decide) (by decide) (by decide) (by decide) rfl rfl fun w1 h => WN.seq (WC.seq ?_)
  refine unpB 30 2 h rfl rfl (by decide) rfl (by decide) (by decide) rfl rfl fun w1 h => WN.seq (WC.seq ?_)
  refine unpD 32 8 h (by decide) rfl rfl rfl rfl fun w1 h => WN.seq (WC.seq ?_)
  refine unpC 28 (by kernel_rfl) h rfl rfl rfl (by decide) (by decide) (by decide) (by decide) (by decide) rfl rfl fun w1 h => WN.seq (WC.seq ?_)
  refine unpB 28 4 h rfl rfl (by decide) rfl (by decide) (by decide) rfl rfl fun w1 h => WN.seq (WC.seq ?_)
  refine unpD 64 12 h (by decide) rfl rfl rfl rfl fun w1 h => WN.seq (WC.seq ?_)
  refine unpC 26 (by kernel_rfl) h rfl rfl rfl (by decide) (by decide) (by decide) (by decide) (by decide) rfl rfl fun w1 h => WN.seq (WC.seq ?_)
  refine unpB 26 6 h rfl rfl (by decide) rfl (by decide) (by decide) rfl rfl fun w1 h => WN.seq (WC.seq ?_)
  refine unpD 96 16 h (by decide) rfl rfl rfl rfl fun w1 h => WN.seq (WC.seq ?_)
  refine unpC 24 (by kernel_rfl) h rfl rfl rfl (by decide) (by decide) (by decide) (by decide) (by decide) rfl rfl fun w1 h => WN.seq (WC.seq ?_)
  refine unpB 24 8 h rfl rfl (by decide) rfl (by decide) (by decide) rfl rfl fun w1 h => WN.seq (WC.seq ?_)
  refine unpD 128 20 h (by decide) rfl rfl rfl rfl fun w1 h => WN.seq (WC.seq ?_)
  refine unpC 22 (by kernel_rfl) h rfl rfl rfl (by decide) (by decide) (by decide) (by decide) (by decide) rfl rfl fun w1 h => WN.seq (WC.seq ?_)
  refine unpB 22 10 h rfl rfl (by decide) rfl (by decide) (by decide) rfl rfl fun w1 h => WN.seq (WC.seq ?_)
  refine unpD 160 24 h (by decide) rfl rfl rfl rfl fun w1 h => WN.seq (WC.seq ?_)
  refine unpC 20 (by kernel_rfl) h rfl rfl rfl (by decide) (by decide) (by decide) (by decide) (by decide) rfl rfl fun w1 h => WN.seq (WC.seq ?_)
  refine unpB 20 12 h rfl rfl (by decide) rfl (by decide) (by decide) rfl rfl fun w1 h => WN.seq (WC.seq ?_)
  refine unpD 192 28 h (by decide) rfl rfl rfl rfl fun w1 h => WN.seq (WC.seq ?_)
  refine unpC 18 (by kernel_rfl) h rfl rfl rfl (by decide) (by decide) (by decide) (by decide) (by decide) rfl rfl fun w1 h => WN.seq (WC.seq ?_)
  refine unpB 18 14 h rfl rfl (by decide) rfl (by decide) (by decide) rfl rfl fun w1 h => WN.seq (WC.seq ?_)
  refine unpD 224 32 h (by decide) rfl rfl rfl rfl fun w1 h => WN.seq (WC.seq ?_)
  refine unpC 16 (by kernel_rfl) h rfl rfl rfl (by decide) (by decide) (by decide) (by decide) (by decide) rfl rfl fun w1 h => WN.seq (WC.seq ?_)
  refine unpB 16 16 h rfl rfl (by decide) rfl (by decide) (by decide) rfl rfl fun w1 h => WN.seq (WC.seq ?_)
  refine unpD 256 36 h (by decide) rfl rfl rfl rfl fun w1 h => WN.seq (WC.seq ?_)
  refine unpC 14 (by kernel_rfl) h rfl rfl rfl (by decide) (by decide) (by decide) (by decide) (by decide) rfl rfl fun w1 h => WN.seq (WC.seq ?_)
  refine unpB 14 18 h rfl rfl (by decide) rfl (by decide) (by decide) rfl rfl fun w1 h => WN.seq (WC.seq ?_)
  refine unpD 288 40 h (by decide) rfl rfl rfl rfl fun w1 h => WN.seq (WC.seq ?_)
  refine unpC 12 (by kernel_rfl) h rfl rfl rfl (by decide) (by decide) (by decide) (by decide) (by decide) rfl rfl fun w1 h => WN.seq (WC.seq ?_)
  refine unpB 12 20 h rfl rfl (by decide) rfl (by decide) (by decide) rfl rfl fun w1 h => WN.seq (WC.seq ?_)
  refine unpD 320 44 h (by decide) rfl rfl rfl rfl fun w1 h => WN.seq (WC.seq ?_)
  refine unpC 10 (by kernel_rfl) h rfl rfl rfl (by decide) (by decide) (by decide) (by decide) (by decide) rfl rfl fun w1 h => WN.seq (WC.seq ?_)
  refine unpB 10 22 h rfl rfl (by decide) rfl (by decide) (by decide) rfl rfl fun w1 h => WN.seq (WC.seq ?_)
  refine unpD 352 48 h (by decide) rfl rfl rfl rfl fun w1 h => WN.seq (WC.seq ?_)
  refine unpC 8 (by kernel_rfl) h rfl rfl rfl (by decide) (by decide) (by decide) (by decide) (by decide) rfl rfl fun w1 h => WN.seq (WC.seq ?_)
  refine unpB 8 24 h rfl rfl (by decide) rfl (by decide) (by decide) rfl rfl fun w1 h => WN.seq (WC.seq ?_)
  refine unpD 384 52 h (by decide) rfl rfl rfl rfl fun w1 h => WN.seq (WC.seq ?_)
  refine unpC 6 (by kernel_rfl) h rfl rfl rfl (by decide) (by decide) (by decide) (by decide) (by decide) rfl rfl fun w1 h => WN.seq (WC.seq ?_)
  refine unpB 6 26 h rfl rfl (by decide) rfl (by decide) (by decide) rfl rfl fun w1 h => WN.seq (WC.seq ?_)
  refine unpD 416 56 h (by decide) rfl rfl rfl rfl fun w1 h => WN.seq (WC.seq ?_)
  refine unpC 4 (by kernel_rfl) h rfl rfl rfl (by decide) (by decide) (by decide) (by decide) (by decide) rfl rfl fun w1 h => WN.seq (WC.seq ?_)
  refine unpB 4 28 h rfl rfl (by decide) rfl (by decide) (by decide) rfl rfl fun w1 h => WN.seq (WC.seq ?_)
  refine unpD 448 60 h (by decide) rfl rfl rfl rfl fun w1 h => WN.seq (WC.seq ?_)
  refine unpC 2 (by kernel_rfl) h rfl rfl rfl (by decide) (by decide) (by decide) (by decide) (by decide) rfl rfl fun w1 h => WN.seq (WC.seq ?_)
  refine unpB 2 30 h rfl rfl (by decide) rfl (by decide) (by decide) rfl rfl ?_
  intro w1 h
  replace h := h.next (by decide)
  refine WN.seq (WC.seq ?_)
  refine unpD 480 64 h (by decide) rfl rfl rfl rfl fun w1 h => WN.seq (WC.seq ?_)
  refine unpA 0 h rfl rfl rfl (by decide) (by decide) (by decide) (by decide) rfl rfl fun w1 h => WN.seq (WC.seq ?_)
  refine unpB 30 2 h rfl rfl (by decide) rfl (by decide) (by decide) rfl rfl fun w1 h => WN.seq (WC.seq ?_)
  refine unpD 512 68 h (by decide) rfl rfl rfl rfl fun w1 h => WN.seq (WC.seq ?_)
  refine unpC 28 (by kernel_rfl) h rfl rfl rfl (by decide) (by decide) (by decide) (by decide) (by decide) rfl rfl fun w1 h => WN.seq (WC.seq ?_)
  refine unpB 28 4 h rfl rfl (by decide) rfl (by decide) (by decide) rfl rfl fun w1 h => WN.seq (WC.seq ?_)
  refine unpD 544 72 h (by decide) rfl rfl rfl rfl fun w1 h => WN.seq (WC.seq ?_)
  refine unpC 26 (by kernel_rfl) h rfl rfl rfl (by decide) (by decide) (by decide) (by decide) (by decide) rfl rfl fun w1 h => WN.seq (WC.seq ?_)
  refine unpB 26 6 h rfl rfl (by decide) rfl (by decide) (by decide) rfl rfl fun w1 h => WN.seq (WC.seq ?_)
  refine unpD 576 76 h (by decide) rfl rfl rfl rfl fun w1 h => WN.seq (WC.seq ?_)
  refine unpC 24 (by kernel_rfl) h rfl rfl rfl (by decide) (by decide) (by decide) (by decide) (by decide) rfl rfl fun w1 h => WN.seq (WC.seq ?_)
  refine unpB 24 8 h rfl rfl (by decide) rfl (by decide) (by decide) rfl rfl fun w1 h => WN.seq (WC.seq ?_)
  refine unpD 608 80 h (by decide) rfl rfl rfl rfl fun w1 h => WN.seq (WC.seq ?_)
  refine unpC 22 (by kernel_rfl) h rfl rfl rfl (by decide) (by decide) (by decide) (by decide) (by decide) rfl rfl fun w1 h => WN.seq (WC.seq ?_)
  refine unpB 22 10 h rfl rfl (by decide) rfl (by decide) (by decide) rfl rfl fun w1 h => WN.seq (WC.seq ?_)
  refine unpD 640 84 h (by decide) rfl rfl rfl rfl fun w1 h => WN.seq (WC.seq ?_)
  refine unpC 20 (by kernel_rfl) h rfl rfl rfl (by decide) (by decide) (by decide) (by decide) (by decide) rfl rfl fun w1 h => WN.seq (WC.seq ?_)
  refine unpB 20 12 h rfl rfl (by decide) rfl (by decide) (by decide) rfl rfl fun w1 h => WN.seq (WC.seq ?_)
  refine unpD 672 88 h (by decide) rfl rfl rfl rfl fun w1 h => WN.seq (WC.seq ?_)
  refine unpC 18 (by kernel_rfl) h rfl rfl rfl (by decide) (by decide) (by decide) (by decide) (by decide) rfl rfl fun w1 h => WN.seq (WC.seq ?_)
  refine unpB 18 14 h rfl rfl (by decide) rfl (by decide) (by decide) rfl rfl fun w1 h => WN.seq (WC.seq ?_)
  refine unpD 704 92 h (by decide) rfl rfl rfl rfl fun w1 h => WN.seq (WC.seq ?_)
  refine unpC 16 (by kernel_rfl) h rfl rfl rfl (by decide) (by decide) (by decide) (by decide) (by decide) rfl rfl fun w1 h => WN.seq (WC.seq ?_)
  refine unpB 16 16 h rfl rfl (by decide) rfl (by decide) (by decide) rfl rfl fun w1 h => WN.seq (WC.seq ?_)
  refine unpD 736 96 h (by decide) rfl rfl rfl rfl fun w1 h => WN.seq (WC.seq ?_)
  refine unpC 14 (by kernel_rfl) h rfl rfl rfl (by decide) (by decide) (by decide) (by decide) (by decide) rfl rfl fun w1 h => WN.seq (WC.seq ?_)
  refine unpB 14 18 h rfl rfl (by decide) rfl (by decide) (by decide) rfl rfl fun w1 h => WN.seq (WC.seq ?_)
  refine unpD 768 100 h (by decide) rfl rfl rfl rfl fun w1 h => WN.seq (WC.seq ?_)
  refine unpC 12 (by kernel_rfl) h rfl rfl rfl (by decide) (by decide) (by decide) (by decide) (by decide) rfl rfl fun w1 h => WN.seq (WC.seq ?_)
  refine unpB 12 20 h rfl rfl (by decide) rfl (by decide) (by decide) rfl rfl fun w1 h => WN.seq (WC.seq ?_)
  refine unpD 800 104 h (by decide) rfl rfl rfl rfl fun w1 h => WN.seq (WC.seq ?_)
  refine unpC 10 (by kernel_rfl) h rfl rfl rfl (by decide) (by decide) (by decide) (by decide) (by decide) rfl rfl fun w1 h => WN.seq (WC.seq ?_)
  refine unpB 10 22 h rfl rfl (by decide) rfl (by decide) (by decide) rfl rfl fun w1 h => WN.seq (WC.seq ?_)
  refine unpD 832 108 h (by decide) rfl rfl rfl rfl fun w1 h => WN.seq (WC.seq ?_)
  refine unpC 8 (by kernel_rfl) h rfl rfl rfl (by decide) (by decide) (by decide) (by decide) (by decide) rfl rfl fun w1 h => WN.seq (WC.seq ?_)
  refine unpB 8 24 h rfl rfl (by decide) rfl (by decide) (by decide) rfl rfl fun w1 h => WN.seq (WC.seq ?_)
  refine unpD 864 112 h (by decide) rfl rfl rfl rfl fun w1 h => WN.seq (WC.seq ?_)
  refine unpC 6 (by kernel_rfl) h rfl rfl rfl (by decide) (by decide) (by decide) (by decide) (by decide) rfl rfl fun w1 h => WN.seq (WC.seq ?_)
  refine unpB 6 26 h rfl rfl (by decide) rfl (by decide) (by decide) rfl rfl fun w1 h => WN.seq (WC.seq ?_)
  refine unpD 896 116 h (by decide) rfl rfl rfl rfl fun w1 h => WN.seq (WC.seq ?_)
  refine unpC 4 (by kernel_rfl) h rfl rfl rfl (by decide) (by decide) (by decide) (by decide) (by decide) rfl rfl fun w1 h => WN.seq (WC.seq ?_)
  refine unpB 4 28 h rfl rfl (by decide) rfl (by decide) (by decide) rfl rfl fun w1 h => WN.seq (WC.seq ?_)
  refine unpD 928 120 h (by decide) rfl rfl rfl rfl fun w1 h => WN.seq (WC.seq ?_)
  refine unpC 2 (by kernel_rfl) h rfl rfl rfl (by decide) (by decide) (by decide) (by decide) (by decide) rfl rfl ?_
  intro w1 h
  refine WN.seq ?_
  refine unpB 2 30 h rfl rfl (by decide) rfl (by decide) (by decide) rfl rfl ?_
  intro w1 h
  replace h := h.next (by decide)
  refine WN.endR rfl rfl ?_
  exact h.done

theorem unpk31 (p : UP) {w : World} (h : UIn p 31 w) :
    Ret Tryz.prog 114 #[.iface 120 (.pointer (some ⟨p.rb, p.rb.off, none⟩)), .slice (some ⟨p.g, p.o, none⟩) p.dl p.dc] w (unpR p 31 w) := by
  refine Ret.enter (vs := [.iface 120 (.pointer (some ⟨p.rb, p.rb.off, none⟩)), .slice (some ⟨p.g, p.o, none⟩) p.dl p.dc]) Tryz.func114 Tryz.ntmps114 rfl rfl ?_
  refine WC.seq (WC.region ?_)
  refine WR.alloc zvU rfl rfl ?_
  intro w1 hn _
  refine WR.nil ?_
  replace h := US.start h hn
  refine WN.weak (L3 p w.heap.size) ⟨rfl, rfl, rfl, trivial⟩ ?_
  clear hn
  revert h; generalize w.heap.size = b; intro h
  refine WN.seq (WC.seq ?_)
  refine unpD 0 4 h (by decide) rfl rfl rfl rfl fun w1 h => WN.seq (WC.seq ?_)
  refine unpA 0 h rfl rfl rfl (by decide) (by decide) (by decide) (by decide) rfl rfl fun w1 h => WN.seq (WC.seq ?_)
  refine unpB 31 1 h rfl rfl (by decide) rfl (by decide) (by decide) rfl rfl fun w1 h => WN.seq (WC.seq ?_)
  refine unpD 32 8 h (by decide) rfl rfl rfl rfl fun w1 h => WN.seq (WC.seq ?_)
  refine unpC 30 (by kernel_rfl) h rfl rfl rfl (by decide) (by decide) (by decide) (by decide) (by decide) rfl rfl fun w1 h => WN.seq (WC.seq ?_)
  refine unpB 30 2 h rfl rfl (by decide) rfl (by decide) (by decide) rfl rfl fun w1 h => WN.seq (WC.seq ?_)
  refine unpD 64 12 h (by decide) rfl rfl rfl rfl fun w1 h => WN.seq (WC.seq ?_)
  refine unpC 29 (by kernel_rfl) h rfl rfl rfl (by decide) (by decide) (by decide) (by decide) (by decide) rfl rfl fun w1 h => WN.seq (WC.seq ?_)
  refine unpB 29 3 h rfl rfl (by decide) rfl (by decide) (by decide) rfl rfl fun w1 h => WN.seq (WC.seq ?_)
  refine unpD 96 16 h (by decide) rfl rfl rfl rfl fun w1 h => WN.seq (WC.seq ?_)
  refine unpC 28 (by kernel_rfl) h rfl rfl rfl (by decide) (by decide) (by decide) (by decide) (by decide) rfl rfl fun w1 h => WN.seq (WC.seq ?_)
  refine unpB 28 4 h rfl rfl (by decide) rfl (by decide) (by decide) rfl rfl fun w1 h => WN.seq (WC.seq ?_)
  refine unpD 128 20 h (by decide) rfl rfl rfl rfl fun w1 h => WN.seq (WC.seq ?_)
  refine unpC 27 (by kernel_rfl) h rfl rfl rfl (by decide) (by decide) (by decide) (by decide) (by decide) rfl rfl fun w1 h => WN.seq (WC.seq ?_)
  refine unpB 27 5 h rfl rfl (by decide) rfl (by decide) (by decide) rfl rfl fun w1 h => WN.seq (WC.seq ?_)
  refine unpD 160 24 h (by decide) rfl rfl rfl rfl fun w1 h => WN.seq (WC.seq ?_)
  refine unpC 26 (by kernel_rfl) h rfl rfl rfl (by decide) (by decide) (by decide) (by decide) (by decide) rfl rfl fun w1 h => WN.seq (WC.seq ?_)
  refine unpB 26 6 h rfl rfl (by decide) rfl (by decide) (by decide) rfl rfl fun w1 h => WN.seq (WC.seq ?_)
  refine unpD 192 28 h (by decide) rfl rfl rfl rfl fun w1 h => WN.seq (WC.seq ?_)
  refine unpC 25 (by kernel_rfl) h rfl rfl rfl (by decide) (by decide) (by decide) (by decide) (by decide) rfl rfl fun w1 h => WN.seq (WC.seq ?_)
  refine unpB 25 7 h rfl rfl (by decide) rfl (by decide) (by decide) rfl rfl fun w1 h => WN.seq (WC.seq ?_)
  refine unpD 224 32 h (by decide) rfl rfl rfl rfl fun w1 h => WN.seq (WC.seq ?_)
  refine unpC 24 (by kernel_rfl) h rfl rfl rfl (by decide) (by decide) (by decide) (by decide) (by decide) rfl rfl fun w1 h => WN.seq (WC.seq ?_)
  refine unpB 24 8 h rfl rfl (by decide) rfl (by decide) (by decide) rfl rfl fun w1 h => WN.seq (WC.seq ?_)
  refine unpD 256 36 h (by decide) rfl rfl rfl rfl fun w1 h => WN.seq (WC.seq ?_)
  refine unpC 23 (by kernel_rfl) h rfl rfl rfl (by decide) (by decide) (by decide) (by decide) (by decide) rfl rfl fun w1 h => WN.seq (WC.seq ?_)
  refine unpB 23 9 h rfl rfl (by decide) rfl (by decide) (by decide) rfl rfl fun w1 h => WN.seq (WC.seq ?_)
  refine unpD 288 40 h (by decide) rfl rfl rfl rfl fun w1 h => WN.seq (WC.seq ?_)
  refine unpC 22 (by kernel_rfl) h rfl rfl rfl (by decide) (by decide) (by decide) (by decide) (by decide) rfl rfl fun w1 h => WN.seq (WC.seq ?_)
  refine unpB 22 10 h rfl rfl (by decide) rfl (by decide) (by decide) rfl rfl fun w1 h => WN.seq (WC.seq ?_)
  refine unpD 320 44 h (by decide) rfl rfl rfl rfl fun w1 h => WN.seq (WC.seq ?_)
  refine unpC 21 (by kernel_rfl) h rfl rfl rfl (by decide) (by decide) (by decide) (by decide) (by decide) rfl rfl fun w1 h => WN.seq (WC.seq ?_)
  refine unpB 21 11 h rfl rfl (by decide) rfl (by decide) (by decide) rfl rfl fun w1 h => WN.seq (WC.seq ?_)
  refine unpD 352 48 h (by decide) rfl rfl rfl rfl fun w1 h => WN.seq (WC.seq ?_)
  refine unpC 20 (by kernel_rfl) h rfl rfl rfl (by decide) (by decide) (by decide) (by decide) (by decide) rfl rfl fun w1 h => WN.seq (WC.seq ?_)
  refine unpB 20 12 h rfl rfl (by decide) rfl (by decide) (by decide) rfl rfl fun w1 h => WN.seq (WC.seq ?_)
  refine unpD 384 52 h (by decide) rfl rfl rfl rfl fun w1 h => WN.seq (WC.seq ?_)
  refine unpC 19 (by kernel_rfl) h rfl rfl rfl (by decide) (by decide) (by decide) (by decide) (by decide) rfl rfl fun w1 h => WN.seq (WC.seq ?_)
  refine unpB 19 13 h rfl rfl (by decide) rfl (by decide) (by decide) rfl rfl fun w1 h => WN.seq (WC.seq ?_)
  refine unpD 416 56 h (by decide) rfl rfl rfl rfl fun w1 h => WN.seq (WC.seq ?_)
  refine unpC 18 (by kernel_rfl) h rfl rfl rfl (by decide) (by decide) (by decide) (by decide) (by decide) rfl rfl fun w1 h => WN.seq (WC.seq ?_)
  refine unpB 18 14 h rfl rfl (by decide) rfl (by decide) (by decide) rfl rfl fun w1 h => WN.seq (WC.seq ?_)
  refine unpD 448 60 h (by decide) rfl rfl rfl rfl fun w1 h => WN.seq (WC.seq ?_)
  refine unpC 17 (by kernel_rfl) h rfl rfl rfl (by decide) (by decide) (by decide) (by decide) (by decide) rfl rfl fun w1 h => WN.seq (WC.seq ?_)
  refine unpB 17 15 h rfl rfl (by decide) rfl (by decide) (by decide) rfl rfl fun w1 h => WN.seq (WC.seq ?_)
  refine unpD 480 64 h (by decide) rfl rfl rfl rfl fun w1 h => WN.seq (WC.seq ?_)
  refine unpC 16 (by kernel_rfl) h rfl rfl rfl (by decide) (by decide) (by decide) (by decide) (by decide) rfl rfl fun w1 h => WN.seq (WC.seq ?_)
  refine unpB 16 16 h rfl rfl (by decide) rfl (by decide) (by decide) rfl rfl fun w1 h => WN.seq (WC.seq ?_)
  refine unpD 512 68 h (by decide) rfl rfl rfl rfl fun w1 h => WN.seq (WC.seq ?_)
  refine unpC 15 (by kernel_rfl) h rfl rfl rfl (by decide) (by decide) (by decide) (by decide) (by decide) rfl rfl fun w1 h => WN.seq (WC.seq ?_)
  refine unpB 15 17 h rfl rfl (by decide) rfl (by decide) (by decide) rfl rfl fun w1 h => WN.seq (WC.seq ?_)
  refine unpD 544 72 h (by decide) rfl rfl rfl rfl fun w1 h => WN.seq (WC.seq ?_)
  refine unpC 14 (by kernel_rfl) h rfl rfl rfl (by decide) (by decide) (by decide) (by decide) (by decide) rfl rfl fun w1 h => WN.seq (WC.seq ?_)
  refine unpB 14 18 h rfl rfl (by decide) rfl (by decide) (by decide) rfl rfl fun w1 h => WN.seq (WC.seq ?_)
  refine unpD 576 76 h (by decide) rfl rfl rfl rfl fun w1 h => WN.seq (WC.seq ?_)
  refine unpC 13 (by kernel_rfl) h rfl rfl rfl (by decide) (by decide) (by decide) (by decide) (by decide) rfl rfl fun w1 h => WN.seq (WC.seq ?_)
  refine unpB 13 19 h rfl rfl (by decide) rfl (by decide) (by decide) rfl rfl fun w1 h => WN.seq (WC.seq ?_)
  refine unpD 608 80 h (by decide) rfl rfl rfl rfl fun w1 h => WN.seq (WC.seq ?_)
  refine unpC 12 (by kernel_rfl) h rfl rfl rfl (by decide) (by decide) (by decide) (by decide) (by decide) rfl rfl fun w1 h => WN.seq (WC.seq ?_)
  refine unpB 12 20 h rfl rfl (by decide) rfl (by decide) (by decide) rfl rfl fun w1 h => WN.seq (WC.seq ?_)
  refine unpD 640 84 h (by decide) rfl rfl rfl rfl fun w1 h => WN.seq (WC.seq ?_)
  refine unpC 11 (by kernel_rfl) h rfl rfl rfl (by decide) (by decide) (by decide) (by decide) (by decide) rfl rfl fun w1 h => WN.seq (WC.seq ?_)
  refine unpB 11 21 h rfl rfl (by decide) rfl (by decide) (by decide) rfl rfl fun w1 h => WN.seq (WC.seq ?_)
  refine unpD 672 88 h (by decide) rfl rfl rfl rfl fun w1 h => WN.seq (WC.seq ?_)
  refine unpC 10 (by kernel_rfl) h rfl rfl rfl (by decide) (by decide) (by decide) (by decide) (by decide) rfl rfl fun w1 h => WN.seq (WC.seq ?_)
  refine unpB 10 22 h rfl rfl (by decide) rfl (by decide) (by decide) rfl rfl fun w1 h => WN.seq (WC.seq ?_)
  refine unpD 704 92 h (by decide) rfl rfl rfl rfl fun w1 h => WN.seq (WC.seq ?_)
  refine unpC 9 (by kernel_rfl) h rfl rfl rfl (by decide) (by decide) (by decide) (by decide) (by decide) rfl rfl fun w1 h => WN.seq (WC.seq ?_)
  refine unpB 9 23 h rfl rfl (by decide) rfl (by decide) (by decide) rfl rfl fun w1 h => WN.seq (WC.seq ?_)
  refine unpD 736 96 h (by decide) rfl rfl rfl rfl fun w1 h => WN.seq (WC.seq ?_)
  refine unpC 8 (by kernel_rfl) h rfl rfl rfl (by decide) (by decide) (by decide) (by decide) (by decide) rfl rfl fun w1 h => WN.seq (WC.seq ?_)
  refine unpB 8 24 h rfl rfl (by decide) rfl (by decide) (by decide) rfl rfl fun w1 h => WN.seq (WC.seq ?_)
  refine unpD 768 100 h (by decide) rfl rfl rfl rfl fun w1 h => WN.seq (WC.seq ?_)
  refine unpC 7 (by kernel_rfl) h rfl rfl rfl (by decide) (by decide) (by decide) (by decide) (by decide) rfl rfl fun w1 h => WN.seq (WC.seq ?_)
  refine unpB 7 25 h rfl rfl (by decide) rfl (by decide) (by decide) rfl rfl fun w1 h => WN.seq (WC.seq ?_)
  refine unpD 800 104 h (by decide) rfl rfl rfl rfl fun w1 h => WN.seq (WC.seq ?_)
  refine unpC 6 (by kernel_rfl) h rfl rfl rfl (by decide) (by decide) (by decide) (by decide) (by decide) rfl rfl fun w1 h => WN.seq (WC.seq ?_)
  refine unpB 6 26 h rfl rfl (by decide) rfl (by decide) (by decide) rfl rfl fun w1 h => WN.seq (WC.seq ?_)
  refine unpD 832 108 h (by decide) rfl rfl rfl rfl fun w1 h => WN.seq (WC.seq ?_)
  refine unpC 5 (by kernel_rfl) h rfl rfl rfl (by decide) (by decide) (by decide) (by decide) (by decide) rfl rfl fun w1 h => WN.seq (WC.seq ?_)
  refine unpB 5 27 h rfl rfl (by decide) rfl (by decide) (by decide) rfl rfl fun w1 h => WN.seq (WC.seq ?_)
  refine unpD 864 112 h (by decide) rfl rfl rfl rfl fun w1 h => WN.seq (WC.seq ?_)
  refine unpC 4 (by kernel_rfl) h rfl rfl rfl (by decide) (by decide) (by decide) (by decide) (by decide) rfl rfl fun w1 h => WN.seq (WC.seq ?_)
  refine unpB 4 28 h rfl rfl (by decide) rfl (by decide) (by decide) rfl rfl fun w1 h => WN.seq (WC.seq ?_)
  refine unpD 896 116 h (by decide) rfl rfl rfl rfl fun w1 h => WN.seq (WC.seq ?_)
  refine unpC 3 (by kernel_rfl) h rfl rfl rfl (by decide) (by decide) (by decide) (by decide) (by decide) rfl rfl fun w1 h => WN.seq (WC.seq ?_)
  refine unpB 3 29 h rfl rfl (by decide) rfl (by decide) (by decide) rfl rfl fun w1 h => WN.seq (WC.seq ?_)
  refine unpD 928 120 h (by decide) rfl rfl rfl rfl fun w1 h => WN.seq (WC.seq ?_)
  refine unpC 2 (by kernel_rfl) h rfl rfl rfl (by decide) (by decide) (by decide) (by decide) (by decide) rfl rfl fun w1 h => WN.seq (WC.seq ?_)
  refine unpB 2 30 h rfl rfl (by decide) rfl (by decide) (by decide) rfl rfl fun w1 h => WN.seq (WC.seq ?_)
  refine unpD 960 124 h (by decide) rfl rfl rfl rfl fun w1 h => WN.seq (WC.seq ?_)
  refine unpC 1 (by kernel_rfl) h rfl rfl rfl (by decide) (by decide) (by decide) (by decide) (by decide) rfl rfl ?_
  intro w1 h
  refine WN.seq ?_
  refine unpB 1 31 h rfl rfl (by decide) rfl (by decide) (by decide) rfl rfl ?_
  intro w1 h
  replace h := h.next (by decide)
  refine WN.endR rfl rfl ?_
  exact h.done

end Go.Proofs.YthmknddfkmklfaaGreatDoor.Vm
