/- laws.FnUnpackedBatch answers true, whatever the input: the cases put together. -/
import Derived.Test.YtajgdpiodpoooaaGreatDoorFnT
namespace Go.Proofs.YtajgdpiodpoooaaGreatDoor.Vm
open Go Mix Go.RowKit Num Sp
theorem law {w : World} {aE aU aP : Addr} (hg : Glob w aE aU aP) (tb : Tab w) (db dO len cap m cz lz : Nat) (wd how : Int) (zs : List Int) (Az : Option Addr) (d : Nat → Nat) (hd : len ≤ 4096 → Src2 w 0 db dO len cap d) (hz : Lu w lz (.slice Az m cz) (i64s zs)) (hlz : lz ≤ w.heap.size) (hm0 : m = (i64s zs).length) (hzr : ∀ i, -9223372036854775808 ≤ zs.getD i 0 ∧ zs.getD i 0 ≤ 9223372036854775807) :
    Ret Tryz.prog 3 #[.slice (ad db dO) len cap, .int .i64 wd, .int .i64 how, .slice Az m cz] w fun v w' => v = .bool true ∧ Same [] w w' := by
  rcases Nat.lt_or_ge 2147483647 len with h | h0
  · exact lawBig hg tb db dO len cap m cz lz wd how zs Az d hd hz hlz hm0 hzr h
  rcases Nat.lt_or_ge 4096 len with h | h
  · exact lawA hg tb db dO len cap m cz lz wd how zs Az d hd hz hlz hm0 hzr h0 h
  rcases Int.lt_or_le how 0 with h1 | h1
  · exact lawB hg tb db dO len cap m cz lz wd how zs Az d hd hz hlz hm0 hzr h h1
  rcases Int.lt_or_le 5 how with h2 | h2
  · exact lawC hg tb db dO len cap m cz lz wd how zs Az d hd hz hlz hm0 hzr h h2
  obtain ⟨k, rfl⟩ := Int.eq_ofNat_of_zero_le h1
  have hk : k < 6 := by omega
  rcases Int.lt_or_le wd 1 with h3 | h3
  · exact lawD hg tb db dO len cap m cz lz wd k zs Az d hd hz hlz hm0 hzr h hk h3
  rcases Int.lt_or_le ((mostV k : Nat) : Int) wd with h4 | h4
  · exact lawE hg tb db dO len cap m cz lz wd k zs Az d hd hz hlz hm0 hzr h hk h3 h4
  obtain ⟨W, rfl⟩ := Int.eq_ofNat_of_zero_le (show 0 ≤ wd by omega)
  by_cases h5 : mostV k = 1
  · by_cases h6 : (W : Int) = 1
    · exact lawG hg tb db dO len cap m cz lz W k zs Az d hd hz hlz hm0 hzr h hk (by omega) (by omega) h5
    · exact lawF hg tb db dO len cap m cz lz W k zs Az d hd hz hlz hm0 hzr h hk h3 h4 h5 h6
  · exact lawH hg tb db dO len cap m cz lz W k zs Az d hd hz hlz hm0 hzr h hk (by omega) (by omega) h5
end Go.Proofs.YtajgdpiodpoooaaGreatDoor.Vm
