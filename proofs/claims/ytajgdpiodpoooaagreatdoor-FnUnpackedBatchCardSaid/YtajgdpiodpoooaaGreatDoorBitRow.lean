/- A row of bytes seen as bits. -/
import Derived.Test.YtajgdpiodpoooaaGreatDoorFnP
import Derived.Test.YtajgdpiodpoooaaGreatDoorVmEq
namespace Go.Proofs.YtajgdpiodpoooaaGreatDoor.Vm
open Go Mix Go.RowKit Num
/-- nB bytes lie at o, and their first i bits are those of h -/
def Bits (F : Nat → Value) (o nB i : Nat) (h : Nat → Bool) : Prop := ∃ c : Nat → Nat, (∀ q, q < nB → F (o + q) = .int .u8 (c q : Nat) ∧ c q < 256) ∧ ∀ j, j < i → (c (j / 8)).testBit (j % 8) = h j
theorem Bits.zero {F : Nat → Value} {o nB : Nat} (h : Nat → Bool) (hF : ∀ q, q < nB → F (o + q) = .int .u8 0) : Bits F o nB 0 h := ⟨fun _ => 0, fun q hq => ⟨hF q hq, by show 0 < 256; decide⟩, fun j hj => by omega⟩
theorem Bits.step {F : Nat → Value} {o nB i x' : Nat} {h : Nat → Bool} {c : Nat → Nat} (hc : ∀ q, q < nB → F (o + q) = .int .u8 (c q : Nat) ∧ c q < 256) (hb : ∀ j, j < i → (c (j / 8)).testBit (j % 8) = h j) (hi : i / 8 < nB) (hx : x' < 256)
    (hx2 : ∀ j, j < 8 → x'.testBit j = if i % 8 = j then h i else (c (i / 8)).testBit j) : Bits (upd F (o + i / 8) (.int .u8 (x' : Nat))) o nB (i + 1) h := by
  refine ⟨fun q => if q = i / 8 then x' else c q, fun q hq => ?_, fun j hj => ?_⟩
  · unfold upd
    by_cases hqi : q = i / 8
    · subst hqi
      simp [hx]
    · rw [if_neg (by omega)]
      simp only [if_neg hqi]
      exact hc q hq
  · by_cases hji : j / 8 = i / 8
    · simp only [if_pos hji]
      rw [hx2 _ (by omega)]
      by_cases hk : i % 8 = j % 8
      · rw [if_pos hk, show j = i by omega]
      · rw [if_neg hk, ← hji]
        exact hb j (by omega)
    · simp only [if_neg hji]
      exact hb j (by omega)
theorem test_bit {d : Nat → Nat} {len o j : Nat} (h : ∀ i, i < len → d i < 256) (hj : o + j / 8 < len) : (d (o + j / 8)).testBit (j % 8) = (bts (num d len) (8 * o + j) 1 == 1) := by
  rw [Nat.testBit_eq_decide_div_mod_eq, bit_byte h hj]
  by_cases hb : bts (num d len) (8 * o + j) 1 = 1 <;> simp [hb]
theorem Bits.copy {F : Nat → Value} {o nB i y bo pos len : Nat} {d : Nat → Nat} (hB : Bits F o nB i (fun j => bts (num d len) (pos + j) 1 == 1)) (h8 : i % 8 = 0) (hp : 8 * bo = pos + i) (hy : i / 8 + y ≤ nB) (hs : ∀ i, i < len → d i < 256) (hl : bo + y ≤ len) :
    Bits (ovr F (o + i / 8) ((List.range y).map fun k => byt d (bo + k))) o nB (i + 8 * y) (fun j => bts (num d len) (pos + j) 1 == 1) := by
  obtain ⟨c, hc, hb⟩ := hB
  refine ⟨fun q => if i / 8 ≤ q ∧ q < i / 8 + y then d (bo + (q - i / 8)) else c q, fun q hq => ?_, fun j hj => ?_⟩
  · by_cases hqi : i / 8 ≤ q ∧ q < i / 8 + y
    · simp only [if_pos hqi]
      refine ⟨?_, hs _ (by omega)⟩
      have := ovr_at (f := F) (o := o + i / 8) (cs := (List.range y).map fun k => byt d (bo + k)) (i := q - i / 8) (by simp; omega)
      rw [show o + i / 8 + (q - i / 8) = o + q by omega] at this
      rw [this]
      simp [byt]
    · simp only [if_neg hqi]
      unfold ovr
      rw [if_neg (by simp; omega)]
      exact hc q hq
  · by_cases hji : j < i
    · have : ¬ (i / 8 ≤ j / 8 ∧ j / 8 < i / 8 + y) := by omega
      simp only [if_neg this]
      exact hb j hji
    · have : i / 8 ≤ j / 8 ∧ j / 8 < i / 8 + y := by omega
      simp only [if_pos this]
      have h1 := test_bit (o := bo) (j := j - i) hs (by omega)
      rw [show j / 8 - i / 8 = (j - i) / 8 by omega, show j % 8 = (j - i) % 8 by omega, h1, show 8 * bo + (j - i) = pos + j by omega]
end Go.Proofs.YtajgdpiodpoooaaGreatDoor.Vm
