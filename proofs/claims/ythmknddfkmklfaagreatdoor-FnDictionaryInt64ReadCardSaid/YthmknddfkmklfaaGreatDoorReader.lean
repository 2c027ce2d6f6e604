/- A BitReader that stands at a bit; what a batch has put into its target. -/
import Derived.Test.YthmknddfkmklfaaGreatDoorFnH
namespace Go.Proofs.YthmknddfkmklfaaGreatDoor.Vm
open Go Mix Go.RowKit Num
/-- the reader b over the bytes d stands at bit pos; where it stands on a byte's edge its buffer may be stale -/
def At (w : World) (b : Nat) (rb : RB) (db dO len cap : Nat) (d : Nat → Nat) (pos : Nat) : Prop :=
  ∃ (bo bit : Nat) (B V : Int) (raw unp : Nat → Value) (p r : Int), BR w b rb B bo bit V raw unp ∧ Src w rb db dO len cap p r d ∧ 8 * bo + bit = pos ∧ bit ≤ 64 ∧
    (bit ≠ 0 → B = (bts (num d len) (8 * bo) 64 : Nat) ∧ V = (8 * min (len - bo) 8 : Nat))
section
variable {w w' : World} {b : Nat} {rb : RB} {db dO len cap pos : Nat} {d : Nat → Nat} {S : List Nat}
theorem At.same (h : At w b rb db dO len cap d pos) (hs : Same S w w') (h1 : b ∉ S) (h2 : rb.blk ∉ S) (h3 : db ∉ S) : At w' b rb db dO len cap d pos := by
  obtain ⟨bo, bit, B, V, raw, unp, p, r, hb, hr, h⟩ := h
  exact ⟨bo, bit, B, V, raw, unp, p, r, hb.same hs h1, hr.same hs h2 h3, h⟩
theorem At.lt (h : At w b rb db dO len cap d pos) : b < w.heap.size ∧ rb.blk < w.heap.size ∧ db < w.heap.size := by
  obtain ⟨bo, bit, B, V, raw, unp, p, r, hb, hr, h⟩ := h
  exact ⟨hb.lt, hr.rd.lt, hr.lt⟩
end
/-- i values of h lie at o, what lies besides the L cells there is as in f -/
def Put (F f : Nat → Value) (o L i : Nat) (h : Nat → Value) : Prop := (∀ j, j < i → F (o + j) = h j) ∧ ∀ x, x < o ∨ o + L ≤ x → F x = f x
theorem Put.zero (f : Nat → Value) (o L : Nat) (h : Nat → Value) : Put f f o L 0 h := ⟨fun j hj => by omega, fun _ _ => rfl⟩
theorem Put.step {F f : Nat → Value} {o L i : Nat} {h : Nat → Value} {v : Value} (hp : Put F f o L i h) (hi : i < L) (hv : v = h i) : Put (upd F (o + i) v) f o L (i + 1) h := by
  refine ⟨fun j hj => ?_, fun x hx => ?_⟩
  · unfold upd
    by_cases hji : j = i
    · subst hji; rw [if_pos rfl]; exact hv
    · rw [if_neg (by omega)]; exact hp.1 j (by omega)
  · unfold upd
    rw [if_neg (by omega)]
    exact hp.2 x hx
theorem BR.cu {w : World} {b : Nat} {rb : RB} {buf bo bit vb : Int} {raw unp : Nat → Value} (h : BR w b rb buf bo bit vb raw unp) {j : Nat} (hj : j < 1024) : w.cell? ⟨b, 13 + j, none⟩ = some (unp j) := by
  have := Row.cell (i := 13 + j) h (by omega)
  rw [this, show 13 + j = (8 + j) + 5 by omega]
  simp only [brF]
  rw [if_neg (by omega), show 8 + j - 8 = j by omega]
end Go.Proofs.YthmknddfkmklfaaGreatDoor.Vm
