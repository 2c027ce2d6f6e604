/- A new BitReader; GetBatch. -/
import Derived.Test.YthmknddfkmklfaaGreatDoorReader
import Derived.Test.YthmknddfkmklfaaGreatDoorFnD
namespace Go.Proofs.YthmknddfkmklfaaGreatDoor.Vm
open Go Mix Go.RowKit Num
set_option maxRecDepth 20000
set_option linter.unusedSimpArgs false

noncomputable def bx (rb : RB) (w : World) := (Instr.build 152 #[(0, Value.iface 120 (.pointer (some ⟨rb, rb.off, none⟩)))]).run Tryz.prog w
def cellsR (r : Result Value) : Array Value := match r with | .ok (.agg c) _ => c | _ => #[]
/-- the cells of a new BitReader, as the model builds them -/
noncomputable def bc (rb : RB) : Array Value := cellsR (bx rb default)
def okV (i : Nat) (v : Value) : Bool := match v with
  | .int .u8 z => Nat.ble 5 i && Nat.ble i 12 && z == 0
  | .int .u32 z => Nat.ble 13 i && z == 0
  | .int .u64 z => (Nat.beq i 1 || Nat.beq i 3 || Nat.beq i 4) && z == 0
  | .int .i64 z => Nat.beq i 2 && z == 0
  | .iface _ _ => Nat.beq i 0
  | _ => false
def okL : List Value → Nat → Bool
  | [], i => Nat.beq i 1037
  | v :: l, i => okV i v && okL l (i + 1)
theorem bx_run (rb : RB) (w : World) : bx rb w = .ok (.agg (bc rb)) w := by kernel_rfl
theorem bc0 (rb : RB) : (bc rb)[0]? = some (Value.iface 120 (.pointer (some ⟨rb, rb.off, none⟩))) := by kernel_rfl
theorem bcOK (rb : RB) : okL (bc rb).toList 0 = true := by kernel_rfl
theorem okL_len : ∀ (l : List Value) (i : Nat), okL l i = true → i + l.length = 1037
  | [], i, h => by simpa [okL] using h
  | v :: l, i, h => by
    simp only [okL, Bool.and_eq_true] at h
    have := okL_len l (i + 1) h.2
    simp; omega
theorem okL_get : ∀ (l : List Value) (i j : Nat) (v : Value), okL l i = true → l[j]? = some v → okV (i + j) v = true
  | [], _, _, _, _, hj => by simp at hj
  | v :: l, i, 0, u, h, hj => by
    simp only [okL, Bool.and_eq_true] at h
    simp at hj
    subst hj
    exact h.1
  | v :: l, i, j + 1, u, h, hj => by
    simp only [okL, Bool.and_eq_true] at h
    have := okL_get l (i + 1) j u h.2 (by simpa using hj)
    rwa [show i + (j + 1) = i + 1 + j by omega]
theorem okV_eq {rb : RB} {i : Nat} {v : Value} (h : okV i v = true) (hi : 1 ≤ i) : v = brF rb 0 ((0 : Nat) : Int) ((0 : Nat) : Int) 0 (fun _ => .int .u8 0) (fun _ => .int .u32 0) i := by
  unfold okV at h
  split at h
  · simp only [Bool.and_eq_true, Nat.ble_eq, beq_iff_eq] at h
    obtain ⟨j, rfl⟩ : ∃ j, i = j + 5 := ⟨i - 5, by omega⟩
    simp only [brF]
    rw [if_pos (by omega), h.2]
  · simp only [Bool.and_eq_true, Nat.ble_eq, beq_iff_eq] at h
    obtain ⟨j, rfl⟩ : ∃ j, i = j + 5 := ⟨i - 5, by omega⟩
    simp only [brF]
    rw [if_neg (by omega), h.2]
  · simp only [Bool.and_eq_true, Bool.or_eq_true, Nat.beq_eq, beq_iff_eq] at h
    obtain ⟨(rfl | rfl) | rfl, rfl⟩ := h <;> rfl
  · simp only [Bool.and_eq_true, Nat.beq_eq, beq_iff_eq] at h
    obtain ⟨rfl, rfl⟩ := h
    rfl
  · simp only [Nat.beq_eq] at h
    omega
  · cases h
theorem bc_size (rb : RB) : (bc rb).size = 1037 := by
  have := okL_len _ _ (bcOK rb)
  simpa using this
theorem bc_cells (rb : RB) (i : Nat) (hi : i < 1037) : (bc rb).getD i undef = brF rb 0 ((0 : Nat) : Int) ((0 : Nat) : Int) 0 (fun _ => .int .u8 0) (fun _ => .int .u32 0) i := by
  have hs := bc_size rb
  have hg : (bc rb)[i]? = some ((bc rb).getD i undef) := by simp [hs, hi]
  by_cases h0 : i = 0
  · subst h0
    rw [bc0] at hg
    rw [← Option.some.inj hg]
    rfl
  · have := okL_get _ 0 i _ (bcOK rb) (show (bc rb).toList[i]? = some ((bc rb).getD i undef) by rw [Array.getElem?_toList]; exact hg)
    rw [Nat.zero_add] at this
    exact okV_eq this (by omega)

theorem newBitReader {w : World} (rb : RB) (db dO len cap : Nat) (p r : Int) (d : Nat → Nat) (hr : Src w rb db dO len cap p r d) :
    Ret Tryz.prog 53 #[.iface 120 (.pointer (some ⟨rb, rb.off, none⟩))] w fun v w' => ∃ b, w.heap.size ≤ b ∧ v = .pointer (some ⟨b, 0, none⟩) ∧ At w' b rb db dO len cap d 0 ∧ Same [] w w' := by
  have hS := Same.refl [] w
  refine Ret.enter (vs := [.iface 120 (.pointer (some ⟨rb, rb.off, none⟩))]) Tryz.func53 Tryz.ntmps53 rfl rfl ?_
  refine WC.seq (WC.region ?_)
  refine WR.assign rfl rfl ?_
  refine WR.nil (WN.seq ?_)
  refine WC.seq (WC.region ?_)
  refine WR.move rfl rfl ?_
  refine WR.build rfl rfl (v := .agg (bc rb)) (bx_run rb) rfl rfl ?_
  refine WR.box rfl rfl rfl ?_
  intro w1 hn hs
  have hb : BR w1 w.heap.size rb 0 ((0 : Nat) : Int) ((0 : Nat) : Int) 0 (fun _ => .int .u8 0) (fun _ => .int .u32 0) := by
    rw [hn]
    have hx := Row.alloc w (bc rb) 152
    rw [bc_size] at hx
    exact hx.congr fun i hi => bc_cells rb i hi
  replace hr := hr.same hs (by simp) (by simp)
  replace hS := hs
  clear hn hs
  refine WR.assign rfl rfl ?_
  refine WR.nil (WN.seq ?_)
  refine WC.retR rfl rfl ?_
  exact ⟨_, Nat.le_refl _, rfl, ⟨0, 0, 0, 0, _, _, p, r, hb, hr, rfl, by omega, fun h => absurd rfl h⟩, hS⟩

end Go.Proofs.YthmknddfkmklfaaGreatDoor.Vm
