/- Batches of numbers: where they stand, what they take; numbers put together bit by bit. -/
import Derived.Test.YthmknddfkmklfaaGreatDoorVmApp
import Derived.Test.YthmknddfkmklfaaGreatDoorNum
namespace Go.Proofs.YthmknddfkmklfaaGreatDoor.Vm
open Go Num
/-- where the batch i begins: the batches are laid one behind the other -/
def tpos (z : Nat → Int) : Nat → Nat
  | 0 => 0
  | i + 1 => tpos z i + (z i).natAbs
/-- what the first i batches take of the numbers V -/
def tout (V : Nat → Nat) (z : Nat → Int) : Nat → List Nat
  | 0 => []
  | i + 1 => tout V z i ++ (List.range (z i).toNat).map fun j => V (tpos z i + j)
theorem tpos_mono (z : Nat → Int) {i j : Nat} (h : i ≤ j) : tpos z i ≤ tpos z j := by
  induction j with
  | zero => rw [show i = 0 by omega]; exact Nat.le_refl _
  | succ j ih =>
    rcases Nat.lt_or_ge i (j + 1) with h' | h'
    · have := ih (by omega)
      simp only [tpos]; omega
    · rw [show i = j + 1 by omega]; exact Nat.le_refl _
theorem tout_length (V : Nat → Nat) (z : Nat → Int) : ∀ i, (tout V z i).length ≤ tpos z i
  | 0 => Nat.le_refl _
  | i + 1 => by
    have := tout_length V z i
    simp only [tout, tpos, List.length_append, List.length_map, List.length_range]
    omega
theorem tout_congr {V V' : Nat → Nat} {z : Nat → Int} : ∀ {i : Nat}, (∀ k, k < tpos z i → V k = V' k) → tout V z i = tout V' z i
  | 0, _ => rfl
  | i + 1, h => by
    simp only [tout]
    rw [tout_congr (i := i) fun k hk => h k (by simp only [tpos]; omega)]
    congr 1
    refine List.map_congr_left fun j hj => h _ ?_
    simp only [List.mem_range] at hj
    simp only [tpos]; omega
def u64s (xs : List Nat) : List Value := xs.map fun n => .int .u64 (n : Nat)
theorem u64s_append (xs ys : List Nat) : u64s (xs ++ ys) = u64s xs ++ u64s ys := by simp [u64s]
theorem u64s_length (xs : List Nat) : (u64s xs).length = xs.length := by simp [u64s]
theorem u64s_getD {xs : List Nat} {i : Nat} (h : i < xs.length) : (u64s xs).getD i undef = .int .u64 (xs.getD i 0 : Nat) := by simp [u64s, h]
theorem u64s_one {xs : List Nat} {i : Nat} (h : i < (u64s xs).length) : ((u64s xs).getD i undef).oneCell' = true := by
  rw [u64s_length] at h
  rw [u64s_getD h]; rfl
theorem u64s_range (f : Nat → Nat) (n : Nat) : u64s ((List.range n).map f) = (List.range n).map fun j => .int .u64 (f j : Nat) := by simp [u64s]
theorem u64s_nil : u64s [] = [] := rfl
theorem tout_pos {V : Nat → Nat} {z : Nat → Int} {i n : Nat} (h : z i = (n : Int)) : u64s (tout V z (i + 1)) = u64s (tout V z i) ++ u64s ((List.range n).map fun j => V (tpos z i + j)) := by
  simp only [tout, h, Int.toNat_natCast, u64s_append]
theorem tout_nonpos {V : Nat → Nat} {z : Nat → Int} {i : Nat} (h : z i ≤ 0) : tout V z (i + 1) = tout V z i := by
  simp only [tout, show (z i).toNat = 0 by omega, List.range_zero, List.map_nil, List.append_nil]
def i64s (zs : List Int) : List Value := zs.map fun n => .int .i64 n
theorem i64s_length (zs : List Int) : (i64s zs).length = zs.length := by simp [i64s]
theorem i64s_getD {zs : List Int} {i : Nat} (h : i < zs.length) : (i64s zs).getD i undef = .int .i64 (zs.getD i 0) := by simp [i64s, h]
/-- the slice v reads as ys, in a block ahead of lim -/
def Lu (w : World) (lim : Nat) (v : Value) (ys : List Value) : Prop :=
  v = .slice none 0 0 ∧ ys = [] ∨ ∃ g o c, v = .slice (some ⟨g, o, none⟩) ys.length c ∧ g < lim ∧ g < w.heap.size ∧ Rd w g o ys.length (fun i => ys.getD i undef)
section
variable {w w' : World} {base lim : Nat} {v : Value} {ys : List Value} {S : List Nat}
theorem Ls.lu (h : Ls w base v ys) : Lu w w.heap.size v ys := by
  rcases h with h | ⟨g, o, c, h1, h2, h3, h4⟩
  · exact .inl h
  · exact .inr ⟨g, o, c, h1, h3, h3, h4⟩
theorem Lu.ls (h : Lu w lim v ys) : Ls w 0 v ys := by
  rcases h with h | ⟨g, o, c, h1, h2, h3, h4⟩
  · exact .inl h
  · exact .inr ⟨g, o, c, h1, Nat.zero_le _, h3, h4⟩
theorem Lu.same (h : Lu w lim v ys) (hs : Same S w w') (hS : ∀ g, g ∈ S → lim ≤ g) : Lu w' lim v ys := by
  rcases h with h | ⟨g, o, c, h1, h2, h3, h4⟩
  · exact .inl h
  · refine .inr ⟨g, o, c, h1, h2, Nat.lt_of_lt_of_le h3 hs.size, h4.same hs (fun hm => ?_) h3⟩
    have := hS g hm; omega
theorem Lu.more (h : Lu w lim v ys) {l2 : Nat} (hl : lim ≤ l2) : Lu w l2 v ys := by
  rcases h with h | ⟨g, o, c, h1, h2, h3⟩
  · exact .inl h
  · exact .inr ⟨g, o, c, h1, by omega, h3⟩
theorem Lu.lit (h : Lu w lim v ys) (h0 : 0 < ys.length) : ∃ g o c, v = .slice (some ⟨g, o, none⟩) ys.length c ∧ g < lim ∧ g < w.heap.size ∧ Rd w g o ys.length (fun i => ys.getD i undef) := by
  rcases h with ⟨_, rfl⟩ | h
  · simp at h0
  · exact h
theorem Row.one {w : World} {b E x : Nat} (h : Row w b E (#[Value.int .u64 (x : Nat)] : Array Value).size (fun i => (#[Value.int .u64 (x : Nat)] : Array Value).getD i undef)) : Ls w 0 (.slice (some ⟨b, 0, none⟩) 1 1) (u64s [x]) :=
  Row.ls (o := 0) h rfl (Nat.le_refl 1) (Nat.zero_le _) fun i hi => by
    obtain rfl : i = 0 := by omega
    rfl
theorem u64s_succ (f : Nat → Nat) (i : Nat) : u64s ((List.range (i + 1)).map f) = u64s ((List.range i).map f) ++ u64s [f i] := by
  rw [List.range_succ, List.map_append, u64s_append]; rfl
/-- a part of a list of numbers -/
theorem Lu.part {gl o N c at' k : Nat} {xs : List Nat} (hr : Rd w gl o N (fun i => (u64s xs).getD i undef)) (hlt : gl < w.heap.size) (hN : N = (u64s xs).length) (h : at' + k ≤ N) :
    Ls w 0 (.slice (some ⟨gl, o + at', none⟩) k c) (u64s ((List.range k).map fun j => xs.getD (at' + j) 0)) := by
  have hl : (u64s ((List.range k).map fun j => xs.getD (at' + j) 0)).length = k := by rw [u64s_length]; simp
  rw [u64s_length] at hN
  refine .inr ⟨gl, o + at', c, by rw [hl], Nat.zero_le _, hlt, fun i hi => ?_⟩
  rw [hl] at hi
  rw [Nat.add_assoc, hr (at' + i) (by omega)]
  show some ((u64s xs).getD (at' + i) undef) = some ((u64s _).getD i undef)
  rw [u64s_getD (by omega), u64s_getD (by simpa using hi)]
  simp [hi]
end
/-- what stands at q when i bits have been put, w bits a number -/
def gat (B w i q : Nat) : Nat := bts B (w * q) (min w (i - w * q))
theorem gat_lt (B w i q : Nat) (hw : w ≤ 64) : gat B w i q < 18446744073709551616 := by
  have h := bts_lt B (w * q) (min w (i - w * q))
  have h2 : 2 ^ min w (i - w * q) ≤ 2 ^ 64 := Nat.pow_le_pow_right (by decide) (by omega)
  unfold gat; omega
theorem gat_zero (B w q : Nat) : gat B w 0 q = 0 := by
  unfold gat
  rw [Nat.zero_sub, Nat.min_zero, bts_zero]
theorem gat_self (B w i : Nat) (hw : 0 < w) : gat B w i (i / w) = bts B (w * (i / w)) (i % w) := by
  have h1 := Nat.div_add_mod i w
  have h2 := Nat.mod_lt i hw
  unfold gat
  rw [show min w (i - w * (i / w)) = i % w by omega]
theorem gat_step (B w i : Nat) (hw : 0 < w) : gat B w (i + 1) (i / w) = gat B w i (i / w) + bts B i 1 * 2 ^ (i % w) := by
  have h1 := Nat.div_add_mod i w
  have h2 := Nat.mod_lt i hw
  have h3 := bts_add B (w * (i / w)) (i % w) 1
  rw [h1] at h3
  rw [gat_self B w i hw, ← h3]
  unfold gat
  rw [show min w (i + 1 - w * (i / w)) = i % w + 1 by omega]
theorem gat_other (B w i q : Nat) (hw : 0 < w) (hq : q ≠ i / w) : gat B w (i + 1) q = gat B w i q := by
  have h1 := Nat.div_add_mod i w
  have h2 := Nat.mod_lt i hw
  unfold gat
  rcases Nat.lt_or_ge q (i / w) with h | h
  · have h3 := Nat.mul_le_mul_left w (show q + 1 ≤ i / w by omega)
    rw [Nat.mul_add] at h3
    rw [show min w (i + 1 - w * q) = min w (i - w * q) by omega]
  · have h3 := Nat.mul_le_mul_left w (show i / w + 1 ≤ q by omega)
    rw [Nat.mul_add] at h3
    rw [show min w (i + 1 - w * q) = min w (i - w * q) by omega]
theorem gat_full (B w n q : Nat) (hq : q < n) : gat B w (n * w) q = bts B (w * q) w := by
  unfold gat
  have h3 := Nat.mul_le_mul_left w (show q + 1 ≤ n by omega)
  rw [Nat.mul_add, Nat.mul_comm w n] at h3
  rw [show min w (n * w - w * q) = w by omega]
theorem gat_bit (B w i : Nat) (hw : 0 < w) : gat B w i (i / w) < 2 ^ (i % w) := by rw [gat_self B w i hw]; exact bts_lt _ _ _
end Go.Proofs.YthmknddfkmklfaaGreatDoor.Vm
