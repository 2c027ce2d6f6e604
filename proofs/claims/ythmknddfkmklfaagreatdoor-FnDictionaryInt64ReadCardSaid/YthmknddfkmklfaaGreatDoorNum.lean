/- Plain arithmetic: bytes as one number, the lowest byte first; what stands at a place of it. -/
namespace Go.Proofs.YthmknddfkmklfaaGreatDoor.Num

/-- the first n bytes as one number -/
def num (d : Nat → Nat) : Nat → Nat
  | 0 => 0
  | n + 1 => num d n + d n * 256 ^ n
/-- w bts from bit p on -/
def bts (B p w : Nat) : Nat := B / 2 ^ p % 2 ^ w

theorem num_lt {d : Nat → Nat} : ∀ (n : Nat), (∀ i, i < n → d i < 256) → num d n < 256 ^ n
  | 0, _ => by simp [num]
  | n + 1, h => by
    have h1 := num_lt n fun i hi => h i (by omega)
    have h2 := h n (by omega)
    have h3 : d n * 256 ^ n ≤ 255 * 256 ^ n := Nat.mul_le_mul_right _ (by omega)
    simp only [num, Nat.pow_succ]
    omega
theorem num_congr {d e : Nat → Nat} : ∀ (n : Nat), (∀ i, i < n → d i = e i) → num d n = num e n
  | 0, _ => rfl
  | n + 1, h => by simp only [num]; rw [num_congr n fun i hi => h i (by omega), h n (by omega)]
theorem num_add (d : Nat → Nat) (o : Nat) : ∀ (n : Nat), num d (o + n) = num d o + num (fun i => d (o + i)) n * 256 ^ o
  | 0 => by simp [num]
  | n + 1 => by
    rw [← Nat.add_assoc]
    simp only [num]
    rw [num_add d o n, Nat.add_mul, Nat.pow_add]
    simp only [Nat.add_assoc, Nat.mul_assoc, Nat.mul_comm (256 ^ o) (256 ^ n)]
/-- a stretch of bytes is a stretch of the number -/
theorem num_part {d : Nat → Nat} {n o m : Nat} (h : ∀ i, i < n → d i < 256) (hm : o + m ≤ n) : num (fun i => d (o + i)) m = num d n / 256 ^ o % 256 ^ m := by
  have h1 : num d n = num d o + num (fun i => d (o + i)) (n - o) * 256 ^ o := by
    have := num_add d o (n - o)
    rwa [show o + (n - o) = n by omega] at this
  have h2 := num_lt (d := d) o fun i hi => h i (by omega)
  have hp : 0 < 256 ^ o := Nat.pow_pos (by decide)
  have h3 : num d n / 256 ^ o = num (fun i => d (o + i)) (n - o) := by
    rw [h1, Nat.add_mul_div_right _ _ hp, Nat.div_eq_of_lt h2, Nat.zero_add]
  rw [h3]
  have h4 : num (fun i => d (o + i)) (n - o) = num (fun i => d (o + i)) m + num (fun i => d (o + (m + i))) (n - o - m) * 256 ^ m := by
    have := num_add (fun i => d (o + i)) m (n - o - m)
    rwa [show m + (n - o - m) = n - o by omega] at this
  have h5 := num_lt (d := fun i => d (o + i)) m fun i hi => h (o + i) (by omega)
  rw [h4, Nat.add_mul_mod_self_right, Nat.mod_eq_of_lt h5]
theorem num_zero_above {d : Nat → Nat} {n m : Nat} (h : ∀ i, n ≤ i → d i = 0) (hm : n ≤ m) : num d m = num d n := by
  induction m with
  | zero => have : n = 0 := by omega
            subst this; rfl
  | succ m ih =>
    by_cases hn : n = m + 1
    · subst hn; rfl
    · simp only [num]; rw [ih (by omega), h m (by omega)]; omega
theorem pow_256 (n : Nat) : 256 ^ n = 2 ^ (8 * n) := by rw [show (256 : Nat) = 2 ^ 8 from rfl, ← Nat.pow_mul]

theorem bts_lt (B p w : Nat) : bts B p w < 2 ^ w := Nat.mod_lt _ (Nat.pow_pos (by decide))
/-- bts of bts -/
theorem bts_bts {B p w q v : Nat} (h : q + v ≤ w) : bts (bts B p w) q v = bts B (p + q) v := by
  unfold bts
  have hw : 2 ^ w = 2 ^ q * 2 ^ (w - q) := by rw [← Nat.pow_add]; congr 1; omega
  rw [hw, Nat.mod_mul_right_div_self, Nat.div_div_eq_div_mul, ← Nat.pow_add, Nat.mod_mod_of_dvd]
  exact Nat.pow_dvd_pow 2 (by omega)
/-- two stretches behind one another -/
theorem bts_add (B p w v : Nat) : bts B p (w + v) = bts B p w + bts B (p + w) v * 2 ^ w := by
  unfold bts
  rw [Nat.pow_add, Nat.mod_mul, Nat.div_div_eq_div_mul, ← Nat.pow_add, Nat.mul_comm (2 ^ w)]
theorem bts_zero (B p : Nat) : bts B p 0 = 0 := by simp [bts, Nat.mod_one]
theorem num_succ (d : Nat → Nat) (n : Nat) : num d (n + 1) = num d n + d n * 256 ^ n := rfl
theorem num4 (e : Nat → Nat) : num e 4 = e 0 + e 1 * 256 + e 2 * 65536 + e 3 * 16777216 := by
  rw [num_succ e 3, num_succ e 2, num_succ e 1, num_succ e 0]; simp [num]
theorem num8 (e : Nat → Nat) : num e 8 = e 0 + e 1 * 256 + e 2 * 65536 + e 3 * 16777216 + e 4 * 4294967296 + e 5 * 1099511627776 + e 6 * 281474976710656 + e 7 * 72057594037927936 := by
  rw [num_succ e 7, num_succ e 6, num_succ e 5, num_succ e 4, num_succ e 3, num_succ e 2, num_succ e 1, num_succ e 0]; simp [num]
theorem num8i (e : Nat → Nat) : (e 0 : Int) + (e 1 : Int) * 256 + (e 2 : Int) * 65536 + (e 3 : Int) * 16777216 + (e 4 : Int) * 4294967296 + (e 5 : Int) * 1099511627776 + (e 6 : Int) * 281474976710656 + (e 7 : Int) * 72057594037927936 = (num e 8 : Int) := by
  rw [num8]; omega
theorem num4i (e : Nat → Nat) : (e 0 : Int) + (e 1 : Int) * 256 + (e 2 : Int) * 65536 + (e 3 : Int) * 16777216 = (num e 4 : Int) := by
  rw [num4]; omega
/-- bytes that are filled up with zeros -/
theorem num_pad {d : Nat → Nat} {n o m k : Nat} (h : ∀ i, i < n → d i < 256) (hk : k = min (n - o) m) : num (fun i => if i < k then d (o + i) else 0) m = bts (num d n) (8 * o) (8 * m) := by
  let d0 : Nat → Nat := fun i => if i < n then d i else 0
  have h0 : ∀ i, d0 i < 256 := fun i => by
    show (if i < n then d i else 0) < 256
    split
    · exact h i ‹_›
    · omega
  have e1 : num (fun i => if i < k then d (o + i) else 0) m = num (fun i => d0 (o + i)) m := num_congr m fun i hi => by
    show (if i < k then d (o + i) else 0) = if o + i < n then d (o + i) else 0
    by_cases hc : i < k
    · rw [if_pos hc, if_pos (by omega)]
    · rw [if_neg hc, if_neg (by omega)]
  have e2 : num d0 (max n (o + m)) = num d n := by
    rw [num_zero_above (n := n) (fun i hi => by show (if i < n then d i else 0) = 0; rw [if_neg (by omega)]) (by omega)]
    exact num_congr n fun i hi => by show (if i < n then d i else 0) = d i; rw [if_pos hi]
  rw [e1, num_part (n := max n (o + m)) (fun i _ => h0 i) (by omega), e2, pow_256, pow_256]
  rfl
theorem mod_div (x q n : Nat) : x % 2 ^ (q + n) / 2 ^ q = bts x q n := by
  unfold bts
  rw [Nat.pow_add, Nat.mod_mul_right_div_self]
theorem div_of_bts (B p q : Nat) (h : q ≤ 64) : bts B p 64 / 2 ^ q = bts B (p + q) (64 - q) := by
  have h1 := mod_div (bts B p 64) q (64 - q)
  rw [show q + (64 - q) = 64 by omega, Nat.mod_eq_of_lt (bts_lt B p 64)] at h1
  rw [h1, bts_bts (by omega)]
theorem mul_pow_lt {x r f : Nat} (h : r + f ≤ 64) : x % 2 ^ r * 2 ^ f < 18446744073709551616 := by
  have h1 : x % 2 ^ r < 2 ^ r := Nat.mod_lt _ (Nat.pow_pos (by decide))
  have h2 : x % 2 ^ r * 2 ^ f < 2 ^ r * 2 ^ f := Nat.mul_lt_mul_of_pos_right h1 (Nat.pow_pos (by decide))
  rw [← Nat.pow_add] at h2
  have h3 : 2 ^ (r + f) ≤ 2 ^ 64 := Nat.pow_le_pow_right (by decide) h
  omega
theorem bts_mod {B p w r : Nat} (h : r ≤ w) : bts B p w % 2 ^ r = bts B p r := by
  have := bts_bts (B := B) (p := p) (w := w) (q := 0) (v := r) (by omega)
  simpa [bts] using this
theorem next_join {B bo bit n : Nat} (h : 64 < bit + n) (hb : bit < 64) (hn : n ≤ 64) : bts B (8 * bo) 64 / 2 ^ bit + bts B (8 * (bo + 8)) 64 % 2 ^ (n - (64 - bit)) * 2 ^ (64 - bit) = bts B (8 * bo + bit) n := by
  rw [div_of_bts _ _ _ (by omega), bts_mod (by omega)]
  have := bts_add B (8 * bo + bit) (64 - bit) (n - (64 - bit))
  rw [show 64 - bit + (n - (64 - bit)) = n by omega, show 8 * bo + bit + (64 - bit) = 8 * (bo + 8) by omega] at this
  exact this.symm
theorem next_plain {B p bit n : Nat} (h : bit + n ≤ 64) : bts B p 64 % 2 ^ (bit + n) / 2 ^ bit = bts B (p + bit) n := by
  rw [mod_div, bts_bts h]
theorem num_bts {d : Nat → Nat} {n o m : Nat} (h : ∀ i, i < n → d i < 256) (hm : o + m ≤ n) : num (fun i => d (o + i)) m = bts (num d n) (8 * o) (8 * m) := by
  rw [num_part h hm, pow_256, pow_256]; rfl
attribute [irreducible] num bts
end Go.Proofs.YthmknddfkmklfaaGreatDoor.Num
