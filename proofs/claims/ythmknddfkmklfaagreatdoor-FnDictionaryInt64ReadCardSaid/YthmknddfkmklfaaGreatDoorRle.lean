/- Runs and their bytes, in plain numbers: what is written, what stands there, what is read. -/
import Derived.Test.YthmknddfkmklfaaGreatDoorBatches
namespace Go.Proofs.YthmknddfkmklfaaGreatDoor.Rl
open Num
structure Run where
  packed : Bool
  count : Nat
  vals : List Nat
/-- groups of seven bits, the lowest first -/
def vlq (u : Nat) : List Nat := if u < 128 then [u] else (u % 128 + 128) :: vlq (u / 128)
termination_by u
decreasing_by omega
theorem vlq_lt {u : Nat} (h : u < 128) : vlq u = [u] := by rw [vlq, if_pos h]
theorem vlq_ge {u : Nat} (h : ¬ u < 128) : vlq u = (u % 128 + 128) :: vlq (u / 128) := by rw [vlq, if_neg h]
/-- numbers of W bits as one number -/
def pn (W : Nat) : List Nat → Nat
  | [] => 0
  | v :: l => v + pn W l * 2 ^ W
def pk (W : Nat) (l : List Nat) : List Nat := (List.range ((l.length * W + 7) / 8)).map fun q => bts (pn W l) (8 * q) 8
def leb (n v : Nat) : List Nat := (List.range n).map fun i => bts v (8 * i) 8
theorem pn_lt {W : Nat} : ∀ {l : List Nat}, (∀ v, v ∈ l → v < 2 ^ W) → pn W l < 2 ^ (l.length * W)
  | [], _ => by simp [pn]
  | v :: l, h => by
    have h1 := pn_lt (l := l) fun x hx => h x (List.mem_cons_of_mem _ hx)
    have h2 := h v List.mem_cons_self
    have h3 : (pn W l + 1) * 2 ^ W ≤ 2 ^ (l.length * W) * 2 ^ W := Nat.mul_le_mul_right _ h1
    rw [List.length_cons, Nat.add_mul, Nat.one_mul, Nat.pow_add]
    simp only [pn]
    rw [Nat.add_mul, Nat.one_mul] at h3
    omega
theorem pn_at {W : Nat} : ∀ {l : List Nat} {j : Nat}, (∀ v, v ∈ l → v < 2 ^ W) → j < l.length → bts (pn W l) (W * j) W = l.getD j 0
  | [], j, _, hj => by simp at hj
  | v :: l, 0, h, _ => by
    have h2 := h v List.mem_cons_self
    unfold bts
    simp only [pn, Nat.mul_zero, Nat.pow_zero, Nat.div_one]
    rw [Nat.add_mul_mod_self_right, Nat.mod_eq_of_lt h2]
    rfl
  | v :: l, j + 1, h, hj => by
    have h2 := h v List.mem_cons_self
    have ih := pn_at (l := l) (j := j) (fun x hx => h x (List.mem_cons_of_mem _ hx)) (by simpa using hj)
    have hd : (v + pn W l * 2 ^ W) / 2 ^ W = pn W l := by
      rw [Nat.add_mul_div_right _ _ (Nat.pow_pos (by decide)), Nat.div_eq_of_lt h2, Nat.zero_add]
    unfold bts at ih ⊢
    simp only [pn]
    rw [show W * (j + 1) = W + W * j by rw [Nat.mul_add, Nat.mul_one, Nat.add_comm], Nat.pow_add, ← Nat.div_div_eq_div_mul, hd, ih]
    rfl
/-- bytes that are those of a number make it -/
theorem num_of {e : Nat → Nat} {P : Nat} : ∀ (n : Nat), (∀ q, q < n → e q = bts P (8 * q) 8) → num e n = P % 2 ^ (8 * n)
  | 0, _ => by unfold num; simp [Nat.mod_one]
  | n + 1, h => by
    have ih := num_of (e := e) (P := P) n fun q hq => h q (by omega)
    have hn := h n (by omega)
    rw [num_succ, ih, hn, pow_256]
    unfold bts
    rw [show 8 * (n + 1) = 8 * n + 8 by omega, Nat.pow_add, Nat.mod_mul, Nat.mul_comm (2 ^ (8 * n))]
/-- a stretch of the data whose bytes are those of P: its bits are P's -/
theorem bts_of {d : Nat → Nat} {len p n P t w : Nat} (hs : ∀ i, i < len → d i < 256) (hl : p + n ≤ len) (h : ∀ q, q < n → d (p + q) = bts P (8 * q) 8) (ht : t + w ≤ 8 * n) : bts (num d len) (8 * p + t) w = bts P t w := by
  have h1 : num (fun i => d (p + i)) n = bts (num d len) (8 * p) (8 * n) := num_bts hs hl
  have h2 : num (fun i => d (p + i)) n = P % 2 ^ (8 * n) := num_of n h
  have h3 : bts (num d len) (8 * p) (8 * n) = bts P 0 (8 * n) := by
    rw [← h1, h2]; unfold bts; simp
  rw [← bts_bts (B := num d len) (p := 8 * p) (w := 8 * n) ht, h3, bts_bts ht, Nat.zero_add]
def padR (r : Run) : List Nat := r.vals ++ List.replicate (8 * r.count - r.vals.length) 0
def encR (W : Nat) (r : Run) : List Nat := if r.packed then vlq (2 * r.count + 1) ++ pk W (padR r) else vlq (2 * r.count) ++ leb ((W + 7) / 8) (r.vals.getD 0 0)
def expR (r : Run) : List Nat := if r.packed then padR r else List.replicate r.count (r.vals.getD 0 0)
structure Fit (W : Nat) (r : Run) : Prop where
  one : 1 ≤ r.count
  pk : r.packed = true → r.count ≤ 20 ∧ r.vals.length ≤ 8 * r.count
  rp : r.packed = false → r.count ≤ 300 ∧ r.vals.length = 1
  lt : ∀ v, v ∈ r.vals → v < 2 ^ W
def enc (W : Nat) (rs : List Run) : List Nat := (rs.map (encR W)).flatten
def exp (rs : List Run) : List Nat := (rs.map expR).flatten
theorem enc_cons (W : Nat) (r : Run) (rs : List Run) : enc W (r :: rs) = encR W r ++ enc W rs := rfl
theorem exp_cons (r : Run) (rs : List Run) : exp (r :: rs) = expR r ++ exp rs := rfl
theorem enc_snoc (W : Nat) (rs : List Run) (r : Run) : enc W (rs ++ [r]) = enc W rs ++ encR W r := by simp [enc]
theorem exp_snoc (rs : List Run) (r : Run) : exp (rs ++ [r]) = exp rs ++ expR r := by simp [exp]
theorem Fit.padLen {W : Nat} {r : Run} (h : Fit W r) (hp : r.packed = true) : (padR r).length = 8 * r.count := by
  have := (h.pk hp).2
  simp [padR]; omega
theorem Fit.padLt {W : Nat} {r : Run} (h : Fit W r) : ∀ v, v ∈ padR r → v < 2 ^ W := by
  intro v hv
  rcases List.mem_append.1 hv with h1 | h1
  · exact h.lt v h1
  · obtain ⟨_, rfl⟩ := List.mem_replicate.1 h1
    exact Nat.pow_pos (by decide)
/-- the list l stands at p, and is the end of the data -/
def Here (d : Nat → Nat) (len p : Nat) (l : List Nat) : Prop := p + l.length = len ∧ ∀ i, i < l.length → d (p + i) = l.getD i 0
theorem Here.left {d : Nat → Nat} {len p : Nat} {a b : List Nat} (h : Here d len p (a ++ b)) {i : Nat} (hi : i < a.length) : d (p + i) = a.getD i 0 := by
  rw [h.2 i (by simp; omega)]
  simp [List.getElem?_append_left hi]
theorem Here.right {d : Nat → Nat} {len p : Nat} {a b : List Nat} (h : Here d len p (a ++ b)) : Here d len (p + a.length) b := by
  refine ⟨by have := h.1; simp at this; omega, fun i hi => ?_⟩
  rw [Nat.add_assoc, h.2 (a.length + i) (by simp; omega)]
  simp [List.getElem?_append_right]
/-- what the decoder stands on, and what is yet to come of it -/
def DS (W : Nat) (d : Nat → Nat) (len pos cur rep lit : Nat) (rest : List Nat) : Prop :=
  ∃ rs p, (∀ r, r ∈ rs → Fit W r) ∧ Here d len p (enc W rs) ∧
    (lit = 0 ∧ pos = 8 * p ∧ rest = List.replicate rep cur ++ exp rs ∨
     rep = 0 ∧ 0 < lit ∧ pos + W * lit = 8 * p ∧ rest = ((List.range lit).map fun j => bts (num d len) (pos + W * j) W) ++ exp rs)
theorem DS.rep {W len pos cur rep lit k : Nat} {d : Nat → Nat} {rest : List Nat} (h : DS W d len pos cur rep lit rest) (hk : k ≤ rep) (h0 : 0 < rep) : lit = 0 ∧ DS W d len pos cur (rep - k) 0 (rest.drop k) ∧ k ≤ rest.length ∧ ∀ j, j < k → rest.getD j 0 = cur := by
  obtain ⟨rs, p, hf, hh, h1 | h1⟩ := h
  · obtain ⟨rfl, hp, rfl⟩ := h1
    refine ⟨rfl, ⟨rs, p, hf, hh, .inl ⟨rfl, hp, ?_⟩⟩, by simp; omega, fun j hj => ?_⟩
    · rw [List.drop_append_of_le_length (by simpa using hk), List.drop_replicate]
    · simp [List.getElem?_append_left (show j < (List.replicate rep cur).length by simp; omega), List.getElem?_replicate, show j < rep by omega]
  · omega
theorem DS.lit {W len pos cur rep lit k : Nat} {d : Nat → Nat} {rest : List Nat} (h : DS W d len pos cur rep lit rest) (hk : k ≤ lit) (h0 : 0 < lit) : rep = 0 ∧ DS W d len (pos + W * k) cur 0 (lit - k) (rest.drop k) ∧ k ≤ rest.length ∧ pos + W * k ≤ 8 * len ∧ ∀ j, j < k → rest.getD j 0 = bts (num d len) (pos + W * j) W := by
  obtain ⟨rs, p, hf, hh, h1 | h1⟩ := h
  · omega
  · obtain ⟨rfl, _, hp, rfl⟩ := h1
    have hm := Nat.mul_le_mul_left W hk
    have hl : ((List.range lit).map fun j => bts (num d len) (pos + W * j) W).length = lit := by simp
    have hd : (((List.range lit).map fun j => bts (num d len) (pos + W * j) W) ++ exp rs).drop k = ((List.range (lit - k)).map fun j => bts (num d len) (pos + W * k + W * j) W) ++ exp rs := by
      rw [List.drop_append_of_le_length (by omega)]
      congr 1
      refine List.ext_getElem (by simp) fun i h1 h2 => ?_
      simp only [List.getElem_drop, List.getElem_map, List.getElem_range, Nat.mul_add]
      rw [Nat.add_assoc]
    refine ⟨rfl, ⟨rs, p, hf, hh, ?_⟩, by simp; omega, by have := hh.1; omega, fun j hj => ?_⟩
    · rcases Nat.lt_or_ge k lit with hlt | hge
      · refine .inr ⟨rfl, by omega, ?_, hd⟩
        rw [Nat.add_assoc, ← Nat.mul_add, show k + (lit - k) = lit by omega, hp]
      · obtain rfl : k = lit := by omega
        refine .inl ⟨by omega, hp, ?_⟩
        rw [hd, Nat.sub_self]
        simp
    · simp [List.getElem?_append_left (show j < _ by rw [hl]; omega), show j < lit by omega]
/-- at the end of a run, with more to come: the next run stands there -/
theorem DS.next {W len pos cur : Nat} {d : Nat → Nat} {rest : List Nat} (h : DS W d len pos cur 0 0 rest) (hr : rest ≠ []) :
    ∃ r rs p, pos = 8 * p ∧ Fit W r ∧ (∀ x, x ∈ rs → Fit W x) ∧ Here d len p (encR W r ++ enc W rs) ∧ rest = expR r ++ exp rs := by
  obtain ⟨rs, p, hf, hh, h1 | h1⟩ := h
  · obtain ⟨_, hp, rfl⟩ := h1
    cases rs with
    | nil => exact absurd rfl hr
    | cons r rs => exact ⟨r, rs, p, hp, hf r List.mem_cons_self, fun x hx => hf x (List.mem_cons_of_mem _ hx), hh, rfl⟩
  · omega
theorem pk_length (W : Nat) (l : List Nat) : (pk W l).length = (l.length * W + 7) / 8 := by simp [pk]
theorem leb_length (n v : Nat) : (leb n v).length = n := by simp [leb]
/-- behind the header of a packed run -/
theorem DS.packed {W len p cur : Nat} {d : Nat → Nat} {r : Run} {rs : List Run} (hs : ∀ i, i < len → d i < 256) (hf : Fit W r) (hfs : ∀ x, x ∈ rs → Fit W x) (hp : r.packed = true) (hh : Here d len p (pk W (padR r) ++ enc W rs)) :
    DS W d len (8 * p) cur 0 (8 * r.count) (expR r ++ exp rs) := by
  have hl := hf.padLen hp
  have h1 := hf.one
  have hpl := pk_length W (padR r)
  rw [hl] at hpl
  have hpl2 : (pk W (padR r)).length = r.count * W := by rw [hpl]; rw [Nat.mul_assoc]; omega
  refine ⟨rs, p + (pk W (padR r)).length, hfs, hh.right, .inr ⟨rfl, by omega, ?_, ?_⟩⟩
  · rw [hpl2, Nat.mul_add, Nat.mul_left_comm, Nat.mul_comm W]
  · congr 1
    unfold expR
    rw [if_pos hp]
    refine List.ext_getElem (by simp [hl]) fun j h2 h3 => ?_
    simp only [List.getElem_map, List.getElem_range]
    have hj : j < (padR r).length := h2
    have hw : W * j + W ≤ 8 * (r.count * W) := by
      have := Nat.mul_le_mul_left W (show j + 1 ≤ 8 * r.count by omega)
      rw [Nat.mul_add, Nat.mul_one] at this
      rw [← Nat.mul_assoc, Nat.mul_comm (8 * r.count)]
      exact this
    rw [bts_of (P := pn W (padR r)) (n := r.count * W) hs (by have := hh.1; simp at this; omega) (fun q hq => ?_) hw, pn_at hf.padLt hj]
    · simp [hj]
    · rw [hh.left (by omega)]
      have : q < (8 * r.count * W + 7) / 8 := by rw [← hpl, hpl2]; exact hq
      simp [pk, hl, this]
/-- behind the bytes of a repeated value -/
theorem DS.repeated {W len p : Nat} {d : Nat → Nat} {r : Run} {rs : List Run} (hfs : ∀ x, x ∈ rs → Fit W x) (hp : r.packed = false) (hh : Here d len p (leb ((W + 7) / 8) (r.vals.getD 0 0) ++ enc W rs)) :
    DS W d len (8 * (p + (W + 7) / 8)) (r.vals.getD 0 0) r.count 0 (expR r ++ exp rs) := by
  have h := hh.right
  rw [leb_length] at h
  refine ⟨rs, _, hfs, h, .inl ⟨rfl, rfl, ?_⟩⟩
  unfold expR
  rw [hp]
  rfl
end Go.Proofs.YthmknddfkmklfaaGreatDoor.Rl
