/- The structs of this road in memory: a bytes.Reader, a BitReader; the listed variables. -/
import Derived.Test.YthmknddfkmklfaaGreatDoorVmMore
namespace Go.Proofs.YthmknddfkmklfaaGreatDoor.Vm
open Go Mix Go.RowKit

/-- where the data lie: 0 no slice at all, else the place in block db, counted from 1 -/
def ad (db : Nat) : Nat → Option Addr
  | 0 => none
  | o + 1 => some ⟨db, o, none⟩
/-- a bytes.Reader: what it reads, and how far it is -/
def rdF (db o len cap : Nat) (p r : Int) : Nat → Value
  | 0 => .slice (ad db o) len cap
  | 1 => .int .i64 p
  | _ => .int .i64 r
/-- where a bytes.Reader lies: its block and place, and what else is in the block -/
structure RB where
  blk : Nat
  off : Nat
  T : Nat
  n : Nat
  base : Nat → Value
instance : Coe RB Nat := ⟨RB.blk⟩
def rbF (rb : RB) (g : Nat → Value) : Nat → Value := fun i => if rb.off ≤ i ∧ i < rb.off + 3 then g (i - rb.off) else rb.base i
theorem rbF_at (rb : RB) (g : Nat → Value) {k : Nat} (hk : k < 3) : rbF rb g (rb.off + k) = g k := by
  unfold rbF
  rw [if_pos (by omega), show rb.off + k - rb.off = k by omega]
theorem rbF_upd (rb : RB) (g : Nat → Value) {k : Nat} (hk : k < 3) (v : Value) (i : Nat) : upd (rbF rb g) (rb.off + k) v i = rbF rb (upd g k v) i := by
  unfold upd rbF
  by_cases h : i = rb.off + k
  · subst h
    rw [if_pos rfl, if_pos (by omega)]
    show v = if rb.off + k - rb.off = k then v else g (rb.off + k - rb.off)
    rw [if_pos (by omega)]
  · rw [if_neg h]
    by_cases h2 : rb.off ≤ i ∧ i < rb.off + 3
    · rw [if_pos h2, if_pos h2]
      show g (i - rb.off) = if i - rb.off = k then v else g (i - rb.off)
      rw [if_neg (by omega)]
    · rw [if_neg h2, if_neg h2]
theorem rbF_congr (rb : RB) {g g' : Nat → Value} (h : ∀ k, k < 3 → g k = g' k) (i : Nat) : rbF rb g i = rbF rb g' i := by
  unfold rbF
  by_cases h2 : rb.off ≤ i ∧ i < rb.off + 3
  · rw [if_pos h2, if_pos h2, h _ (by omega)]
  · rw [if_neg h2, if_neg h2]
structure RD (w : World) (rb : RB) (db o len cap : Nat) (p r : Int) : Prop where
  row : Row w rb.blk rb.T rb.n (rbF rb (rdF db o len cap p r))
  fit : rb.off + 3 ≤ rb.n
section
variable {w w' : World} {rb : RB} {db o len cap : Nat} {p r x : Int} {S : List Nat}
theorem RD.cN (h : RD w rb db o len cap p r) {k : Nat} (hk : k < 3) : w.cell? ⟨rb.blk, rb.off + k, none⟩ = some (rdF db o len cap p r k) :=
  (Row.cell (i := rb.off + k) h.row (by have := h.fit; omega)).trans (congrArg some (rbF_at rb _ hk))
theorem RD.c0 (h : RD w rb db o len cap p r) : w.cell? ⟨rb.blk, rb.off + 0, none⟩ = some (.slice (ad db o) len cap) := h.cN (by decide)
theorem RD.c1 (h : RD w rb db o len cap p r) : w.cell? ⟨rb.blk, rb.off + 1, none⟩ = some (.int .i64 p) := h.cN (by decide)
theorem RD.c2 (h : RD w rb db o len cap p r) : w.cell? ⟨rb.blk, rb.off + 2, none⟩ = some (.int .i64 r) := h.cN (by decide)
theorem RD.fz (h : RD w rb db o len cap p r) (i : Nat) : w.frozen? ⟨rb.blk, rb.off + i, none⟩ = false := Row.fz h.row _
theorem RD.lt (h : RD w rb db o len cap p r) : rb.blk < w.heap.size := Row.lt h.row
theorem RD.s1 (h : RD w rb db o len cap p r) (hw : w' = w.setCell ⟨rb.blk, rb.off + 1, none⟩ (.int .i64 x)) : RD w' rb db o len cap x r :=
  ⟨Row.congr (Row.set' h.row hw) fun i _ => (rbF_upd rb _ (by decide) _ i).trans (rbF_congr rb (fun k hk => by
    match k, hk with
    | 0, _ => rfl
    | 1, _ => rfl
    | 2, _ => rfl) i), h.fit⟩
theorem RD.s2 (h : RD w rb db o len cap p r) (hw : w' = w.setCell ⟨rb.blk, rb.off + 2, none⟩ (.int .i64 x)) : RD w' rb db o len cap p x :=
  ⟨Row.congr (Row.set' h.row hw) fun i _ => (rbF_upd rb _ (by decide) _ i).trans (rbF_congr rb (fun k hk => by
    match k, hk with
    | 0, _ => rfl
    | 1, _ => rfl
    | 2, _ => rfl) i), h.fit⟩
theorem RD.same (h : RD w rb db o len cap p r) (hs : Same S w w') (hb : rb.blk ∉ S) : RD w' rb db o len cap p r := ⟨Row.same h.row hs hb, h.fit⟩
end

/-- a BitReader over the bytes.Reader of block rb -/
def brF (rb : RB) (buf bo bit vb : Int) (raw unp : Nat → Value) : Nat → Value
  | 0 => .iface 120 (.pointer (some ⟨rb, rb.off, none⟩))
  | 1 => .int .u64 buf
  | 2 => .int .i64 bo
  | 3 => .int .u64 bit
  | 4 => .int .u64 vb
  | i + 5 => if i < 8 then raw i else unp (i - 8)
def BR (w : World) (b : Nat) (rb : RB) (buf bo bit vb : Int) (raw unp : Nat → Value) : Prop := Row w b 152 1037 (brF rb buf bo bit vb raw unp)
section
variable {w w' : World} {b : Nat} {rb : RB} {buf bo bit vb x : Int} {raw unp : Nat → Value} {S : List Nat} {v : Value}
theorem BR.c0 (h : BR w b rb buf bo bit vb raw unp) : w.cell? ⟨b, 0, none⟩ = some (.iface 120 (.pointer (some ⟨rb, rb.off, none⟩))) := Row.cell (i := 0) h (by decide)
theorem BR.c1 (h : BR w b rb buf bo bit vb raw unp) : w.cell? ⟨b, 1, none⟩ = some (.int .u64 buf) := Row.cell (i := 1) h (by decide)
theorem BR.c2 (h : BR w b rb buf bo bit vb raw unp) : w.cell? ⟨b, 2, none⟩ = some (.int .i64 bo) := Row.cell (i := 2) h (by decide)
theorem BR.c3 (h : BR w b rb buf bo bit vb raw unp) : w.cell? ⟨b, 3, none⟩ = some (.int .u64 bit) := Row.cell (i := 3) h (by decide)
theorem BR.c4 (h : BR w b rb buf bo bit vb raw unp) : w.cell? ⟨b, 4, none⟩ = some (.int .u64 vb) := Row.cell (i := 4) h (by decide)
theorem BR.fz (h : BR w b rb buf bo bit vb raw unp) (i : Nat) : w.frozen? ⟨b, i, none⟩ = false := Row.fz h i
theorem BR.lt (h : BR w b rb buf bo bit vb raw unp) : b < w.heap.size := Row.lt h
theorem brF_upd (i : Nat) (v : Value) {rb' : RB} {buf' bo' bit' vb' : Int} {raw' unp' : Nat → Value} (h0 : upd (brF rb buf bo bit vb raw unp) i v 0 = brF rb' buf' bo' bit' vb' raw' unp' 0)
    (h1 : upd (brF rb buf bo bit vb raw unp) i v 1 = brF rb' buf' bo' bit' vb' raw' unp' 1) (h2 : upd (brF rb buf bo bit vb raw unp) i v 2 = brF rb' buf' bo' bit' vb' raw' unp' 2)
    (h3 : upd (brF rb buf bo bit vb raw unp) i v 3 = brF rb' buf' bo' bit' vb' raw' unp' 3) (h4 : upd (brF rb buf bo bit vb raw unp) i v 4 = brF rb' buf' bo' bit' vb' raw' unp' 4)
    (h5 : ∀ j, upd (brF rb buf bo bit vb raw unp) i v (j + 5) = brF rb' buf' bo' bit' vb' raw' unp' (j + 5)) : ∀ j, j < 1037 → upd (brF rb buf bo bit vb raw unp) i v j = brF rb' buf' bo' bit' vb' raw' unp' j
  | 0, _ => h0
  | 1, _ => h1
  | 2, _ => h2
  | 3, _ => h3
  | 4, _ => h4
  | j + 5, _ => h5 j
theorem BR.s1 (h : BR w b rb buf bo bit vb raw unp) (hw : w' = w.setCell ⟨b, 1, none⟩ (.int .u64 x)) : BR w' b rb x bo bit vb raw unp :=
  Row.congr (Row.set' h hw) (brF_upd _ _ rfl rfl rfl rfl rfl fun j => by simp [upd, brF])
theorem BR.s2 (h : BR w b rb buf bo bit vb raw unp) (hw : w' = w.setCell ⟨b, 2, none⟩ (.int .i64 x)) : BR w' b rb buf x bit vb raw unp :=
  Row.congr (Row.set' h hw) (brF_upd _ _ rfl rfl rfl rfl rfl fun j => by simp [upd, brF])
theorem BR.s3 (h : BR w b rb buf bo bit vb raw unp) (hw : w' = w.setCell ⟨b, 3, none⟩ (.int .u64 x)) : BR w' b rb buf bo x vb raw unp :=
  Row.congr (Row.set' h hw) (brF_upd _ _ rfl rfl rfl rfl rfl fun j => by simp [upd, brF])
theorem BR.s4 (h : BR w b rb buf bo bit vb raw unp) (hw : w' = w.setCell ⟨b, 4, none⟩ (.int .u64 x)) : BR w' b rb buf bo bit x raw unp :=
  Row.congr (Row.set' h hw) (brF_upd _ _ rfl rfl rfl rfl rfl fun j => by simp [upd, brF])
theorem BR.same (h : BR w b rb buf bo bit vb raw unp) (hs : Same S w w') (hb : b ∉ S) : BR w' b rb buf bo bit vb raw unp := Row.same h hs hb
/-- the eight bytes, and the numbers unpacked ahead, as rows of their own -/
theorem BR.raw_of (h : BR w b rb buf bo bit vb raw unp) : Row w b 152 1037 (brF rb buf bo bit vb raw unp) := h
theorem BR.raw_row {f : Nat → Value} (h : Row w b 152 1037 f) (hk : ∀ j, j < 1037 → j < 5 ∨ 13 ≤ j → f j = brF rb buf bo bit vb raw unp j) : BR w b rb buf bo bit vb (fun i => f (i + 5)) unp := by
  refine Row.congr h fun i hi => ?_
  match i, hi with
  | 0, hi => exact hk 0 hi (by omega)
  | 1, hi => exact hk 1 hi (by omega)
  | 2, hi => exact hk 2 hi (by omega)
  | 3, hi => exact hk 3 hi (by omega)
  | 4, hi => exact hk 4 hi (by omega)
  | j + 5, hi =>
    by_cases hj : j < 8
    · simp [brF, hj]
    · rw [hk (j + 5) hi (by omega)]
      simp [brF, hj]
theorem BR.raw_row' {f : Nat → Value} (h : Row w b 152 1037 f) (hk : ∀ j, j < 1037 → j < 5 ∨ 13 ≤ j → f j = brF rb buf bo bit vb raw unp j) : ∃ raw', BR w b rb buf bo bit vb raw' unp ∧ ∀ i, i < 8 → raw' i = f (i + 5) :=
  ⟨_, BR.raw_row h hk, fun _ _ => rfl⟩
theorem BR.raw_set (h : BR w b rb buf bo bit vb raw unp) {j : Nat} (hj : j < 8) (hw : w' = w.setCell ⟨b, 5 + j, none⟩ v) : BR w' b rb buf bo bit vb (upd raw j v) unp := by
  refine Row.congr (Row.set' h hw) fun i hi => ?_
  match i, hi with
  | 0, _ => simp [upd, brF]; omega
  | 1, _ => simp [upd, brF]; omega
  | 2, _ => simp [upd, brF]; omega
  | 3, _ => simp [upd, brF]; omega
  | 4, _ => simp [upd, brF]; omega
  | i + 5, hi =>
    by_cases hij : i = j
    · subst hij; simp [upd, brF, hj, Nat.add_comm]
    · have : ¬ i + 5 = 5 + j := by omega
      simp [upd, brF, this, hij]
theorem BR.raw_rd (h : BR w b rb buf bo bit vb raw unp) : Rd w b 5 8 raw := by
  refine (Row.rd h 5 8 (by omega)).congr fun i hi => ?_
  rw [Nat.add_comm]
  simp [brF, hi]
theorem BR.unp_row {f : Nat → Value} (h : Row w b 152 1037 f) (hk : ∀ j, j < 13 → f j = brF rb buf bo bit vb raw unp j) : BR w b rb buf bo bit vb raw (fun i => f (i + 13)) := by
  refine Row.congr h fun i hi => ?_
  match i, hi with
  | 0, _ => exact hk 0 (by omega)
  | 1, _ => exact hk 1 (by omega)
  | 2, _ => exact hk 2 (by omega)
  | 3, _ => exact hk 3 (by omega)
  | 4, _ => exact hk 4 (by omega)
  | j + 5, hi =>
    by_cases hj : j < 8
    · rw [hk (j + 5) (by omega)]; simp [brF, hj]
    · simp only [brF, if_neg hj]
      rw [show j - 8 + 13 = j + 5 by omega]
end
/-- the listed variables, as far as this road reads them: the three errors lie apart -/
structure Glob (w : World) (aE aU aP : Addr) : Prop where
  eof : w.cell? ⟨2, 0, none⟩ = some (.iface 127 (.pointer (some aE)))
  uex : w.cell? ⟨1, 0, none⟩ = some (.iface 127 (.pointer (some aU)))
  eu : aE ≠ aU
  size : 6 ≤ w.heap.size
theorem cell_same {w w' : World} {S : List Nat} {b o : Nat} {v : Value} (h : w.cell? ⟨b, o, none⟩ = some v) (hs : Same S w w') (hb : b < w.heap.size) (hS : b ∉ S) : w'.cell? ⟨b, o, none⟩ = some v := by
  unfold World.cell? at h ⊢
  rw [hs.block b hb hS]
  exact h
theorem Glob.same {w w' : World} {S : List Nat} {aE aU aP : Addr} (h : Glob w aE aU aP) (hs : Same S w w') (hS : ∀ g, g ∈ S → 6 ≤ g) : Glob w' aE aU aP := by
  have hn : ∀ g, g < 6 → g ∉ S := fun g hg hm => by have := hS g hm; omega
  have hz := h.size
  exact ⟨cell_same h.eof hs (by omega) (hn _ (by omega)), cell_same h.uex hs (by omega) (hn _ (by omega)), h.eu, by have := hs.size; omega⟩
end Go.Proofs.YthmknddfkmklfaaGreatDoor.Vm
