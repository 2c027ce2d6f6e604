/- Memory, for the layer Vm: a block that is known whole; what a step leaves as it was; loads, stores, addresses, slices. -/
import Derived.Test.YtajgdpiodpoooaaGreatDoorVmOps
namespace Go.Proofs.YtajgdpiodpoooaaGreatDoor.Vm
open Go Mix Go.RowKit

/-- block b is a row of n cells of type t, none of them frozen; cell i holds f i -/
def Row (w : World) (b : Nat) (t : TypeId) (n : Nat) (f : Nat → Value) : Prop := ∃ c : Array Value, w.heap[b]? = some (.cells c t (0, 0)) ∧ c.size = n ∧ ∀ i, i < n → c[i]? = some (f i)
def upd (f : Nat → Value) (i : Nat) (v : Value) : Nat → Value := fun j => if j = i then v else f j
/-- cells that are read alone -/
def Rd (w : World) (b o n : Nat) (f : Nat → Value) : Prop := ∀ i, i < n → w.cell? ⟨b, o + i, none⟩ = some (f i)
/-- all blocks of w but those of S are in w' as they were -/
structure Same (S : List Nat) (w w' : World) : Prop where
  size : w.heap.size ≤ w'.heap.size
  block : ∀ g, g < w.heap.size → g ∉ S → w'.heap[g]? = w.heap[g]?
  os : w'.os = w.os
  out : w'.output = w.output
  tape : w'.tape = w.tape

section
variable {w w' w1 w2 : World} {b o n t g : Nat} {f f' : Nat → Value} {S S' : List Nat} {v : Value}
theorem Row.lt (h : Row w b t n f) : b < w.heap.size := by
  obtain ⟨c, hc, _⟩ := h
  exact (Array.getElem?_eq_some_iff.1 hc).1
theorem Row.cell (h : Row w b t n f) {i : Nat} (hi : i < n) : w.cell? ⟨b, i, none⟩ = some (f i) := by
  obtain ⟨c, hc, _, hf⟩ := h
  simp [World.cell?, hc, hf i hi]
theorem Row.fz (h : Row w b t n f) (i : Nat) : w.frozen? ⟨b, i, none⟩ = false := by
  obtain ⟨c, hc, _, _⟩ := h
  simp [World.frozen?, hc]
theorem Row.same (h : Row w b t n f) (hs : Same S w w') (hb : b ∉ S) : Row w' b t n f := by
  have hlt := h.lt
  obtain ⟨c, hc, hn, hf⟩ := h
  exact ⟨c, (hs.block b hlt hb).trans hc, hn, hf⟩
theorem Row.congr (h : Row w b t n f) (he : ∀ i, i < n → f i = f' i) : Row w b t n f' := by
  obtain ⟨c, hc, hn, hf⟩ := h
  exact ⟨c, hc, hn, fun i hi => by rw [hf i hi, he i hi]⟩
theorem Row.set (h : Row w b t n f) (i : Nat) (v : Value) : Row (w.setCell ⟨b, i, none⟩ v) b t n (upd f i v) := by
  obtain ⟨c, hc, hn, hf⟩ := h
  refine ⟨c.setIfInBounds i v, by simp [World.setCell, Array.getElem?_modify, hc], by simp [hn], fun j hj => ?_⟩
  rw [Array.getElem?_setIfInBounds, upd]
  by_cases hji : i = j
  · subst hji; simp [hn, hj]
  · rw [if_neg hji, if_neg (fun e => hji e.symm)]; exact hf j hj
theorem Row.rd (h : Row w b t n f) (o k : Nat) (hk : o + k ≤ n) : Rd w b o k (fun i => f (o + i)) := fun _ hi => h.cell (by omega)
theorem Rd.same (h : Rd w b o n f) (hs : Same S w w') (hb : b ∉ S) (hlt : b < w.heap.size) : Rd w' b o n f := fun i hi => by
  have := h i hi
  unfold World.cell? at this ⊢
  rw [hs.block b hlt hb]
  exact this
theorem Rd.congr (h : Rd w b o n f) (he : ∀ i, i < n → f i = f' i) : Rd w b o n f' := fun i hi => by rw [h i hi, he i hi]

theorem Same.refl (S : List Nat) (w : World) : Same S w w := ⟨Nat.le_refl _, fun _ _ _ => rfl, rfl, rfl, rfl⟩
theorem Same.trans (h : Same S w w1) (h' : Same S' w1 w2) (hS : ∀ g, g ∈ S' → g ∈ S ∨ w.heap.size ≤ g) : Same S w w2 :=
  ⟨Nat.le_trans h.size h'.size, fun g hg hgS => by
    have hg' : g ∉ S' := fun hm => by
      rcases hS g hm with h1 | h1
      · exact hgS h1
      · omega
    rw [h'.block g (Nat.lt_of_lt_of_le hg h.size) hg', h.block g hg hgS], h'.os.trans h.os, h'.out.trans h.out, h'.tape.trans h.tape⟩
theorem Same.more (h : Same S w w') (hS : ∀ g, g ∈ S → g ∈ S' ∨ w.heap.size ≤ g) : Same S' w w' :=
  ⟨h.size, fun g hg hgS => h.block g hg fun hm => by
    rcases hS g hm with h1 | h1
    · exact hgS h1
    · omega, h.os, h.out, h.tape⟩
theorem Same.drew (w : World) : Same [] w w.drew := ⟨Nat.le_refl _, fun _ _ _ => rfl, rfl, rfl, rfl⟩
theorem Same.setCell (w : World) (p : Addr) (v : Value) : Same [p.block] w (w.setCell p v) :=
  ⟨by simp [World.setCell], fun g _ hgS => by
    have hne : p.block ≠ g := fun e => hgS (by simp [e])
    simp [World.setCell, Array.getElem?_modify, hne], rfl, rfl, rfl⟩
theorem Same.alloc (w : World) (o : Obj) : Same [] w (w.alloc o) :=
  ⟨by show w.heap.size ≤ (w.heap.push o).size; simp, fun g hg _ => by show (w.heap.push o)[g]? = _; simp [Array.getElem?_push, Nat.ne_of_lt hg], rfl, rfl, rfl⟩
theorem Row.alloc (w : World) (c : Array Value) (t : TypeId) : Row (w.alloc (.cells c t)) w.heap.size t c.size (fun i => c.getD i undef) := by
  exact ⟨c, by show (w.heap.push _)[w.heap.size]? = _; simp, rfl, fun i hi => by simp [hi]⟩
end

section
variable {X : Cx} {m : Option (List Nat)} {ops : Array Oper} {rest : List Oper} {ks : List KI} {ds : List Deferred} {l : Kn} {w : World} {d ty : Nat} {pos : String} {aft : Array Edge} {v : Value}

def plainD : TypeDesc → Bool
  | .struct _ | .array _ _ => false
  | _ => true
theorem run_isAgg {P : Program} {t : TypeId} {D : TypeDesc} (hu : P.underlying t = some D) (hD : plainD D = true) (w : World) : (isAgg t).run P w = .ok false w := by
  unfold isAgg
  simp only [Sem.run_bind, run_underlying hu, Result.andThen_ok]
  cases D <;> first | rfl | cases hD
/-- a load of one cell -/
theorem WR.load {t : TypeId} {x : Operand} {p : Addr} {D : TypeDesc} (hx : ev l x = some (.pointer (some p))) (hu : X.P.underlying t = some D) (hD : plainD D = true) (hc : w.cell? p = some v) (hd : Nat.blt d X.n = true)
    (k : WR X m ops rest ks ds ((d, v) :: l) w) : WR X m ops (⟨some d, .load t x, ty, pos, aft, none⟩ :: rest) ks ds l w :=
  WR.still hd (by cases m <;> rfl) (fun a ha => by
    simp only [execOp, ha.ev hx, Instr.loadAt, Instr.sureAddr, loadVar, Sem.run_bind, Sem.run_pure, Result.andThen_ok, run_isAgg hu hD]
    simp [hc]) k
theorem run_sizeOf {P : Program} {t s : Nat} (h : (P.info? t).map (·.size) = some s) (w : World) : (sizeOf t).run P w = .ok s w := by
  unfold sizeOf typeInfo
  cases hi : P.info? t with
  | none => rw [hi] at h; cases h
  | some i =>
    rw [hi] at h
    simp only [Option.map_some, Option.some.injEq] at h
    simp [Sem.run_bind, hi, h]
/-- a store of one cell -/
theorem WR.store {t : TypeId} {x y : Operand} {p : Addr} {old : Value} (hx : ev l x = some (.pointer (some p))) (hy : ev l y = some v) (h1 : v.oneCell' = true) (hs : (X.P.info? t).map (·.size) = some 1) (hc : w.cell? p = some old) (hf : w.frozen? p = false)
    (k : WR X m ops rest ks ds l (w.setCell p v)) : WR X m ops (⟨none, .store t x y, ty, pos, aft, none⟩ :: rest) ks ds l w :=
  WR.eventN (by cases m <;> rfl) (fun a ha => by
    have hv : v.cells = #[v] := by
      revert h1
      cases v <;> first | (intro _; rfl) | (intro h; cases h)
    have hcell : (storeCells p [v]).run X.P w = .ok () (w.setCell p v) := by
      unfold storeCells
      rw [show p.add 0 = p from by simp [Addr.add]]
      have h0 : (Go.store p v).run X.P w = .ok () (w.setCell p v) := by rw [run_store _ _ _ _ _ h1, hc]; simp [hf]
      simp only [Sem.run_bind, h0, Result.andThen_ok]
      rfl
    simp only [execOp, ha.ev hx, ha.ev hy, Instr.storeAt, Instr.sureAddr, storeVar, Sem.run_bind, Sem.run_pure, Result.andThen_ok, run_sizeOf hs]
    rw [hv]
    simp [hcell]) k
/-- the address of a field: a closed fact of the type says where it lies -/
theorem WR.field {s i : Nat} {x : Operand} {b o off : Nat} (hx : ev l x = some (.pointer (some ⟨b, o, none⟩)))
    (hf : ∀ (b o : Nat) (w : World), (Instr.fieldAt s (.pointer (some ⟨b, o, none⟩)) i).run X.P w = .ok (.pointer (some ⟨b, o + off, none⟩)) w) (hd : Nat.blt d X.n = true)
    (k : WR X m ops rest ks ds ((d, .pointer (some ⟨b, o + off, none⟩)) :: l) w) : WR X m ops (⟨some d, .fieldAddr s x i, ty, pos, aft, none⟩ :: rest) ks ds l w :=
  WR.still hd (by cases m <;> rfl) (fun a ha => by simp only [execOp, ha.ev hx, Sem.run_bind, hf, Result.andThen_ok, Sem.run_pure]) k
end
end Go.Proofs.YtajgdpiodpoooaaGreatDoor.Vm
