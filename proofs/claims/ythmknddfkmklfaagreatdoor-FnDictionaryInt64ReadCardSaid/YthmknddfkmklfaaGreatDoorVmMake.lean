/- Slices made, put together, appended to. -/
import Derived.Test.YthmknddfkmklfaaGreatDoorVmMore
import Derived.Laws.MakeOwn
import Derived.Laws.OwnMore
namespace Go.Proofs.YthmknddfkmklfaaGreatDoor.Vm
open Go Mix Go.RowKit
/-- the slice v holds xs, one cell each, in a block of our own behind base -/
def Own (w : World) (base : Nat) (E : TypeId) (v : Value) (xs : List Value) : Prop := w.ownsRow base E 1 v xs.length xs
section
variable {w w' : World} {base : Nat} {E : TypeId} {v : Value} {xs : List Value} {S : List Nat}
theorem Own.nil (w : World) (base : Nat) (E : TypeId) : Own w base E (.slice none 0 0) [] := World.ownsRow_nil w base E 1
theorem Own.same (h : Own w base E v xs) (hs : Same S w w') (hS : ∀ g, g ∈ S → g < base ∨ w.heap.size ≤ g) : Own w' base E v xs := by
  obtain ⟨hl, h | ⟨g, cap, cur, h1, h2, h3, h4⟩⟩ := h
  · exact ⟨hl, .inl h⟩
  · have hlt : g < w.heap.size := (Array.getElem?_eq_some_iff.1 h3).1
    refine ⟨hl, .inr ⟨g, cap, cur, h1, h2, (hs.block g hlt fun hm => ?_).trans h3, h4⟩⟩
    rcases hS g hm with h | h <;> omega
/-- such a slice read: where it lies -/
theorem Own.read (h : Own w base E v xs) : v = .slice none 0 0 ∧ xs = [] ∨ ∃ g cap, v = .slice (some ⟨g, 0, none⟩) xs.length cap ∧ base ≤ g ∧ g < w.heap.size ∧ Rd w g 0 xs.length (fun i => xs.getD i undef) := by
  obtain ⟨hl, h | ⟨g, cap, cur, h1, h2, h3, h4, h5, h6, h7⟩⟩ := h
  · exact .inl ⟨h.1, List.eq_nil_of_length_eq_zero h.2⟩
  · refine .inr ⟨g, cap, h1, h2, (Array.getElem?_eq_some_iff.1 h3).1, fun i hi => ?_⟩
    have : cur[i]? = xs[i]? := by
      rw [← h7, List.getElem?_take, if_pos (by omega)]
      simp
    simp [World.cell?, h3, this, hi]
end
section
variable {X : Cx} {m : Option (List Nat)} {ops : Array Oper} {rest : List Oper} {ks : List KI} {ds : List Deferred} {l : Kn} {w : World} {d ty : Nat} {pos : String} {aft : Array Edge} {v : Value}
theorem WR.make {T E by' : Nat} {x y : Operand} {n : Nat} {z : Value} (hx : ev l x = some (.int .i64 (n : Nat))) (hy : ev l y = some (.int .i64 (n : Nat))) (hu : X.P.underlying T = some (.slice E)) (hi : (X.P.info? E).map (fun i => (i.size, i.bytes, i.zero)) = some (1, by', some z)) (hz : z.cells = #[z]) (hby : by' ≤ 16) (hn : n ≤ 1099511627776)
    (hc : eventOK m (.makeSlice T x y) ty = true) (hd : Nat.blt d X.n = true)
    (kk : ∀ w', Row w' w.heap.size E n (fun _ => z) → Same [] w w' → WR X m ops rest ks ds ((d, .slice (some ⟨w.heap.size, 0, none⟩) n n) :: l) w') : WR X m ops (⟨some d, .makeSlice T x y, ty, pos, aft, none⟩ :: rest) ks ds l w := by
  cases hi' : X.P.info? E with
  | none => rw [hi'] at hi; cases hi
  | some i =>
    rw [hi'] at hi
    simp only [Option.map_some, Option.some.injEq, Prod.mk.injEq] at hi
    obtain ⟨hs, hb, hz'⟩ := hi
    have hnb : i.bytes * n ≤ 16 * 1099511627776 := by rw [hb]; exact Nat.mul_le_mul hby hn
    have hr := run_make (P := X.P) w T E i z hu hi' hz' .i64 .i64 (n : Nat) (n : Nat) (by omega) (by omega) (by rw [← Int.natCast_mul]; omega) (by omega)
    simp only [Int.toNat_natCast, hs, Nat.mul_one, hz] at hr
    refine WR.event hd hc (w' := w.alloc (.cells (madeCells #[z] n) E)) (fun a ha => ?_) (kk _ ?_ (Same.alloc w _))
    · simp only [execOp, ha.ev hx, ha.ev hy, Sem.run_bind, hr, Result.andThen_ok, Sem.run_pure]
    · have := Row.alloc w (madeCells #[z] n) E
      rw [size_madeCells] at this
      refine this.congr fun j hj => ?_
      simp [madeCells, hj, Nat.mod_one]
theorem WR.appendOwn {t E by' : Nat} {x y : Operand} {g o k c base : Nat} {xs : List Value} {h : Nat → Value} {z : Value} (hx : ev l x = some v) (hown : Own w base E v xs) (hy : ev l y = some (.slice (some ⟨g, o, none⟩) k c)) (hrd : Rd w g o k h) (h1 : ∀ i, i < k → (h i).oneCell' = true)
    (hu : X.P.underlying t = some (.slice E)) (hi : (X.P.info? E).map (fun i => (i.size, i.bytes, i.zero)) = some (1, by', some z)) (hz : z.cells = #[z]) (hby : by' ≤ 16) (hn : xs.length + k ≤ 1099511627776) (hbase : base ≤ w.heap.size)
    (hc : eventOK m (.call ⟨.builtin .append, #[x, y], #[t, t]⟩) ty = true) (hd : Nat.blt d X.n = true)
    (kk : ∀ v' w' S, Own w' base E v' (xs ++ (List.range k).map h) → Same S w w' → (∀ g, g ∈ S → base ≤ g) → WR X m ops rest ks ds ((d, v') :: l) w') :
    WR X m ops (⟨some d, .call ⟨.builtin .append, #[x, y], #[t, t]⟩, ty, pos, aft, none⟩ :: rest) ks ds l w := by
  cases hi' : X.P.info? E with
  | none => rw [hi'] at hi; cases hi
  | some i =>
    rw [hi'] at hi
    simp only [Option.map_some, Option.some.injEq, Prod.mk.injEq] at hi
    obtain ⟨hs, hb, hz'⟩ := hi
    have hnb : (xs.length + k) * by' ≤ 1099511627776 * 16 := Nat.mul_le_mul hn hby
    obtain ⟨v', w', hrun, ho, hg, -⟩ := run_append_own (P := X.P) w base t ty E i z 1 by' hu hi' hz' hs hb (by rw [hz]; rfl) (by decide) v xs.length xs hown ⟨g, o, none⟩ k c ((List.range k).map h) (by simp)
      (fun j u hj => by
        simp only [List.getElem?_map, Option.map_eq_some_iff] at hj
        obtain ⟨j', hj1, rfl⟩ := hj
        have hlt := List.getElem?_eq_some_iff.1 hj1
        obtain ⟨hlt, rfl⟩ := hlt
        simp at hlt ⊢
        rw [Addr.add_lit]
        exact hrd j hlt)
      (fun u hu' => by
        obtain ⟨j, hj, rfl⟩ := List.mem_map.1 hu'
        exact h1 j (List.mem_range.1 hj))
      (by simp only [maxLen]; omega) (by omega) hbase
    refine WR.event hd hc (w' := w') (fun a ha => ?_) (kk v' w' (v.ownBlock.toList) ?_ ⟨hg.size, fun q hq hqS => hg.block q hq fun e => hqS ?_, hg.os, hg.output, hg.tape⟩ ?_)
    · simp only [execOp, resolve, Sem.run_bind, Sem.run_pure, Result.andThen_ok, Go.invoke, builtin, List.map_toArray, List.map_cons, List.map_nil, ha.ev hx, ha.ev hy, hrun]
    · unfold Own
      rw [List.length_append, List.length_map, List.length_range]
      exact ho
    · rw [← e]; simp
    · intro q hq
      exact (World.ownsRow.lt hown q (by simpa using hq)).1
theorem WR.buildSl {t n E : Nat} {parts : Array (Nat × Operand)} {ps : List (Nat × Operand)} {vs : List (Nat × Value)} {cs : Array Value} (hp : parts = ps.toArray) (hv : evps l ps = some vs) (hrun : ∀ w, (Instr.buildSlice t n vs.toArray).run X.P w = .ok (.slice (some ⟨w.heap.size, 0, none⟩) n n) (w.alloc (.cells cs E))) (hd : Nat.blt d X.n = true)
    (hc : eventOK m (.buildSlice t n parts) ty = true) (kk : ∀ w', Row w' w.heap.size E cs.size (fun i => cs.getD i undef) → Same [] w w' → WR X m ops rest ks ds ((d, .slice (some ⟨w.heap.size, 0, none⟩) n n) :: l) w') : WR X m ops (⟨some d, .buildSlice t n parts, ty, pos, aft, none⟩ :: rest) ks ds l w :=
  WR.event hd hc (fun a ha => by
    have he := evps_of ha hv
    subst hp
    simp only [execOp, Sem.run_bind, List.map_toArray]
    rw [show (ps.map fun (x : Nat × Operand) => match x with | (i, x) => (i, a.eval x)) = vs from he]
    simp [hrun]) (kk _ (Row.alloc w cs E) (Same.alloc w _))
/-- a guarded operation whose guard was itself passed over -/
theorem WR.passU {op : Op} {j t : Nat} {want : Bool} (hd : Nat.blt d X.n = true) (hj : (ops[j]?).bind (·.dst) = some t) (hb : look l t = some undef)
    (k : WR X m ops rest ks ds ((d, undef) :: l) w) : WR X m ops (⟨some d, op, ty, pos, aft, some (j, want)⟩ :: rest) ks ds l w := by
  intro a ha
  have hk := k _ (ha.put hd undef)
  have hwt : Region.wanted ⟨some d, op, ty, pos, aft, some (j, want)⟩ (yielded ops a.tmps) = false := by
    have hg := ha.get t _ hb
    rw [Array.getD_eq_getD_getElem?] at hg
    unfold Region.wanted yielded
    simp only [hj]
    cases hq : a.tmps[t]? with
    | none => simp [hq]
    | some u => rw [hq] at hg; simp only [Option.getD_some] at hg; subst hg; simp [hq, undef]
  cases m with
  | none =>
    show wpList _ _ _ _ _ _
    unfold wpList
    rw [hwt, if_neg (by simp)]
    exact hk
  | some qs =>
    show wpMix _ _ _ _ _ _ _
    unfold wpMix
    rw [hwt]
    split
    · rw [if_neg (by simp)]; exact hk
    · rw [if_neg (by simp)]; exact hk
end
end Go.Proofs.YthmknddfkmklfaaGreatDoor.Vm
