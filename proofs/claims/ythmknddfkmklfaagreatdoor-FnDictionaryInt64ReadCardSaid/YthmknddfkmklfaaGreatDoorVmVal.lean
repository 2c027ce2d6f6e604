/- Lists of impl.Value, four cells each: read through a slice, appended to. -/
import Derived.Test.YthmknddfkmklfaaGreatDoorFnZc
namespace Go.Proofs.YthmknddfkmklfaaGreatDoor.Vm
open Go Mix Go.RowKit Num
def c4 (f : Nat → Value) : List Value := [f 0, f 1, f 2, f 3]
/-- the cells of a list of values -/
def fl : List (Nat → Value) → List Value
  | [] => []
  | f :: l => c4 f ++ fl l
theorem fl_length : ∀ (xs : List (Nat → Value)), (fl xs).length = 4 * xs.length
  | [] => rfl
  | f :: l => by
    have := fl_length l
    simp only [fl, c4, List.length_append, List.length_cons, List.length_nil, this]; omega
theorem fl_append : ∀ (xs ys : List (Nat → Value)), fl (xs ++ ys) = fl xs ++ fl ys
  | [], _ => rfl
  | f :: l, ys => by simp only [List.cons_append, fl, fl_append l ys, List.append_assoc]
theorem c4_getD (f : Nat → Value) {i : Nat} (h : i < 4) : (c4 f).getD i undef = f i := by
  rcases (show i = 0 ∨ i = 1 ∨ i = 2 ∨ i = 3 by omega) with rfl | rfl | rfl | rfl <;> rfl
def vz : Nat → Value := fun _ => undef
theorem fl_getD : ∀ {xs : List (Nat → Value)} {j i : Nat}, j < xs.length → i < 4 → (fl xs).getD (4 * j + i) undef = (xs.getD j vz) i
  | [], j, _, hj, _ => absurd hj (Nat.not_lt_zero j)
  | f :: l, 0, i, _, hi => by
    have h4 : (c4 f).length = 4 := rfl
    rw [show 4 * 0 + i = i by omega, List.getD_eq_getElem?_getD]
    simp only [fl]
    rw [List.getElem?_append_left (by omega), ← List.getD_eq_getElem?_getD, c4_getD f hi]
    rfl
  | f :: l, j + 1, i, hj, hi => by
    have h4 : (c4 f).length = 4 := rfl
    have ih := fl_getD (xs := l) (j := j) (i := i) (by simpa using hj) hi
    rw [List.getD_eq_getElem?_getD] at ih ⊢
    simp only [fl]
    rw [List.getElem?_append_right (by omega), show 4 * (j + 1) + i - (c4 f).length = 4 * j + i by omega, ih]
    rfl
/-- the slice v holds the values xs in a block of our own -/
def OwV (w : World) (base : Nat) (v : Value) (xs : List (Nat → Value)) : Prop := w.ownsRow base 35 4 v xs.length (fl xs)
/-- the slice v reads as the values xs, in a block from lo on and ahead of hi -/
def LsV (w : World) (v : Value) (xs : List (Nat → Value)) : Prop :=
  v = .slice none 0 0 ∧ xs = [] ∨ ∃ g o c, v = .slice (some ⟨g, o, none⟩) xs.length c ∧ g < w.heap.size ∧ Rd w g o (4 * xs.length) (fun i => (fl xs).getD i undef)
section
variable {w w' : World} {base : Nat} {v : Value} {xs ys : List (Nat → Value)} {S : List Nat}
theorem OwV.nil (w : World) (base : Nat) : OwV w base (.slice none 0 0) [] := World.ownsRow_nil w base _ 4
theorem OwV.same (h : OwV w base v xs) (hs : Same S w w') (hS : ∀ g, g ∈ S → g < base ∨ w.heap.size ≤ g) : OwV w' base v xs := by
  obtain ⟨hl, h | ⟨g, cap, cur, h1, h2, h3, h4⟩⟩ := h
  · exact ⟨hl, .inl h⟩
  · have hlt : g < w.heap.size := (Array.getElem?_eq_some_iff.1 h3).1
    refine ⟨hl, .inr ⟨g, cap, cur, h1, h2, (hs.block g hlt fun hm => ?_).trans h3, h4⟩⟩
    rcases hS g hm with h | h <;> omega
theorem OwV.ls (h : OwV w base v xs) : LsV w v xs := by
  obtain ⟨hl, h | ⟨g, cap, cur, h1, h2, h3, h4, h5, h6, h7⟩⟩ := h
  · exact .inl ⟨h.1, List.eq_nil_of_length_eq_zero h.2⟩
  · refine .inr ⟨g, 0, cap, h1, (Array.getElem?_eq_some_iff.1 h3).1, fun i hi => ?_⟩
    have : cur[i]? = (fl xs)[i]? := by
      rw [← h7, List.getElem?_take, if_pos (by omega)]
      simp
    have hi2 : i < (fl xs).length := by rw [fl_length]; exact hi
    simp [World.cell?, h3, this, hi2]
theorem OwV.one (h : OwV w base v xs) : v.oneCell' = true := by
  obtain ⟨hl, h | ⟨g, cap, cur, h1, _⟩⟩ := h
  · rw [h.1]; rfl
  · rw [h1]; rfl
theorem LsV.same (h : LsV w v xs) (hs : Same S w w') (hS : ∀ g, g < w.heap.size → g ∉ S) : LsV w' v xs := by
  rcases h with h | ⟨g, o, c, h1, h2, h3⟩
  · exact .inl h
  · exact .inr ⟨g, o, c, h1, Nat.lt_of_lt_of_le h2 hs.size, h3.same hs (hS g h2) h2⟩
theorem LsV.shape (h : LsV w v xs) : ∃ A c, v = .slice A xs.length c := by
  rcases h with ⟨h, rfl⟩ | ⟨g, o, c, h1, _⟩
  · exact ⟨none, 0, h⟩
  · exact ⟨_, c, h1⟩
theorem LsV.lit (h : LsV w v xs) (h0 : 0 < xs.length) : ∃ g o c, v = .slice (some ⟨g, o, none⟩) xs.length c ∧ g < w.heap.size ∧ Rd w g o (4 * xs.length) (fun i => (fl xs).getD i undef) := by
  rcases h with ⟨_, rfl⟩ | h
  · simp at h0
  · exact h
/-- the cells of the j-th value -/
theorem LsV.at (h : LsV w v xs) {j : Nat} (hj : j < xs.length) : ∃ g o c, v = .slice (some ⟨g, o, none⟩) xs.length c ∧ g < w.heap.size ∧ Rd w g (o + 4 * j) 4 (xs.getD j vz) := by
  obtain ⟨g, o, c, h1, h2, h3⟩ := h.lit (by omega)
  refine ⟨g, o, c, h1, h2, fun i hi => ?_⟩
  rw [Nat.add_assoc, h3 (4 * j + i) (by omega)]
  show some ((fl xs).getD (4 * j + i) undef) = _
  rw [fl_getD hj hi]
end
section
variable {X : Cx} {m : Option (List Nat)} {ops : Array Oper} {rest : List Oper} {ks : List KI} {ds : List Deferred} {l : Kn} {w : World} {d ty : Nat} {pos : String} {aft : Array Edge} {v : Value}
/-- one value appended -/
theorem WR.appendV {t by' : Nat} {x y : Operand} {base g o c : Nat} {xs : List (Nat → Value)} {f : Nat → Value} {z : Value} (hx : ev l x = some v) (hown : OwV w base v xs) (hy : ev l y = some (.slice (some ⟨g, o, none⟩) 1 c)) (hrd : Rd w g o 4 f) (h1 : ∀ i, i < 4 → (f i).oneCell' = true)
    (hu : X.P.underlying t = some (.slice 35)) (hi : (X.P.info? 35).map (fun i => (i.size, i.bytes, i.zero)) = some (4, by', some z)) (hz : z.cells.size = 4) (hby : by' ≤ 64) (hn : xs.length ≤ 549755813888) (hbase : base ≤ w.heap.size)
    (hc : eventOK m (.call ⟨.builtin .append, #[x, y], #[t, t]⟩) ty = true) (hd : Nat.blt d X.n = true)
    (kk : ∀ v' w' S, OwV w' base v' (xs ++ [f]) → Same S w w' → (∀ g, g ∈ S → base ≤ g) → WR X m ops rest ks ds ((d, v') :: l) w') :
    WR X m ops (⟨some d, .call ⟨.builtin .append, #[x, y], #[t, t]⟩, ty, pos, aft, none⟩ :: rest) ks ds l w := by
  cases hi' : X.P.info? 35 with
  | none => rw [hi'] at hi; cases hi
  | some i =>
    rw [hi'] at hi
    simp only [Option.map_some, Option.some.injEq, Prod.mk.injEq] at hi
    obtain ⟨hs, hb, hz'⟩ := hi
    have hnb : (xs.length + 1) * by' ≤ 549755813889 * 64 := Nat.mul_le_mul (by omega) hby
    obtain ⟨v', w', hrun, ho, hg, -⟩ := run_append_own (P := X.P) w base t ty 35 i z 4 by' hu hi' hz' hs hb hz (by decide) v xs.length (fl xs) hown ⟨g, o, none⟩ 1 c (c4 f) rfl
      (fun j u hj => by
        have hj4 : j < 4 := (List.getElem?_eq_some_iff.1 hj).1
        rw [Addr.add_lit, hrd j hj4]
        have := c4_getD f hj4
        rw [List.getD_eq_getElem?_getD, hj] at this
        exact congrArg some this.symm)
      (fun u hu' => by
        obtain ⟨j, hj, rfl⟩ := List.getElem_of_mem hu'
        have hj4 : j < 4 := hj
        have := c4_getD f hj4
        rw [List.getD_eq_getElem?_getD, List.getElem?_eq_getElem hj] at this
        simp only [Option.getD_some] at this
        rw [this]
        exact h1 j hj4)
      (by simp only [maxLen]; omega) (by omega) hbase
    refine WR.event hd hc (w' := w') (fun a ha => ?_) (kk v' w' (v.ownBlock.toList) ?_ ⟨hg.size, fun q hq hqS => hg.block q hq fun e => hqS ?_, hg.os, hg.output, hg.tape⟩ ?_)
    · simp only [execOp, resolve, Sem.run_bind, Sem.run_pure, Result.andThen_ok, Go.invoke, builtin, List.map_toArray, List.map_cons, List.map_nil, ha.ev hx, ha.ev hy, hrun]
    · unfold OwV
      rw [fl_append, List.length_append]
      simp only [fl, List.append_nil, List.length_cons, List.length_nil, Nat.zero_add]
      exact ho
    · rw [← e]; simp
    · intro q hq
      exact (World.ownsRow.lt hown q (by simpa using hq)).1
end
/-- a plain value: a number -/
def vF (n : Nat) : Nat → Value
  | 0 => .bool false
  | 1 => .int .u64 (n : Nat)
  | 2 => .string ⟨#[]⟩
  | _ => .slice none 0 0
def vN (n : Nat) : Value := .agg #[.bool false, .int .u64 (n : Nat), .string ⟨#[]⟩, .slice none 0 0]
theorem vF_one (n : Nat) {i : Nat} (h : i < 4) : (vF n i).oneCell' = true := by
  rcases (show i = 0 ∨ i = 1 ∨ i = 2 ∨ i = 3 by omega) with rfl | rfl | rfl | rfl <;> rfl
theorem vv_zv (w : World) : (zeroValue 35).run Tryz.prog w = .ok (vN 0) w := by kernel_rfl
theorem mkV : (Tryz.prog.info? 35).map (fun i => (i.size, i.bytes, i.zero)) = some (4, 56, some (vN 0)) := by kernel_rfl
def u8s (xs : List Nat) : List Value := xs.map fun n => .int .u8 (n : Nat)
theorem u8s_append (xs ys : List Nat) : u8s (xs ++ ys) = u8s xs ++ u8s ys := by simp [u8s]
theorem u8s_length (xs : List Nat) : (u8s xs).length = xs.length := by simp [u8s]
theorem u8s_getD {xs : List Nat} {i : Nat} (h : i < xs.length) : (u8s xs).getD i undef = .int .u8 (xs.getD i 0 : Nat) := by simp [u8s, h]
theorem u8s_one {xs : List Nat} {i : Nat} (h : i < (u8s xs).length) : ((u8s xs).getD i undef).oneCell' = true := by
  rw [u8s_length] at h
  rw [u8s_getD h]; rfl
theorem Own.full {w : World} {base E : Nat} {v : Value} {xs : List Value} (h : Own w base E v xs) (h0 : 0 < xs.length) : ∃ g cap, v = .slice (some ⟨g, 0, none⟩) xs.length cap ∧ base ≤ g ∧ g < w.heap.size ∧ xs.length ≤ cap ∧ Rd w g 0 xs.length (fun i => xs.getD i undef) := by
  rcases h.read with ⟨_, rfl⟩ | ⟨g, c, h1, h2, h3, h4⟩
  · simp at h0
  · obtain ⟨_, ⟨h5, _⟩ | ⟨g', cap, cur, h5, h6, h7, h8, _⟩⟩ := h
    · rw [h1] at h5; cases h5
    · rw [h1] at h5
      cases h5
      exact ⟨g, c, h1, h2, h3, h8, h4⟩
end Go.Proofs.YthmknddfkmklfaaGreatDoor.Vm
