/- Strings compared; lists of values in a block ahead of a bound. -/
import Derived.Test.YthmknddfkmklfaaGreatDoorFnZh
namespace Go.Proofs.YthmknddfkmklfaaGreatDoor.Vm
open Go Mix Go.RowKit Num
section
variable {X : Cx} {m : Option (List Nat)} {ops : Array Oper} {rest : List Oper} {ks : List KI} {ds : List Deferred} {l : Kn} {w : World} {d ty : Nat} {pos : String} {aft : Array Edge} {v : Value}
theorem WR.neqS {t t' : TypeId} {x y : Operand} {a b : ByteArray} (hx : ev l x = some (.string a)) (hy : ev l y = some (.string b)) (hd : Nat.blt d X.n = true)
    (kk : WR X m ops rest ks ds ((d, .bool (!(a.toList == b.toList))) :: l) w) : WR X m ops (⟨some d, .binOp .neq t x y t', ty, pos, aft, none⟩ :: rest) ks ds l w :=
  WR.still hd (by cases m <;> rfl) (fun e he => by
    simp only [execOp, he.ev hx, he.ev hy, Sem.run_bind]
    have hg : (eqGuard .neq t x y (.string a) (.string b)).run X.P w = .ok () w := by unfold eqGuard; rfl
    rw [hg]
    simp [binOp, Op.stringOp]) kk
theorem WR.eqlS {t t' : TypeId} {x y : Operand} {a b : ByteArray} (hx : ev l x = some (.string a)) (hy : ev l y = some (.string b)) (hd : Nat.blt d X.n = true)
    (kk : WR X m ops rest ks ds ((d, .bool (a.toList == b.toList)) :: l) w) : WR X m ops (⟨some d, .binOp .eql t x y t', ty, pos, aft, none⟩ :: rest) ks ds l w :=
  WR.still hd (by cases m <;> rfl) (fun e he => by
    simp only [execOp, he.ev hx, he.ev hy, Sem.run_bind]
    have hg : (eqGuard .eql t x y (.string a) (.string b)).run X.P w = .ok () w := by unfold eqGuard; rfl
    rw [hg]
    simp [binOp, Op.stringOp]) kk
/-- a call of a function without a body, that answers at once and leaves the world alone -/
theorem WR.callX {f : FuncId} {args : Array Operand} {tys : Array TypeId} {bs : List Operand} {vs : List Value} (has : args = bs.toArray) (hv : evs l bs = some vs) (hf : ∀ w, (callFunc f vs.toArray).run X.P w = .ok (.value v) w)
    (hc : eventOK m (.call ⟨.value (.func f), args, tys⟩) ty = true) (hd : Nat.blt d X.n = true) (k : WR X m ops rest ks ds ((d, v) :: l) w) :
    WR X m ops (⟨some d, .call ⟨.value (.func f), args, tys⟩, ty, pos, aft, none⟩ :: rest) ks ds l w :=
  WR.event hd hc (fun a ha => by
    have he := evs_of ha hv
    subst has
    simp only [execOp, resolve, Deferred.ofValue, Act.eval, Sem.run_bind, Sem.run_pure, Result.andThen_ok, invoke, List.map_toArray, he, Array.append_empty, Array.empty_append]
    exact hf _) k
end
/-- a value as it is given -/
structure VS where
  b : Bool
  n : Nat
  s : ByteArray
  A : Option Addr
  k : Nat
  c : Nat
instance : Inhabited VS := ⟨⟨false, 0, ⟨#[]⟩, none, 0, 0⟩⟩
def vC (x : VS) : Nat → Value
  | 0 => .bool x.b
  | 1 => .int .u64 (x.n : Nat)
  | 2 => .string x.s
  | _ => .slice x.A x.k x.c
theorem vC_one (x : VS) {i : Nat} (h : i < 4) : (vC x i).oneCell' = true := by
  rcases (show i = 0 ∨ i = 1 ∨ i = 2 ∨ i = 3 by omega) with rfl | rfl | rfl | rfl <;> rfl
def VS.num (n : Nat) : VS := ⟨false, n, ⟨#[]⟩, none, 0, 0⟩
theorem vC_num (n : Nat) : vC (VS.num n) = vF n := by
  funext i
  match i with
  | 0 => rfl
  | 1 => rfl
  | 2 => rfl
  | _ + 3 => rfl
structure VS.OK (x : VS) : Prop where
  lt : x.n < 18446744073709551616
  len : x.k ≤ 9223372036854775807
def LuV (w : World) (lim : Nat) (v : Value) (xs : List (Nat → Value)) : Prop :=
  v = .slice none 0 0 ∧ xs = [] ∨ ∃ g o c, v = .slice (some ⟨g, o, none⟩) xs.length c ∧ g < lim ∧ g < w.heap.size ∧ Rd w g o (4 * xs.length) (fun i => (fl xs).getD i undef)
section
variable {w w' : World} {lim : Nat} {v : Value} {xs : List (Nat → Value)} {S : List Nat}
theorem LsV.lu (h : LsV w v xs) : LuV w w.heap.size v xs := by
  rcases h with h | ⟨g, o, c, h1, h2, h3⟩
  · exact .inl h
  · exact .inr ⟨g, o, c, h1, h2, h2, h3⟩
theorem LuV.ls (h : LuV w lim v xs) : LsV w v xs := by
  rcases h with h | ⟨g, o, c, h1, h2, h3, h4⟩
  · exact .inl h
  · exact .inr ⟨g, o, c, h1, h3, h4⟩
theorem LuV.more (h : LuV w lim v xs) {l2 : Nat} (hl : lim ≤ l2) : LuV w l2 v xs := by
  rcases h with h | ⟨g, o, c, h1, h2, h3⟩
  · exact .inl h
  · exact .inr ⟨g, o, c, h1, by omega, h3⟩
theorem LuV.same (h : LuV w lim v xs) (hs : Same S w w') (hS : ∀ g, g ∈ S → lim ≤ g) : LuV w' lim v xs := by
  rcases h with h | ⟨g, o, c, h1, h2, h3, h4⟩
  · exact .inl h
  · refine .inr ⟨g, o, c, h1, h2, Nat.lt_of_lt_of_le h3 hs.size, h4.same hs (fun hm => ?_) h3⟩
    have := hS g hm; omega
theorem LuV.lit {A : Option Addr} {n c : Nat} (h : LuV w lim (.slice A n c) xs) (h0 : 0 < xs.length) : ∃ g o, A = some ⟨g, o, none⟩ ∧ n = xs.length ∧ g < lim ∧ g < w.heap.size ∧ ∀ j, j < xs.length → Rd w g (o + j * 4) 4 (xs.getD j vz) := by
  rcases h with ⟨_, rfl⟩ | ⟨g, o, c2, h1, h2, h3, h4⟩
  · simp at h0
  · cases h1
    refine ⟨g, o, rfl, rfl, h2, h3, fun j hj i hi => ?_⟩
    rw [Nat.add_assoc, h4 (j * 4 + i) (by omega)]
    show some ((fl xs).getD (j * 4 + i) undef) = _
    rw [Nat.mul_comm j 4, fl_getD hj hi]
theorem OwV.lt {base : Nat} (h : OwV w base v xs) : ∀ g, v.ownBlock = some g → base ≤ g ∧ g < w.heap.size := World.ownsRow.lt h
theorem OwV.keep {base : Nat} (h : OwV w base v xs) (hs : Same S w w') (hS : ∀ g, v.ownBlock = some g → g ∉ S) : OwV w' base v xs := by
  obtain ⟨hl, h | ⟨g, cap, cur, h1, h2, h3, h4⟩⟩ := h
  · exact ⟨hl, .inl h⟩
  · have hlt : g < w.heap.size := (Array.getElem?_eq_some_iff.1 h3).1
    exact ⟨hl, .inr ⟨g, cap, cur, h1, h2, (hs.block g hlt (hS g (by rw [h1]; rfl))).trans h3, h4⟩⟩
end
theorem getD_map {ds : List VS} {j : Nat} (h : j < ds.length) : (ds.map vC).getD j vz = vC (ds.getD j default) := by simp [h]
/-- the type of the values: signed numbers of 64 bits -/
def tyA : Array Value := #[.int .i64 2, .int .i64 64, .bool true, .int .i64 0, .int .i64 0, .int .i64 0, .string ⟨#[]⟩, .bool false, .slice none 0 0, .slice none 0 0]
theorem tyL : ((List.range 10).map (fun i => tyA.getD i undef)).toArray = tyA := rfl
theorem ty_one : ∀ v ∈ tyA.toList, v.oneCell' = true := by simp [tyA, Value.oneCell']
def TY (w : World) (b : Nat) : Prop := Row w b 32 10 (fun i => tyA.getD i undef)
theorem TY.box (w : World) : TY (w.alloc (.cells tyA 32)) w.heap.size := Row.alloc w tyA 32
theorem TY.rd {w : World} {b : Nat} (h : TY w b) : Rd w b 0 10 (fun i => tyA.getD i undef) := (Row.rd h 0 10 (by decide)).congr fun i _ => by rw [Nat.zero_add]
theorem TY.same {w w' : World} {b : Nat} {S : List Nat} (h : TY w b) (hs : Same S w w') (hb : b ∉ S) : TY w' b := Row.same h hs hb
theorem TY.lt {w : World} {b : Nat} (h : TY w b) : b < w.heap.size := Row.lt h
/-- a value in a block of its own -/
def VC (w : World) (b : Nat) (x : VS) : Prop := Row w b 35 4 (vC x)
section
variable {w w' : World} {b : Nat} {x : VS} {S : List Nat}
theorem VC.c0 (h : VC w b x) : w.cell? ⟨b, 0, none⟩ = some (.bool x.b) := Row.cell (i := 0) h (by decide)
theorem VC.c1 (h : VC w b x) : w.cell? ⟨b, 1, none⟩ = some (.int .u64 (x.n : Nat)) := Row.cell (i := 1) h (by decide)
theorem VC.c2 (h : VC w b x) : w.cell? ⟨b, 2, none⟩ = some (.string x.s) := Row.cell (i := 2) h (by decide)
theorem VC.c3 (h : VC w b x) : w.cell? ⟨b, 3, none⟩ = some (.slice x.A x.k x.c) := Row.cell (i := 3) h (by decide)
theorem VC.lt (h : VC w b x) : b < w.heap.size := Row.lt h
theorem VC.same (h : VC w b x) (hs : Same S w w') (hb : b ∉ S) : VC w' b x := Row.same h hs hb
theorem VC.rd (h : VC w b x) : Rd w b 0 4 (vC x) := (Row.rd h 0 4 (by decide)).congr fun i _ => by rw [Nat.zero_add]
theorem VC.box (w : World) (x : VS) : VC (w.alloc (.cells (((List.range 4).map (vC x)).toArray) 35)) w.heap.size x := by
  have h := Row.alloc w (((List.range 4).map (vC x)).toArray) 35
  rw [agg_size] at h
  exact h.congr fun i hi => agg_getD hi
end
end Go.Proofs.YthmknddfkmklfaaGreatDoor.Vm
