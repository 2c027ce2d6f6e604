/- Truth values compared; two results that are structs. -/
import Derived.Test.YtccicbpeajdjgaaGreatDoorQHeld
import Derived.Test.YtccicbpeajdjgaaGreatDoorQVm
import Derived.Test.YtccicbpeajdjgaaGreatDoorQVmNew
import Derived.Test.YtccicbpeajdjgaaGreatDoorQVmRnd
import Derived.Test.YtccicbpeajdjgaaGreatDoorProg
import Derived.KernelRfl
import Derived.Test.YtccicbpeajdjgaaGreatDoorQVmMem
import Derived.MapKept
set_option linter.unusedVariables false
set_option linter.unusedSimpArgs false
namespace Go.Proofs.YtccicbpeajdjgaaGreatDoor.Vm
open Go Mix
theorem mM {P : Program} {o : BinOp} {t : TypeId} {x y : Operand} {a b : Bool} {w : World} {r : Bool} (hu : P.underlying t = some .bool) (ho : (o = .eql ∧ r = (a == b)) ∨ (o = .neq ∧ r = !(a == b))) :
 ((eqGuard o t x y (.bool a) (.bool b)).run P w = .ok () w) ∧ (binOp o t (.bool a) (.bool b)).run P w = .ok (.bool r) w := by
 have he : (Op.equal t (.bool a) (.bool b)).run P w = .ok (a == b) w := by
  unfold Op.equal;rw [show Op.maxDepth = 9999 + 1 from rfl];unfold Op.equalIn
  simp [Sem.run_bind, run_underlying hu]
 rcases ho with ⟨rfl, rfl⟩ | ⟨rfl, rfl⟩
 ·exact ⟨rfl, by simp [binOp, he]⟩
 ·exact ⟨rfl, by simp [binOp, he]⟩
section
variable {X : Cx} {m : Option (List Nat)} {ops : Array Oper} {rest : List Oper} {ks : List KI} {ds : List Deferred} {l : Kn} {w : World} {d ty : Nat} {pos : String} {aft : Array Edge} {v : Value}
theorem pF {t t' : TypeId} {x y : Operand} {a b : Bool} (hx : ev l x = some (.bool a)) (hy : ev l y = some (.bool b)) (hu : X.P.underlying t = some .bool) (hd : Nat.blt d X.n = true)
 (kk : WR X m ops rest ks ds ((d, .bool (a == b)) :: l) w) : WR X m ops (⟨some d, .binOp .eql t x y t', ty, pos, aft, none⟩ :: rest) ks ds l w :=
 cY hd (by cases m <;> rfl) (fun e he => by
  simp only [execOp, he.ev hx, he.ev hy, Sem.run_bind];have h := mM (a := a) (b := b) (x := x) (y := y) (w := w) hu (.inl ⟨rfl, rfl⟩);rw [h.1]
  simp [h.2]) kk
theorem WR.neqB {t t' : TypeId} {x y : Operand} {a b : Bool} (hx : ev l x = some (.bool a)) (hy : ev l y = some (.bool b)) (hu : X.P.underlying t = some .bool) (hd : Nat.blt d X.n = true)
 (kk : WR X m ops rest ks ds ((d, .bool (!(a == b))) :: l) w) : WR X m ops (⟨some d, .binOp .neq t x y t', ty, pos, aft, none⟩ :: rest) ks ds l w :=
 cY hd (by cases m <;> rfl) (fun e he => by
  simp only [execOp, he.ev hx, he.ev hy, Sem.run_bind];have h := mM (a := a) (b := b) (x := x) (y := y) (w := w) hu (.inr ⟨rfl, rfl⟩);rw [h.1]
  simp [h.2]) kk
end
theorem lI {P : Program} {t1 s b o : Nat} {D1 : TypeDesc} {f : Nat → Value} {w : World} (hu1 : P.underlying t1 = some D1) (hD1 : plainD D1 = false) (hs : (P.info? t1).map (·.size) = some s) (hc : Rd w b o s f) :
 (loadVar t1 ⟨b, o, none⟩).run P w = .ok (.agg ((List.range s).map f).toArray) w := by
 have ha' : (isAgg t1).run P w = .ok true w := by
  unfold isAgg;simp only [Sem.run_bind, run_underlying hu1, Result.andThen_ok]
  cases D1 <;> first | rfl | cases hD1
 have hl := run_loadCells_list (P := P) w ⟨b, o, none⟩ ((List.range s).map f) (fun j v hv => by
  rw [eR]
  have hj : j < s := by
   rcases Nat.lt_or_ge j s with h | h
   ·exact h
   ·simp [h] at hv
  rw [hc j hj]
  simpa [hj] using hv)
 simp only [List.length_map, List.length_range] at hl;simp only [loadVar, Sem.run_bind, ha', Result.andThen_ok]
 simp [dP hs, hl]
theorem tE {P : Program} {fn : Func} {a1 a2 t1 s b1 b2 : Nat} {D1 : TypeDesc} {f1 f2 : Nat → Value} {tmps : Array Value} {w : World} (hrs : fn.results = #[.cell a1 t1, .cell a2 t1]) (h1 : tmps.getD a1 undef = .pointer (some ⟨b1, 0, none⟩)) (h2 : tmps.getD a2 undef = .pointer (some ⟨b2, 0, none⟩))
 (hu1 : P.underlying t1 = some D1) (hD1 : plainD D1 = false) (hs : (P.info? t1).map (·.size) = some s) (hc1 : Rd w b1 0 s f1) (hc2 : Rd w b2 0 s f2) : (results fn tmps).run P w = .ok (.tuple #[.agg ((List.range s).map f1).toArray, .agg ((List.range s).map f2).toArray]) w := by
 have ha1 : (asAddr (tmps.getD a1 undef)).run P w = .ok ⟨b1, 0, none⟩ w := by rw [h1]; rfl
 have ha2 : (asAddr (tmps.getD a2 undef)).run P w = .ok ⟨b2, 0, none⟩ w := by rw [h2]; rfl
 have hl1 := lI hu1 hD1 hs hc1;have hl2 := lI hu1 hD1 hs hc2;unfold results;rw [hrs, show (#[ResultVar.cell a1 t1, .cell a2 t1] : Array ResultVar) = [ResultVar.cell a1 t1, .cell a2 t1].toArray from rfl, List.mapM_toArray];simp only [map_eq_pure_bind, Sem.run_bind, List.mapM_cons, List.mapM_nil, Sem.run_pure, Result.andThen_ok, ha1, ha2, hl1, hl2];rfl
/-- the way out of a function whose two results are structs in cells -/
theorem nG {P : Program} {fn : Func} {R : Value → World → Prop} {n : Nat} {ks : List KI} {l : Kn} {w : World} {a1 a2 t1 s b1 b2 : Nat} {D1 : TypeDesc} {f1 f2 : Nat → Value} (hrs : fn.results = #[.cell a1 t1, .cell a2 t1]) (h1 : look l a1 = some (.pointer (some ⟨b1, 0, none⟩))) (h2 : look l a2 = some (.pointer (some ⟨b2, 0, none⟩)))
 (hu1 : P.underlying t1 = some D1) (hD1 : plainD D1 = false) (hs : (P.info? t1).map (·.size) = some s) (hc1 : Rd w b1 0 s f1) (hc2 : Rd w b2 0 s f2) (h : R (.tuple #[.agg ((List.range s).map f1).toArray, .agg ((List.range s).map f2).toArray]) w) :
 WC ⟨P, n, bodyPost P fn fun e w' => ∃ v, e = .returned v ∧ R v w'⟩ .ret ks [] l w :=
 jN fun a ha => ⟨ha.defers, _, tE hrs (ha.get _ _ h1) (ha.get _ _ h2) hu1 hD1 hs hc1 hc2, _, rfl, h⟩
end Go.Proofs.YtccicbpeajdjgaaGreatDoor.Vm
namespace Go.Proofs.YtccicbpeajdjgaaGreatDoor.Vm
open Go Mix Wd
theorem cL : Tryz.prog.follows .mixedOrders = true := by kernel_rfl
theorem sl0 (c o : Nat) : (if c = 0 then o else o + 0 * 1) = o := by split <;> rfl
/-- digits as a list -/
def dgl (a : Nat → Nat) (n : Nat) : List Value := (List.range n).map (dg a)
theorem dZ (a : Nat → Nat) (n : Nat) : (dgl a n).length = n := by simp [dgl]
theorem qB {a : Nat → Nat} {n i : Nat} (h : i < n) : (dgl a n).getD i undef = dg a i := by simp [dgl, h]
theorem mD {a : Nat → Nat} {n i : Nat} (h : i < (dgl a n).length) : ((dgl a n).getD i undef).oneCell' = true := by
 rw [dZ] at h
 rw [qB h]; rfl
theorem mW (a : Nat → Nat) (n : Nat) : dgl a (n + 1) = dgl a n ++ [dg a n] := by simp [dgl, List.range_succ]
theorem tM {a b : Nat → Nat} {n : Nat} (h : ∀ i, i < n → a i = b i) : dgl a n = dgl b n := List.map_congr_left fun i hi => by unfold dg; rw [h i (List.mem_range.1 hi)]
theorem oV (a : Nat → Nat) (n d : Nat) : dgl (st a n d) (n + 1) = dgl a n ++ [.int .u32 (d : Nat)] := by
 rw [mW, tM (b := a) fun i hi => by simp [st, show i ≠ n by omega]]
 simp [dg, st]
/-- a slice of our own, as digits -/
theorem Own.mg {w : World} {base E n : Nat} {v : Value} {a : Nat → Nat} (h : Own w base E v (dgl a n)) : Mg w (base ≤ ·) v n a := by
 obtain ⟨hl, h | ⟨g, cap, cur, h1, h2, h3, h4, h5, h6, h7⟩⟩ := h
 ·refine .inl ⟨h.1, ?_⟩;have := h.2
  rwa [dZ] at this
 ·rw [dZ] at h1 h4 h7;refine .inr ⟨g, 0, cap, h1, h2, (Array.getElem?_eq_some_iff.1 h3).1, h4, fun i hi => ?_⟩
  have h8 : cur[i]? = (dgl a n)[i]? := by
   rw [← h7, List.getElem?_take, if_pos zw]
   simp
  have h9 : (dgl a n)[i]? = some (dg a i) := by simp [dgl, hi]
  simp [World.cell?, h3, h8, h9]
theorem Mg.ls {w : World} {I : Nat → Prop} {v : Value} {n : Nat} {a : Nat → Nat} (h : Mg w I v n a) : Ls w 0 v (dgl a n) := by
 rcases h with ⟨h, rfl⟩ | ⟨g, o, c, h1, _, h2, h3, h4⟩
 ·exact .inl ⟨h, rfl⟩
 ·refine .inr ⟨g, o, c, by rw [dZ]; exact h1, Nat.zero_le _, h2, ?_⟩;rw [dZ];exact h4.congr fun i hi => (qB hi).symm
/-- the whole of a slice of our own, to be written to -/
theorem Own.row {w : World} {base E n : Nat} {v : Value} {a : Nat → Nat} (h : Own w base E v (dgl a n)) (h0 : 0 < n) : ∃ g cap f, v = .slice (some ⟨g, 0, none⟩) n cap ∧ base ≤ g ∧ n ≤ cap ∧ Row w g E cap f ∧ ∀ i, i < n → f i = dg a i := by
 obtain ⟨hl, h | ⟨g, cap, cur, h1, h2, h3, h4, h5, h6, h7⟩⟩ := h
 ·have := h.2;rw [dZ] at this;omega
 ·rw [dZ] at h1 h4 h7;refine ⟨g, cap, fun i => cur.getD i undef, h1, h2, h4, ⟨cur, h3, by rw [h6]; omega, fun i hi => ?_⟩, fun i hi => ?_⟩
  ·have : i < cur.size := by rw [h6]; omega
   simp [this]
  ·have h8 : cur[i]? = (dgl a n)[i]? := by
    rw [← h7, List.getElem?_take, if_pos zw]
    simp
   have h9 : (dgl a n)[i]? = some (dg a i) := by simp [dgl, hi]
   simp [h8, h9]
theorem Row.mg {w : World} {g t cap n : Nat} {f : Nat → Value} {a : Nat → Nat} (h : Row w g t cap f) (hn : n ≤ cap) (he : ∀ i, i < n → f i = dg a i) : Mg w (· = g) (.slice (some ⟨g, 0, none⟩) n cap) n a :=
 .inr ⟨g, 0, cap, rfl, rfl, h.lt, hn, fun i hi => by rw [Nat.zero_add, h.cell zw, he i hi]⟩
theorem Row.own {w : World} {b E n base : Nat} {F : Nat → Value} {xs : List Value} (h : Row w b E n F) (hl : xs.length = n) (he : ∀ i, i < n → F i = xs.getD i undef) (hb : base ≤ b) (hm : n ≤ 1099511627776) : Own w base E (.slice (some ⟨b, 0, none⟩) n n) xs := by
 obtain ⟨c, hc, hn, hf⟩ := h;subst hl;refine ⟨by simp, .inr ⟨b, xs.length, c, rfl, hb, hc, Nat.le_refl _, by simp only [maxLen]; omega, by omega, ?_⟩⟩;refine List.ext_getElem (by simp [hn]) fun i h1 h2 => ?_;have h3 := hf i h2;rw [he i h2] at h3;simp only [List.getElem_take, Array.getElem_toList];rw [Array.getElem?_eq_getElem zw] at h3
 simp [h2] at h3
 exact h3
theorem Row.lsOne {w : World} {b E : Nat} {v : Value} (h : Row w b E (#[v] : Array Value).size (fun i => (#[v] : Array Value).getD i undef)) : Ls w 0 (.slice (some ⟨b, 0, none⟩) 1 1) [v] :=
 Row.ls (o := 0) h rfl (Nat.le_refl 1) (Nat.zero_le _) fun i hi => by
  obtain rfl : i = 0 := by omega
  rfl
theorem iR {z : Int} {x : Nat} (h : z = (x : Nat)) : IntKind.u32.wrap z = ((x % 4294967296 : Nat) : Int) := by
 subst h
 simp [IntKind.wrap, IntKind.bits, IntKind.signed]
theorem kF {z : Int} {x : Nat} (h : z = (x : Nat)) (hx : x < 4294967296) : IntKind.u32.wrap z = ((x : Nat) : Int) := by
 rw [iR h, Nat.mod_eq_of_lt hx]
theorem gJ {z : Int} {x : Nat} (h : z = (x : Nat)) : z.fdiv (2 ^ min (32 : Int).toNat IntKind.u64.bits) = ((x / 4294967296 : Nat) : Int) := by
 subst h;exact (mV (D := 4294967296) rfl zo).trans rfl
/-- digits with zeros behind them -/
def pad (a : Nat → Nat) (n : Nat) : Nat → Nat := fun i => if i < n then a i else 0
theorem pD {a : Nat → Nat} {n i : Nat} (h : n ≤ i) : bn (pad a n) i = bn a n := by
 rw [nB h fun j h1 _ => by simp [pad, show ¬ j < n by omega]];exact iP fun j hj => by simp [pad, hj]
theorem oO {a : Nat → Nat} {n i : Nat} (h : i < n) : pad a n i = a i := by simp [pad, h]
theorem pad_ge {a : Nat → Nat} {n i : Nat} (h : ¬ i < n) : pad a n i = 0 := by simp [pad, h]
/-- a box of a wide integer -/
def wF (neg : Bool) (s : Value) : Nat → Value
 | 0 => .bool neg
 | _ => s
def WB (w : World) (b : Nat) (neg : Bool) (s : Value) : Prop := Row w b 29 2 (wF neg s)
section
variable {w w' : World} {b : Nat} {neg : Bool} {s : Value} {S : List Nat}
theorem WB.c0 (h : WB w b neg s) : w.cell? ⟨b, 0, none⟩ = some (.bool neg) := Row.cell (i := 0) h zo
theorem WB.c1 (h : WB w b neg s) : w.cell? ⟨b, 1, none⟩ = some s := Row.cell (i := 1) h zo
theorem WB.lt (h : WB w b neg s) : b < w.heap.size := Row.lt h
theorem WB.same (h : WB w b neg s) (hs : Same S w w') (hb : b ∉ S := by first | (simp; done) | (simp; omega)) : WB w' b neg s := Row.same h hs hb
theorem WB.rd (h : WB w b neg s) : Rd w b 0 2 (wF neg s) := (Row.rd h 0 2 zo).congr fun i _ => by rw [Nat.zero_add]
theorem WB.box (w : World) (neg : Bool) (s : Value) : WB (w.alloc (.cells #[.bool neg, s] 29)) w.heap.size neg s :=
 (Row.alloc w #[.bool neg, s] 29).congr fun i hi => by
  have hi : i < 2 := hi
  rcases (show i = 0 ∨ i = 1 by omega) with rfl | rfl <;> rfl
end
theorem bJ {neg : Bool} {s : Value} (h : s.oneCell' = true) : ∀ v ∈ (#[.bool neg, s] : Array Value).toList, v.oneCell' = true := by
 intro v hv;simp at hv;rcases hv with rfl | rfl
 ·rfl
 ·exact h
theorem wide_agg (neg : Bool) (s : Value) : ((List.range 2).map (wF neg s)).toArray = #[.bool neg, s] := rfl
theorem aN {f g : Nat → Value} {n i : Nat} (h : i < n) : ovr f 0 (((List.range n).map g).toArray).toList i = g i := by
 unfold ovr;rw [if_pos zt]
 simp [h]
theorem Mg.one {w : World} {I : Nat → Prop} {v : Value} {n : Nat} {a : Nat → Nat} (h : Mg w I v n a) : v.oneCell' = true := by
 rcases h with ⟨rfl, _⟩ | ⟨g, o, c, rfl, _⟩ <;> rfl
theorem Mz.one {w : World} {I : Nat → Prop} {v : Value} {x : Nat} (h : Mz w I v x) : v.oneCell' = true := by
 obtain ⟨n, a, h, _⟩ := h;exact h.one
end Go.Proofs.YtccicbpeajdjgaaGreatDoor.Vm
namespace Go.Proofs.YtccicbpeajdjgaaGreatDoor.Vm
open Go
theorem jA (k : IntKind) (a b : Int) : arith .or k a b = arith .or k b a := by simp [arith, BitVec.or_comm]
theorem pU {x s : Nat} (hx : x < 4294967296) (h : x % 2 ^ (s + 1) = 0) (hs : s < 32) : arith .or .u32 (x : Int) ((2 ^ s : Nat) : Int) = some (.int .u32 ((x + 2 ^ s : Nat) : Int)) := by
 obtain ⟨c, hc⟩ : ∃ c, x = c * 2 ^ (s + 1) := ⟨x / 2 ^ (s + 1), (Nat.div_mul_cancel (Nat.dvd_of_mod_eq_zero h)).symm⟩;have h1 : (2 : Nat) ^ s < 2 ^ (s + 1) := Nat.pow_lt_pow_right zo zw;have h2 : (4294967296 : Nat) = 2 ^ (31 - s) * 2 ^ (s + 1) := by rw [← Nat.pow_add, show 31 - s + (s + 1) = 32 by omega]
 have h3 : c < 2 ^ (31 - s) := by
  rw [hc, h2] at hx;exact Nat.lt_of_mul_lt_mul_right hx
 have h4 : (c + 1) * 2 ^ (s + 1) ≤ 2 ^ (31 - s) * 2 ^ (s + 1) := Nat.mul_le_mul_right _ h3;rw [← h2, Nat.add_mul, Nat.one_mul] at h4;have h5 : (2 : Int) ^ s = ((2 ^ s : Nat) : Int) := by simp
 rw [jA];have := ar_or32 (a := ((2 ^ s : Nat) : Int)) (c := (c : Int)) (D := ((2 ^ (s + 1) : Nat) : Int)) (s + 1) rfl zw zw zw (by rw [← Int.natCast_mul]; omega);rw [← Int.natCast_mul, ← hc] at this;rw [this]
 congr 2
 omega
theorem rX {x s : Nat} (hx : x < 4294967296) (h : x % 2 ^ (s + 1) = 0) (hs : s < 32) : x + 2 ^ s < 4294967296 := by
 obtain ⟨c, hc⟩ : ∃ c, x = c * 2 ^ (s + 1) := ⟨x / 2 ^ (s + 1), (Nat.div_mul_cancel (Nat.dvd_of_mod_eq_zero h)).symm⟩;have h1 : (2 : Nat) ^ s < 2 ^ (s + 1) := Nat.pow_lt_pow_right zo zw;have h2 : (4294967296 : Nat) = 2 ^ (31 - s) * 2 ^ (s + 1) := by rw [← Nat.pow_add, show 31 - s + (s + 1) = 32 by omega]
 have h3 : c < 2 ^ (31 - s) := by
  rw [hc, h2] at hx;exact Nat.lt_of_mul_lt_mul_right hx
 have h4 : (c + 1) * 2 ^ (s + 1) ≤ 2 ^ (31 - s) * 2 ^ (s + 1) := Nat.mul_le_mul_right _ h3;rw [← h2, Nat.add_mul, Nat.one_mul] at h4;omega
theorem iQ {a : Nat} (h : a < 4294967296) : arith .and .u32 (a : Int) 1 = some (.int .u32 ((a % 2 : Nat) : Int)) := by
 have h1 : (BitVec.ofInt 32 (a : Int)).toNat = a := by rw [eL zw zw]; simp
 have h2 : (BitVec.ofInt 32 (1 : Int)).toNat = 1 := rfl
 show some (Value.int .u32 (IntKind.u32.wrap ((BitVec.ofInt 32 (a : Int) &&& BitVec.ofInt 32 1).toNat : Nat))) = _
 rw [BitVec.toNat_and, h1, h2, Nat.and_one_is_mod, iK zw zw]
theorem and1_u64 {a : Nat} (h : a < 18446744073709551616) : arith .and .u64 (a : Int) 1 = some (.int .u64 ((a % 2 : Nat) : Int)) := by
 have h1 : (BitVec.ofInt 64 (a : Int)).toNat = a := by rw [eL zw zw]; simp
 have h2 : (BitVec.ofInt 64 (1 : Int)).toNat = 1 := rfl
 show some (Value.int .u64 (IntKind.u64.wrap ((BitVec.ofInt 64 (a : Int) &&& BitVec.ofInt 64 1).toNat : Nat))) = _
 rw [BitVec.toNat_and, h1, h2, Nat.and_one_is_mod, dD zw zw]
theorem dK {a r k : Nat} (h : r ≤ k) : ((a : Nat) : Int).fdiv (2 ^ min (((r : Nat) : Int).toNat) k) = ((a / 2 ^ r : Nat) : Int) := by
 have h2 : min (((r : Nat) : Int).toNat) k = r := by simp; omega
 rw [h2, Int.fdiv_eq_ediv_of_nonneg _ (Int.le_of_lt (Int.pow_pos zo))]
 simp
theorem mL {s : Nat} (hs : s < 32) : IntKind.u32.wrap (1 * 2 ^ min (((s : Nat) : Int).toNat) IntKind.u32.bits) = ((2 ^ s : Nat) : Int) := by
 have h2 : min (((s : Nat) : Int).toNat) IntKind.u32.bits = s := by simp [IntKind.bits]; omega
 have h3 : (2 : Nat) ^ s < 2 ^ 32 := Nat.pow_lt_pow_right zo hs;rw [h2, Int.one_mul, show (2 : Int) ^ s = ((2 ^ s : Nat) : Int) by simp];obtain ⟨p, hp⟩ : ∃ p : Nat, p = 2 ^ s := ⟨_, rfl⟩;rw [← hp] at h3 ⊢;exact iK zw zw
theorem jI {z : Int} {x c : Nat} (h : z = (x : Nat)) (hx : x ≤ 9223372036854775807) : IntKind.i64.wrap (z.tdiv (c : Nat)) = ((x / c : Nat) : Int) := by
 subst h;rw [mK zw];have : x / c ≤ x := Nat.div_le_self _ _;rw [← Int.natCast_ediv];obtain ⟨y, hy⟩ : ∃ y : Nat, y = x / c := ⟨_, rfl⟩;rw [← hy] at this ⊢;exact aV zw zw
theorem kH {z : Int} {x c : Nat} (h : z = (x : Nat)) : z.tmod (c : Nat) = ((x % c : Nat) : Int) := by
 subst h;rw [kO zw];rfl
end Go.Proofs.YtccicbpeajdjgaaGreatDoor.Vm
namespace Go.Proofs.YtccicbpeajdjgaaGreatDoor.Vm
open Go
set_option maxRecDepth 20000
/-- the length of a number in bits -/
def blen (x : Nat) : Nat := if x = 0 then 0 else x.log2 + 1
theorem eA {x k : Nat} : blen x ≤ k ↔ x < 2 ^ k := by
 unfold blen
 split
 ·next h => subst h; exact ⟨fun _ => Nat.pow_pos (by decide), fun _ => Nat.zero_le _⟩
 ·next h => rw [← Nat.log2_lt h]; exact Iff.rfl
theorem fM {x k : Nat} (h : 2 ^ k ≤ x) : blen x = k + blen (x / 2 ^ k) := by
 have key : ∀ j, blen x ≤ k + j ↔ blen (x / 2 ^ k) ≤ j := fun j => by
  rw [eA, eA, Nat.div_lt_iff_lt_mul (Nat.pow_pos (by decide)), Nat.pow_add, Nat.mul_comm]
 have h1 := (key (blen (x / 2 ^ k))).2 (Nat.le_refl _)
 have h2 : ¬ blen x ≤ k := fun h9 => by have := eA.1 h9; omega
 have h3 := (key (blen x - k)).1 (by omega);omega
theorem lM {x : Nat} : blen x = 0 ↔ x = 0 := by
 unfold blen
 split
 ·next h => exact ⟨fun _ => h, fun _ => rfl⟩
 ·next h => exact ⟨fun h9 => by omega, fun h9 => absurd h9 h⟩
/-- a word moved up until its top bit is set -/
theorem kV {y : Nat} (h0 : 0 < y) (h1 : y < 18446744073709551616) : 64 - blen y < 64 ∧ 9223372036854775808 ≤ y * 2 ^ (64 - blen y) ∧ y * 2 ^ (64 - blen y) < 18446744073709551616 := by
 have hz : blen y ≠ 0 := fun h => by have := lM.1 h; omega
 have hl : blen y ≤ 64 := eA.2 h1;have a1 : y < 2 ^ blen y := eA.1 (Nat.le_refl _)
 have a2 : ¬ y < 2 ^ (blen y - 1) := fun h => by have := eA.2 h; omega
 have e1 : 2 ^ blen y * 2 ^ (64 - blen y) = 18446744073709551616 := by rw [← Nat.pow_add, show blen y + (64 - blen y) = 64 by omega]
 have e2 : 2 ^ (blen y - 1) * 2 ^ (64 - blen y) = 9223372036854775808 := by rw [← Nat.pow_add, show blen y - 1 + (64 - blen y) = 63 by omega]
 have hp : 0 < 2 ^ (64 - blen y) := Nat.pow_pos (by decide);refine ⟨by omega, ?_, ?_⟩
 ·rw [← e2]; exact Nat.mul_le_mul_right _ (by omega)
 ·rw [← e1]; exact Nat.mul_lt_mul_of_pos_right a1 hp
theorem qY {s : Nat} (hs : s ≤ 64) : 2 ^ s * 2 ^ (64 - s) = 18446744073709551616 := by rw [← Nat.pow_add, show s + (64 - s) = 64 by omega]
/-- the low word of a word moved up, and what goes over -/
theorem uO {x p q : Nat} (hpq : p * q = 18446744073709551616) (hq : 0 < q) : x * p = x / q * 18446744073709551616 + x * p % 18446744073709551616 ∧ x * p / 18446744073709551616 = x / q := by
 have h1 := Nat.div_add_mod x q;have h2 := Nat.mod_lt x hq
 have h3 : x % q * p < 18446744073709551616 := by
  have hp : 0 < p := Nat.pos_of_ne_zero fun h => by subst h; omega
  have := Nat.mul_lt_mul_of_pos_right h2 hp;rw [Nat.mul_comm q p, hpq] at this;exact this
 have h4 : x * p = x / q * 18446744073709551616 + x % q * p := by
  have : x * p = (q * (x / q) + x % q) * p := by rw [h1]
  rw [this, Nat.add_mul, ← hpq]
  congr 1
  rw [Nat.mul_right_comm, Nat.mul_comm q p, Nat.mul_comm (x / q)]
 have h5 : x * p % 18446744073709551616 = x % q * p := by rw [h4, Nat.mul_comm (x / q), Nat.mul_add_mod, Nat.mod_eq_of_lt h3]
 refine ⟨by rw [h5]; exact h4, ?_⟩;rw [h4, Nat.mul_comm (x / q), Nat.mul_add_div (by decide), Nat.div_eq_of_lt h3, Nat.add_zero]
theorem iS {x s : Nat} (hx : x < 18446744073709551616) (hs : s ≤ 64) : x / 2 ^ (64 - s) < 2 ^ s := by
 rw [Nat.div_lt_iff_lt_mul (Nat.pow_pos (by decide)), qY hs];exact hx
/-- two words moved up -/
theorem oI {x1 x0 s : Nat} (hs : s ≤ 64) : (x1 * 2 ^ s + x0 / 2 ^ (64 - s)) * 18446744073709551616 + x0 * 2 ^ s % 18446744073709551616 = (x1 * 18446744073709551616 + x0) * 2 ^ s := by
 have h := (uO (x := x0) (qY hs) (Nat.pow_pos (by decide))).1;rw [Nat.add_mul, Nat.add_mul, Nat.mul_right_comm];omega
theorem rU {x1 x0 y s : Nat} (hx0 : x0 < 18446744073709551616) (hs : s ≤ 64) (h1 : x1 < y) : x1 * 2 ^ s + x0 / 2 ^ (64 - s) < y * 2 ^ s := by
 have h2 := iS hx0 hs;have h3 : (x1 + 1) * 2 ^ s ≤ y * 2 ^ s := Nat.mul_le_mul_right _ h1;rw [Nat.add_mul, Nat.one_mul] at h3;omega
theorem qR {X y p : Nat} (hp : 0 < p) : X * p / (y * p) = X / y ∧ X * p % (y * p) / p = X % y := by
 refine ⟨Nat.mul_div_mul_right _ _ hp, ?_⟩;rw [Nat.mul_mod_mul_right, Nat.mul_div_cancel _ hp]
theorem or64 {a c s : Nat} (ha : a < 2 ^ s) (h : c * 2 ^ s + a < 18446744073709551616) : arith .or .u64 ((c * 2 ^ s : Nat) : Int) (a : Int) = some (.int .u64 ((c * 2 ^ s + a : Nat) : Int)) := by
 rw [jA];have h5 : ((2 ^ s : Nat) : Int) = ((2 ^ s : Nat) : Int) := rfl;have := wT (a := (a : Int)) (c := (c : Int)) (D := ((2 ^ s : Nat) : Int)) s rfl (by omega) (by omega) (by omega) (by rw [← Int.natCast_mul]; omega);rw [← Int.natCast_mul] at this;rw [this]
 congr 2
 omega
theorem sQ {a : Nat} (h : a < 64) : arith .and .u64 (a : Int) 63 = some (.int .u64 ((a : Nat) : Int)) := by
 have h1 : (BitVec.ofInt 64 (a : Int)).toNat = a := by rw [eL (by omega) (by omega)]; simp
 have h2 : (BitVec.ofInt 64 (63 : Int)).toNat = 2 ^ 6 - 1 := rfl
 show some (Value.int .u64 (IntKind.u64.wrap ((BitVec.ofInt 64 (a : Int) &&& BitVec.ofInt 64 63).toNat : Nat))) = _
 rw [BitVec.toNat_and, h1, h2, Nat.and_two_pow_sub_one_eq_mod, Nat.mod_eq_of_lt (by omega), dD (by omega) (by omega)]
theorem shl_mod {x s : Nat} (hs : s ≤ 64) : x * 2 ^ s % 18446744073709551616 = x % 2 ^ (64 - s) * 2 ^ s := by
 rw [← qY hs, Nat.mul_comm (2 ^ s), Nat.mul_mod_mul_right]
theorem nS {x a s : Nat} (hs : s ≤ 64) (ha : a < 2 ^ s) : arith .or .u64 ((x * 2 ^ s % 18446744073709551616 : Nat) : Int) (a : Int) = some (.int .u64 ((x * 2 ^ s % 18446744073709551616 + a : Nat) : Int)) ∧ x * 2 ^ s % 18446744073709551616 + a < 18446744073709551616 := by
 rw [shl_mod hs];have h1 : x % 2 ^ (64 - s) + 1 ≤ 2 ^ (64 - s) := Nat.mod_lt _ (Nat.pow_pos (by decide));have h2 := Nat.mul_le_mul_right (2 ^ s) h1;rw [Nat.mul_comm (2 ^ (64 - s)), qY hs, Nat.add_mul, Nat.one_mul] at h2;exact ⟨or64 ha (by omega), by omega⟩
theorem qK {a : Nat} (h : a < 18446744073709551616) : arith .and .u64 (a : Int) 4294967295 = some (.int .u64 ((a % 4294967296 : Nat) : Int)) := by
 have h1 : (BitVec.ofInt 64 (a : Int)).toNat = a := by rw [eL (by omega) (by omega)]; simp
 have h2 : (BitVec.ofInt 64 (4294967295 : Int)).toNat = 2 ^ 32 - 1 := rfl
 show some (Value.int .u64 (IntKind.u64.wrap ((BitVec.ofInt 64 (a : Int) &&& BitVec.ofInt 64 4294967295).toNat : Nat))) = _
 rw [BitVec.toNat_and, h1, h2, Nat.and_two_pow_sub_one_eq_mod, dD (by omega) (by omega)]
/-- a word moved up by a variable, within 64 bits -/
theorem fI {a s z : Nat} (hs : s ≤ 64) (hz : z = a * 2 ^ s % 18446744073709551616) : IntKind.u64.wrap ((a : Int) * 2 ^ min (((s : Nat) : Int).toNat) IntKind.u64.bits) = ((z : Nat) : Int) := by
 have h2 : min (((s : Nat) : Int).toNat) IntKind.u64.bits = s := by simp [IntKind.bits]; omega
 rw [h2, show ((a : Int) * 2 ^ s) = ((a * 2 ^ s : Nat) : Int) by simp, hz];obtain ⟨p, hp⟩ : ∃ p : Nat, p = a * 2 ^ s := ⟨_, rfl⟩;rw [← hp];simp only [IntKind.wrap, IntKind.bits, IntKind.signed]
 simp
theorem gF (z : Int) : IntKind.u64.wrap z = z % 18446744073709551616 := by
 simp [IntKind.wrap, IntKind.bits, IntKind.signed]
theorem pE {a b : Nat} (h : a + b < 18446744073709551616) : IntKind.u64.wrap ((a : Int) + (b : Int)) = ((a + b : Nat) : Int) := by rw [gF]; omega
theorem subU {a b : Nat} (h : b ≤ a) (ha : a < 18446744073709551616) : IntKind.u64.wrap ((a : Int) - (b : Int)) = ((a - b : Nat) : Int) := by rw [gF]; omega
theorem kW {a b : Nat} (h : a * b < 18446744073709551616) : IntKind.u64.wrap ((a : Int) * (b : Int)) = ((a * b : Nat) : Int) := by
 rw [gF, ← Int.natCast_mul];obtain ⟨c, hc⟩ : ∃ c, c = a * b := ⟨_, rfl⟩;rw [← hc] at h ⊢;omega
theorem quoU {a b : Nat} (h : a < 18446744073709551616) : IntKind.u64.wrap ((a : Int).tdiv (b : Int)) = ((a / b : Nat) : Int) := by
 rw [mK (by omega), ← Int.natCast_ediv];have h2 : a / b ≤ a := Nat.div_le_self _ _;obtain ⟨c, hc⟩ : ∃ c, c = a / b := ⟨_, rfl⟩;rw [← hc] at h2 ⊢;rw [gF];omega
theorem remU {a b : Nat} : (a : Int).tmod (b : Int) = ((a % b : Nat) : Int) := by
 rw [kO (by omega), ← Int.natCast_emod]
theorem addM {a b : Nat} : IntKind.u64.wrap ((a : Int) + (b : Int)) = (((a + b) % 18446744073709551616 : Nat) : Int) := by rw [gF]; omega
theorem subM {a b : Nat} (h : b ≤ 18446744073709551616) : IntKind.u64.wrap ((a : Int) - (b : Int)) = (((a + 18446744073709551616 - b) % 18446744073709551616 : Nat) : Int) := by rw [gF]; omega
theorem tI {a b : Nat} : IntKind.u64.wrap ((a : Int) * (b : Int)) = ((a * b % 18446744073709551616 : Nat) : Int) := by
 rw [gF, ← Int.natCast_mul];omega
theorem rZ {a b : Nat} (ha : a ≤ 4294967295) (hb : b ≤ 4294967295) : a * b ≤ 18446744065119617025 := Nat.mul_le_mul ha hb
/-- a product by its four parts -/
theorem tH {x y x1 x0 y1 y0 : Nat} (hx : x = x1 * 4294967296 + x0) (hy : y = y1 * 4294967296 + y0) : x * y = x1 * y1 * 18446744073709551616 + (x1 * y0 + x0 * y1) * 4294967296 + x0 * y0 := by
 rw [hx, hy, Nat.add_mul, Nat.mul_add, Nat.mul_add, show x1 * 4294967296 * (y1 * 4294967296) = x1 * y1 * 18446744073709551616 by rw [Nat.mul_mul_mul_comm], Nat.mul_right_comm x1 4294967296 y0, show x0 * (y1 * 4294967296) = x0 * y1 * 4294967296 by rw [Nat.mul_assoc]];omega
/-- a difference in words, both taken by their rest -/
theorem diff_is {a b c : Nat} (h : b ≤ a) (hc : c < 18446744073709551616) (he : a = b + c) : (a % 18446744073709551616 + 18446744073709551616 - b % 18446744073709551616) % 18446744073709551616 = c := by omega
namespace D2
/-- the number by which division by y guesses -/
def rec (y : Nat) : Nat := 340282366920938463463374607431768211455 / (y * 2 ^ (64 - blen y)) - 18446744073709551616
theorem rec_of {d : Nat} (h : 9223372036854775808 ≤ d) (h1 : d < 18446744073709551616) : ((18446744073709551615 - d) * 18446744073709551616 + 18446744073709551615) / d = 340282366920938463463374607431768211455 / d - 18446744073709551616 := by
 rw [show 340282366920938463463374607431768211455 = (18446744073709551615 - d) * 18446744073709551616 + 18446744073709551615 + 18446744073709551616 * d by omega, Nat.add_mul_div_right _ _ (by omega), Nat.add_sub_cancel]
theorem rec_lt {d : Nat} (h : 9223372036854775808 ≤ d) : 340282366920938463463374607431768211455 / d - 18446744073709551616 < 18446744073709551616 := by
 have h1 : 340282366920938463463374607431768211455 / d < 36893488147419103232 := (Nat.div_lt_iff_lt_mul (by omega)).2 (by omega);omega
theorem rec_M {d m : Nat} (h : 9223372036854775808 ≤ d) (h1 : d < 18446744073709551616) (hm : m = 340282366920938463463374607431768211455 / d - 18446744073709551616) : (m + 18446744073709551616) * d < 18446744073709551616 * 18446744073709551616 ∧ 18446744073709551616 * 18446744073709551616 ≤ (m + 18446744073709551616) * d + d := by
 have h2 := Nat.div_add_mod 340282366920938463463374607431768211455 d;have h3 := Nat.mod_lt 340282366920938463463374607431768211455 (show 0 < d by omega);have h4 : 18446744073709551616 ≤ 340282366920938463463374607431768211455 / d := (Nat.le_div_iff_mul_le (by omega)).2 (by omega);obtain ⟨q, hq⟩ : ∃ q, q = 340282366920938463463374607431768211455 / d := ⟨_, rfl⟩;rw [← hq] at h2 h4 hm;have : m + 18446744073709551616 = q := by omega
 rw [this, Nat.mul_comm q d]
 constructor <;> omega
/-- the two digits of a division by halves -/
theorem halves {y u n q1 u21 q0 r : Nat} (h1 : u * 4294967296 + n / 4294967296 = q1 * y + u21) (h0 : u21 * 4294967296 + n % 4294967296 = q0 * y + r) (hr : r < y) :
 q1 * 4294967296 + q0 = (u * 18446744073709551616 + n) / y ∧ r = (u * 18446744073709551616 + n) % y := by
 refine Dv.due ?_ hr;have h2 := Nat.div_add_mod n 4294967296;have e : u * 18446744073709551616 = u * 4294967296 * 4294967296 := by rw [Nat.mul_assoc]
 have e2 : (u * 4294967296 + n / 4294967296) * 4294967296 + n % 4294967296 = q1 * y * 4294967296 + (q0 * y + r) := by rw [h1, Nat.add_mul, Nat.add_assoc, h0]
 rw [Nat.add_mul, ← e, Nat.mul_comm (n / 4294967296), Nat.add_assoc, h2] at e2;rw [e2, Nat.add_mul, Nat.mul_right_comm, Nat.add_assoc]
/-- a guess of a digit that may be too great: q with the rest r, by the upper part y1 of the divisor -/
def Dg (b y1 y0 u1 un q r : Nat) : Prop := q * y1 + r = u1 ∧ u1 * b + un < (q + 1) * (y1 * b + y0)
theorem Dg.start {b y1 y0 u1 un : Nat} (hb : 0 < b) (h1 : 0 < y1) (hun : un < b) : Dg b y1 y0 u1 un (u1 / y1) (u1 - u1 / y1 * y1) := by
 have h2 := Nat.div_mul_le_self u1 y1;exact ⟨by omega, Dv.digit0 hb rfl hun rfl h1 rfl⟩
theorem Dg.next {b y1 y0 u1 un q r : Nat} (h : Dg b y1 y0 u1 un q r) (hU : u1 * b + un < b * (y1 * b + y0)) (hc : b ≤ q ∨ b * r + un < q * y0) : 0 < q ∧ Dg b y1 y0 u1 un (q - 1) (r + y1) := by
 have hlt : u1 * b + un < q * (y1 * b + y0) := by
  rcases hc with hc | hc
  ·exact Nat.lt_of_lt_of_le hU (Nat.mul_le_mul_right _ hc)
  ·exact Dv.digit1 rfl rfl h.1 hc
 have hq : 0 < q := by
  rcases Nat.eq_zero_or_pos q with rfl | h9
  ·rw [Nat.zero_mul] at hlt; omega
  ·exact h9
 obtain ⟨k, rfl⟩ : ∃ k, q = k + 1 := ⟨q - 1, by omega⟩;refine ⟨hq, ?_, ?_⟩
 ·have := h.1;rw [Nat.add_mul, Nat.one_mul] at this;rw [Nat.add_sub_cancel];omega
 ·rw [Nat.add_sub_cancel]; exact hlt
theorem Dg.done {b y1 y0 u1 un q r : Nat} (h : Dg b y1 y0 u1 un q r) (h2 : q * y0 ≤ b * r + un) : q = (u1 * b + un) / (y1 * b + y0) := Dv.digit_is (Dv.digit2 rfl rfl h.1 h2) h.2
theorem Dg.over {b y1 y0 u1 un q r : Nat} (h : Dg b y1 y0 u1 un q r) (hq : q ≤ b) (hy0 : y0 < b) (hr : b ≤ r) : q = (u1 * b + un) / (y1 * b + y0) := Dv.digit_is (Dv.digit3 rfl rfl h.1 hq hy0 hr) h.2
theorem guess_le {b y1 y0 u1 : Nat} (h1 : 0 < y1) (h2 : b ≤ 2 * y1) (hy0 : y0 < b) (hu : u1 < y1 * b + y0) : u1 / y1 ≤ b + 1 := by
 have h3 : u1 < (b + 2) * y1 := by rw [Nat.add_mul, Nat.mul_comm b y1]; omega
 have := (Nat.div_lt_iff_lt_mul h1).2 h3;omega
theorem guess_t {m d a1 a0 t : Nat} (hd : 9223372036854775808 ≤ d) (hd1 : d < 18446744073709551616) (hm : m = 340282366920938463463374607431768211455 / d - 18446744073709551616) (h1 : a1 < d) (h0 : a0 < 18446744073709551616) (ht : t = (m * a1 / 18446744073709551616 + a1 + (m * a1 % 18446744073709551616 + a0 + 0) / 18446744073709551616) % 18446744073709551616) :
 t * d ≤ a1 * 18446744073709551616 + a0 ∧ a1 * 18446744073709551616 + a0 < t * d + 18446744073709551616 + d := by
 obtain ⟨g1, g2⟩ := rec_M hd hd1 hm;obtain ⟨k1, k2⟩ := Dv.guess (M := m + 18446744073709551616) (x1 := a1) (x0 := a0) (t := (a1 * (m + 18446744073709551616) + a0) / 18446744073709551616) hd1 (by omega) g1 g2 h1 h0 rfl;have hX : a1 * 18446744073709551616 + a0 < d * 18446744073709551616 := by omega
 have hb : (a1 * (m + 18446744073709551616) + a0) / 18446744073709551616 < 18446744073709551616 := by
  refine Nat.lt_of_mul_lt_mul_right (a := d) (Nat.lt_of_le_of_lt k1 ?_);omega
 have e : t = (a1 * (m + 18446744073709551616) + a0) / 18446744073709551616 := by
  rw [ht];rw [Nat.mul_add] at hb ⊢;rw [Nat.mul_comm m a1];obtain ⟨P, hP⟩ : ∃ P, P = a1 * m := ⟨_, rfl⟩;rw [← hP] at hb ⊢;omega
 rw [e];exact ⟨k1, k2⟩
theorem rest_t {a1 a0 Q : Nat} (h0 : a0 < 18446744073709551616) (h1 : a1 < 18446744073709551616) (hQ : Q ≤ a1 * 18446744073709551616 + a0) :
 (a0 + 18446744073709551616 - Q % 18446744073709551616 - 0) % 18446744073709551616 = (a1 * 18446744073709551616 + a0 - Q) % 18446744073709551616 ∧ (a1 + 18446744073709551616 - Q / 18446744073709551616 - (if a0 < Q % 18446744073709551616 + 0 then 1 else 0)) % 18446744073709551616 = (a1 * 18446744073709551616 + a0 - Q) / 18446744073709551616 := by
 constructor
 ·omega
 ·split <;> omega
theorem lt_word {q d X : Nat} (h : q * d ≤ X) (hX : X < d * 18446744073709551616) : q < 18446744073709551616 := by
 refine Nat.lt_of_mul_lt_mul_right (a := d) (Nat.lt_of_le_of_lt h ?_);rw [Nat.mul_comm];exact hX
theorem fin {X0 y s X d q r : Nat} (hX : X = X0 * 2 ^ s) (hd : d = y * 2 ^ s) (h : X = q * d + r) (hr : r < d) : q = X0 / y ∧ r / 2 ^ s = X0 % y := by
 obtain ⟨h1, h2⟩ := Dv.due h hr;have hp : 0 < 2 ^ s := Nat.pow_pos (by decide);obtain ⟨h3, h4⟩ := qR (X := X0) (y := y) hp;rw [h1, h2, hX, hd];exact ⟨h3, h4⟩
/-- the rest of a digit -/
theorem rest_of {q U y : Nat} (hy : 0 < y) (h : q = U / y) : q * y ≤ U ∧ U - q * y < y ∧ U = q * y + (U - q * y) := by
 have h1 := Nat.div_mul_le_self U y;have h2 := Nat.lt_mul_div_succ U hy;rw [← h] at h1 h2;rw [Nat.mul_add, Nat.mul_one, Nat.mul_comm] at h2;omega
end D2
end Go.Proofs.YtccicbpeajdjgaaGreatDoor.Vm
namespace Go.Proofs.YtccicbpeajdjgaaGreatDoor.Vm
open Go Mix
/-- block r is a map with these entries -/
def MapAt (w : World) (r : Nat) (es : Array MapEntry) (clock : Nat) : Prop := w.heap[r]? = some (.map es clock)
section
variable {X : Cx} {m : Option (List Nat)} {ops : Array Oper} {rest : List Oper} {ks : List KI} {ds : List Deferred} {l : Kn} {w : World} {d ty : Nat} {pos : String} {aft : Array Edge} {v : Value}
theorem rN {T k e : TypeId} (ht : X.P.underlying T = some (.map k e)) (hc : eventOK m (.makeMap T none) ty = true) (hd : Nat.blt d X.n = true)
 (kk : ∀ w', MapAt w' w.heap.size #[] 0 → Same [] w w' → WR X m ops rest ks ds ((d, .map (some w.heap.size)) :: l) w') : WR X m ops (⟨some d, .makeMap T none, ty, pos, aft, none⟩ :: rest) ks ds l w :=
 eI hd hc (w' := w.alloc (.map #[] 0)) (fun a ha => by
  have hr : (Instr.makeMap T none).run X.P w = .ok (.map (some w.heap.size)) (w.alloc (.map #[] 0)) := by
   simp [Instr.makeMap, run_underlying ht]
  simp only [execOp, Option.map_none, Sem.run_bind, hr, Result.andThen_ok, Sem.run_pure]) (kk _ (MapKept.heap_alloc w _).1 (Same.alloc w _))
theorem jW {T k e : TypeId} {mp key val : Operand} {r clock : Nat} {es : Array MapEntry} {kv vv : Value} {D : TypeDesc} (hm : ev l mp = some (.map (some r))) (hk : ev l key = some kv) (hv : ev l val = some vv) (ht : X.P.underlying T = some (.map k e)) (hD : X.P.underlying k = some D) (hik : MapKept.IsKey D kv)
 (hb : MapAt w r es clock) (hf : Instr.findNow D kv es.toList 0 = some none) (hc : eventOK m (.insert T mp key val) ty = true)
 (kk : ∀ w', MapAt w' r (es.push { key := kv, val := vv, born := clock }) (clock + 1) → Same [r] w w' → WR X m ops rest ks ds l w') : WR X m ops (⟨none, .insert T mp key val, ty, pos, aft, none⟩ :: rest) ks ds l w :=
 lQ hc (w' := { w with heap := w.heap.setIfInBounds r (.map (es.push { key := kv, val := vv, born := clock }) (clock + 1)) }) (fun a ha => by
  have hr : (Instr.mapUpdate T (.map (some r)) kv vv).run X.P w = .ok () { w with heap := w.heap.setIfInBounds r (.map (es.push { key := kv, val := vv, born := clock }) (clock + 1)) } := by
   simp only [Instr.mapUpdate, Sem.run_bind, run_underlying ht, Result.andThen_ok, MapKept.run_getObj_map hb, MapKept.run_checkKey hD hik, MapKept.run_findKey hD hf, MapKept.run_setObj_map _ hb]
  simp only [execOp, ha.ev hm, ha.ev hk, ha.ev hv, Sem.run_bind, hr, Result.andThen_ok, Sem.run_pure]) (kk _ (MapKept.heap_set hb).1 ⟨by simp, fun g hg hgS => by
   have hne : r ≠ g := fun e => hgS (by simp [e])
   simp [Array.getElem?_setIfInBounds_ne hne], rfl, rfl, rfl⟩)
theorem tT {T k e : TypeId} {mp key : Operand} {r clock i : Nat} {es : Array MapEntry} {kv vv : Value} {D : TypeDesc} (hm : ev l mp = some (.map (some r))) (hk : ev l key = some kv) (ht : X.P.underlying T = some (.map k e)) (hD : X.P.underlying k = some D) (hik : MapKept.IsKey D kv)
 (hb : MapAt w r es clock) (hf : Instr.findNow D kv es.toList 0 = some (some (i, vv))) (hc : stillOK m (.lookup T mp key false) ty = true) (hd : Nat.blt d X.n = true)
 (kk : WR X m ops rest ks ds ((d, vv) :: l) w) : WR X m ops (⟨some d, .lookup T mp key false, ty, pos, aft, none⟩ :: rest) ks ds l w :=
 cY hd hc (fun a ha => by
  have hr : (Instr.lookup T (.map (some r)) kv false).run X.P w = .ok vv w := by
   simp only [Instr.lookup, Sem.run_bind, run_underlying ht, Result.andThen_ok, MapKept.run_getObj_map hb, Sem.run_pure, MapKept.run_checkKey hD hik, MapKept.run_findKey hD hf];rfl
  simp only [execOp, ha.ev hm, ha.ev hk, Sem.run_bind, hr, Result.andThen_ok, Sem.run_pure]) kk
end
theorem tD {P : Program} {fn : Func} {a1 a2 t1 s b1 : Nat} {D1 : TypeDesc} {f1 : Nat → Value} {u : Value} {tmps : Array Value} {w : World} (hrs : fn.results = #[.cell a1 t1, .tmp a2]) (h1 : tmps.getD a1 undef = .pointer (some ⟨b1, 0, none⟩)) (h2 : tmps.getD a2 undef = u)
 (hu1 : P.underlying t1 = some D1) (hD1 : plainD D1 = false) (hs : (P.info? t1).map (·.size) = some s) (hc1 : Rd w b1 0 s f1) : (results fn tmps).run P w = .ok (.tuple #[.agg ((List.range s).map f1).toArray, u]) w := by
 have ha1 : (asAddr (tmps.getD a1 undef)).run P w = .ok ⟨b1, 0, none⟩ w := by rw [h1]; rfl
 have hl1 := lI hu1 hD1 hs hc1;unfold results;rw [hrs, show (#[ResultVar.cell a1 t1, .tmp a2] : Array ResultVar) = [ResultVar.cell a1 t1, .tmp a2].toArray from rfl, List.mapM_toArray];simp only [map_eq_pure_bind, Sem.run_bind, List.mapM_cons, List.mapM_nil, Sem.run_pure, Result.andThen_ok, ha1, hl1, h2];rfl
/-- the way out of a function whose results are a struct in a cell and a plain value -/
theorem eO {P : Program} {fn : Func} {R : Value → World → Prop} {n : Nat} {ks : List KI} {l : Kn} {w : World} {a1 a2 t1 s b1 : Nat} {D1 : TypeDesc} {f1 : Nat → Value} {u : Value} (hrs : fn.results = #[.cell a1 t1, .tmp a2]) (h1 : look l a1 = some (.pointer (some ⟨b1, 0, none⟩))) (h2 : look l a2 = some u)
 (hu1 : P.underlying t1 = some D1) (hD1 : plainD D1 = false) (hs : (P.info? t1).map (·.size) = some s) (hc1 : Rd w b1 0 s f1) (h : R (.tuple #[.agg ((List.range s).map f1).toArray, u]) w) :
 WC ⟨P, n, bodyPost P fn fun e w' => ∃ v, e = .returned v ∧ R v w'⟩ .ret ks [] l w :=
 jN fun a ha => ⟨ha.defers, _, tD hrs (ha.get _ _ h1) (ha.get _ _ h2) hu1 hD1 hs hc1, _, rfl, h⟩
end Go.Proofs.YtccicbpeajdjgaaGreatDoor.Vm
