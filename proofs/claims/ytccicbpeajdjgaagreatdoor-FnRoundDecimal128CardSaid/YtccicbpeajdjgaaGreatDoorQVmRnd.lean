/- Pointers compared with nil; nil slices cut; one call put off behind plain results. -/
import Derived.Test.YtccicbpeajdjgaaGreatDoorQVm
import Derived.Test.YtccicbpeajdjgaaGreatDoorQVmNew
import Derived.Laws.IdiomCopy
import Derived.Lib.AppendZeros
import Derived.Recover
set_option linter.unusedVariables false
set_option linter.unusedSimpArgs false
namespace Go.Proofs.YtccicbpeajdjgaaGreatDoor.Vm
open Go Mix Go.RowKit
theorem nP {P : Program} {t e : Nat} {p : Option Addr} {w : World} (hu : P.underlying t = some (.pointer e)) : (Op.equal t (.pointer p) (.pointer none)).run P w = .ok p.isNone w := by
 unfold Op.equal;rw [show Op.maxDepth = 9999 + 1 from rfl];unfold Op.equalIn
 cases p <;> simp [Sem.run_bind, run_underlying hu]
section
variable {X : Cx} {m : Option (List Nat)} {ops : Array Oper} {rest : List Oper} {ks : List KI} {ds : List Deferred} {l : Kn} {w : World} {d ty : Nat} {pos : String} {aft : Array Edge} {v : Value}
theorem lB {t t' e : TypeId} {x y : Operand} {p : Option Addr} (hx : ev l x = some (.pointer p)) (hy : ev l y = some (.pointer none)) (hu : X.P.underlying t = some (.pointer e)) (hd : Nat.blt d X.n = true)
 (kk : WR X m ops rest ks ds ((d, .bool p.isNone) :: l) w) : WR X m ops (⟨some d, .binOp .eql t x y t', ty, pos, aft, none⟩ :: rest) ks ds l w :=
 cY hd (by cases m <;> rfl) (fun a ha => by
  simp only [execOp, ha.ev hx, ha.ev hy, Sem.run_bind]
  have hg : (eqGuard .eql t x y (.pointer p) (.pointer none)).run X.P w = .ok () w := by cases p <;> rfl
  rw [hg]; simp [binOp, nP hu]) kk
theorem wW {t t' e : TypeId} {x y : Operand} {p : Option Addr} (hx : ev l x = some (.pointer p)) (hy : ev l y = some (.pointer none)) (hu : X.P.underlying t = some (.pointer e)) (hd : Nat.blt d X.n = true)
 (kk : WR X m ops rest ks ds ((d, .bool (!p.isNone)) :: l) w) : WR X m ops (⟨some d, .binOp .neq t x y t', ty, pos, aft, none⟩ :: rest) ks ds l w :=
 cY hd (by cases m <;> rfl) (fun a ha => by
  simp only [execOp, ha.ev hx, ha.ev hy, Sem.run_bind]
  have hg : (eqGuard .neq t x y (.pointer p) (.pointer none)).run X.P w = .ok () w := by cases p <;> rfl
  rw [hg]; simp [binOp, nP hu]) kk
/-- x[L:H] of a slice without memory -/
theorem lP {T E s : Nat} {x : Operand} {L H : Option Operand} {len cap lo hi : Nat} (hx : ev l x = some (.slice none len cap)) (hu : X.P.underlying T = some (.slice E)) (hs : (X.P.info? E).map (·.size) = some s)
 (hH : bndH l len cap hi H) (hL : bndL l lo hi L) (hd : Nat.blt d X.n = true)
 (kk : WR X m ops rest ks ds ((d, .slice none (hi - lo) (cap - lo)) :: l) w) : WR X m ops (⟨some d, .slice T x L H none, ty, pos, aft, none⟩ :: rest) ks ds l w :=
 cY hd (by cases m <;> rfl) (fun a ha => by
  simp only [execOp, ha.ev hx, Instr.sliceAt, Instr.slice, Option.map_none, Sem.run_bind, Sem.run_pure, Result.andThen_ok, run_underlying hu, gW (jL ha hH) (jK ha hL), dP hs]
  split <;> simp_all) kk
/-- x[:H] -/
theorem fC {T E s : Nat} {x : Operand} {H : Option Operand} {b o len cap hi : Nat} (hx : ev l x = some (.slice (some ⟨b, o, none⟩) len cap)) (hu : X.P.underlying T = some (.slice E)) (hs : (X.P.info? E).map (·.size) = some s)
 (hH : bndH l len cap hi H) (hd : Nat.blt d X.n = true)
 (kk : WR X m ops rest ks ds ((d, .slice (some ⟨b, o, none⟩) hi cap) :: l) w) : WR X m ops (⟨some d, .slice T x none H none, ty, pos, aft, none⟩ :: rest) ks ds l w := by
 refine gZ (lo := 0) hx hu hs hH rfl hd ?_
 have e : (if cap = 0 then o else o + 0 * s) = o := by split <;> omega
 rw [e, Nat.sub_zero, Nat.sub_zero];exact kk
/-- x[L:H], L below the capacity -/
theorem fD {T E : Nat} {x : Operand} {L H : Option Operand} {b o len cap lo hi : Nat} (hx : ev l x = some (.slice (some ⟨b, o, none⟩) len cap)) (hu : X.P.underlying T = some (.slice E)) (hs : (X.P.info? E).map (·.size) = some 1)
 (hH : bndH l len cap hi H) (hL : bndL l lo hi L) (hne : lo < cap) (hd : Nat.blt d X.n = true)
 (kk : WR X m ops rest ks ds ((d, .slice (some ⟨b, o + lo, none⟩) (hi - lo) (cap - lo)) :: l) w) : WR X m ops (⟨some d, .slice T x L H none, ty, pos, aft, none⟩ :: rest) ks ds l w := by
 refine gZ hx hu hs hH hL hd ?_;rw [if_neg zw, Nat.mul_one];exact kk
/-- make with room behind the length -/
theorem wY {T E by' : Nat} {x y : Operand} {n c : Nat} {z : Value} (hx : ev l x = some (.int .i64 (n : Nat))) (hy : ev l y = some (.int .i64 (c : Nat))) (hnc : n ≤ c) (hu : X.P.underlying T = some (.slice E)) (hi : (X.P.info? E).map (fun i => (i.size, i.bytes, i.zero)) = some (1, by', some z)) (hz : z.cells = #[z]) (hby : by' ≤ 16) (hn : c ≤ 1099511627776)
 (hc : eventOK m (.makeSlice T x y) ty = true) (hd : Nat.blt d X.n = true)
 (kk : ∀ w', Row w' w.heap.size E c (fun _ => z) → Same [] w w' → WR X m ops rest ks ds ((d, .slice (some ⟨w.heap.size, 0, none⟩) n c) :: l) w') : WR X m ops (⟨some d, .makeSlice T x y, ty, pos, aft, none⟩ :: rest) ks ds l w := by
 cases hi' : X.P.info? E with
 | none => rw [hi'] at hi; cases hi
 | some i =>
  rw [hi'] at hi;simp only [Option.map_some, Option.some.injEq, Prod.mk.injEq] at hi;obtain ⟨hs, hb, hz'⟩ := hi
  have hnb : i.bytes * c ≤ 16 * 1099511627776 := by rw [hb]; exact Nat.mul_le_mul hby hn
  have hr := run_make (P := X.P) w T E i z hu hi' hz' .i64 .i64 (n : Nat) (c : Nat) zw zw (by rw [← Int.natCast_mul]; omega) zw;simp only [Int.toNat_natCast, hs, Nat.mul_one, hz] at hr;refine eI hd hc (w' := w.alloc (.cells (madeCells #[z] c) E)) (fun a ha => ?_) (kk _ ?_ (Same.alloc w _))
  ·simp only [execOp, ha.ev hx, ha.ev hy, Sem.run_bind, hr, Result.andThen_ok, Sem.run_pure]
  ·have := Row.alloc w (madeCells #[z] c) E;rw [size_madeCells] at this;refine this.congr fun j hj => ?_
   simp [madeCells, hj, Nat.mod_one]
theorem kA {z : Value} (hz : z.cells = #[z]) {n i : Nat} (h : i < n) : (Builtin.zeroCells z.cells n)[i]? = some z := by
 rw [hz]
 simp [Builtin.zeroCells, h, Nat.mod_one]
/-- zeros put behind nothing -/
theorem rO {t tn E by' : Nat} {x y : Operand} {n : Nat} {z : Value} {kn : IntKind} (hx : ev l x = some (.slice none 0 0)) (hy : ev l y = some (.int .i64 (n : Nat))) (h0 : 0 < n) (hn : n ≤ 1024) (hu : X.P.underlying t = some (.slice E)) (htn : X.P.underlying tn = some (.int kn)) (hi : (X.P.info? E).map (fun i => (i.size, i.bytes, i.zero)) = some (1, by', some z)) (hz : z.cells = #[z]) (hby : by' ≤ 16)
 (hc : eventOK m (.call ⟨.builtin .append, #[x, y], #[t, tn]⟩) ty = true) (hd : Nat.blt d X.n = true)
 (kk : ∀ w' c, n ≤ c → Row w' w.heap.size E c (fun _ => z) → Same [] w w' → WR X m ops rest ks ds ((d, .slice (some ⟨w.heap.size, 0, none⟩) n c) :: l) w') :
 WR X m ops (⟨some d, .call ⟨.builtin .append, #[x, y], #[t, tn]⟩, ty, pos, aft, none⟩ :: rest) ks ds l w := by
 cases hi' : X.P.info? E with
 | none => rw [hi'] at hi; cases hi
 | some i =>
  rw [hi'] at hi;simp only [Option.map_some, Option.some.injEq, Prod.mk.injEq] at hi;obtain ⟨hs, hb, hz'⟩ := hi
  have hnb : n * i.bytes ≤ 1024 * 16 := by rw [hb]; exact Nat.mul_le_mul hn hby
  have hr := Lib.run_append_nil_zeros (P := X.P) w t tn ty E i z .i64 kn hu htn hi' hz' n h0 zw zw zw;have hge := grownCap_ge w n 0 E;refine eI hd hc (w' := w.drew.alloc (.cells (Builtin.zeroCells z.cells n ++ Builtin.zeroCells z.cells (grownCap w n 0 E - n)) E)) (fun a ha => ?_) (kk _ _ hge ?_ ((aC w).trans (Same.alloc w.drew _) zp))
  ·simp only [execOp, resolve, Sem.run_bind, Sem.run_pure, Result.andThen_ok, Go.invoke, builtin, List.map_toArray, List.map_cons, List.map_nil, ha.ev hx, ha.ev hy];rw [hr];rfl
  ·have h1 := Row.alloc w.drew (Builtin.zeroCells z.cells n ++ Builtin.zeroCells z.cells (grownCap w n 0 E - n)) E
   have h2 : (Builtin.zeroCells z.cells n ++ Builtin.zeroCells z.cells (grownCap w n 0 E - n)).size = grownCap w n 0 E := by
    rw [hz]
    simp [Builtin.zeroCells]
    omega
   rw [h2] at h1;refine h1.congr fun j hj => ?_
   have h3 : (Builtin.zeroCells z.cells n).size = n := by rw [hz]; simp [Builtin.zeroCells]
   have h4 : (Builtin.zeroCells z.cells n ++ Builtin.zeroCells z.cells (grownCap w n 0 E - n))[j]? = some z := by
    rw [Array.getElem?_append, h3]
    split
    ·next h => exact kA hz h
    ·next h => exact kA hz zw
   rw [Array.getD_eq_getD_getElem?, h4];rfl
/-- a copy of nothing -/
theorem wZ {x y : Operand} {dT sT E : Nat} {A B : Option Addr} {dLen dCap sCap : Nat} (hx : ev l x = some (.slice A dLen dCap)) (hy : ev l y = some (.slice B 0 sCap))
 (hu : X.P.underlying dT = some (.slice E)) (hs : (X.P.info? E).map (·.size) = some 1)
 (hc : eventOK m (.call ⟨.builtin .copy, #[x, y], #[dT, sT]⟩) ty = true) (hd : Nat.blt d X.n = true)
 (kk : WR X m ops rest ks ds ((d, .int .i64 0) :: l) w) : WR X m ops (⟨some d, .call ⟨.builtin .copy, #[x, y], #[dT, sT]⟩, ty, pos, aft, none⟩ :: rest) ks ds l w :=
 eI hd hc (w' := w) (fun a ha => by
  have hr := run_copy_none (P := X.P) w dT sT ty E A B dLen dCap 0 sCap hu hs (Nat.zero_min _);simp only [execOp, resolve, Sem.run_bind, Sem.run_pure, Result.andThen_ok, Go.invoke, builtin, List.map_toArray, List.map_cons, List.map_nil, ha.ev hx, ha.ev hy];rw [hr]
  simp [goInt]) kk
end
theorem vF {P : Program} {fn : Func} {R : Value → World → Prop} {n : Nat} {l : Kn} {w w2 : World} {F : FuncId} {dargs : Array Value} {rs : List ResultVar} {vs : List Value}
 (hrs : fn.results = rs.toArray) (hv : resK l rs = some vs)
 (hcf : (callFunc F dargs).run P w = .ok (.enter F dargs) w) (hcall : CallsD P F dargs .returning w fun e u' w' => (∃ v, e = .returned v) ∧ u' = .returning ∧ w' = w2)
 (h : R (tupV vs) w2) (a : Act) (ha : Fr a n [⟨.fn (.func F) #[], dargs⟩] l) :
 Leaves P fn a.tmps (fun e w' => ∃ v, e = .returned v ∧ R v w') a.defers .returning w := by
 have hr := iC (P := P) (w := w2) hrs ha hv;rw [ha.defers];refine leaves_cons (f := F) (args := dargs) zp (by simp only [Go.invoke, Array.append_empty]; exact hcf) (hcall.mono ?_);rintro e u' w' ⟨⟨v, rfl⟩, rfl, rfl⟩;exact ⟨_, hr, _, rfl, h⟩
/-- the way out of a function with plain results and one call put off, which does nothing -/
theorem qM {P : Program} {fn : Func} {R : Value → World → Prop} {n : Nat} {ks : List KI} {l : Kn} {w : World} (w2 : World) {F : FuncId} {dargs : Array Value} {rs : List ResultVar} {vs : List Value}
 (hrs : fn.results = rs.toArray) (hv : resK l rs = some vs)
 (hcf : (callFunc F dargs).run P w = .ok (.enter F dargs) w) (hcall : CallsD P F dargs .returning w fun e u' w' => (∃ v, e = .returned v) ∧ u' = .returning ∧ w' = w2) (h : R (tupV vs) w2) :
 WC ⟨P, n, bodyPostD P fn fun e w' => ∃ v, e = .returned v ∧ R v w'⟩ .ret ks [⟨.fn (.func F) #[], dargs⟩] l w :=
 jN fun a ha => vF hrs hv hcf hcall h a ha
theorem xB {P : Program} {fn : Func} {R : Value → World → Prop} {n : Nat} {l : Kn} {w : World} (w2 : World) {F : FuncId} {dargs : Array Value} {rs : List ResultVar} {vs : List Value}
 (hrs : fn.results = rs.toArray) (hv : resK l rs = some vs)
 (hcf : (callFunc F dargs).run P w = .ok (.enter F dargs) w) (hcall : CallsD P F dargs .returning w fun e u' w' => (∃ v, e = .returned v) ∧ u' = .returning ∧ w' = w2) (h : R (tupV vs) w2) :
 WN ⟨P, n, bodyPostD P fn fun e w' => ∃ v, e = .returned v ∧ R v w'⟩ [] [⟨.fn (.func F) #[], dargs⟩] l w := fun a ha => vF hrs hv hcf hcall h a ha
/-- a function that is called because it was put off -/
theorem CallsD.enter {P : Program} {f : FuncId} {fn : Func} {n : Nat} {c : Code} {vs : List Value} {w w2 : World} (hf : P.funcs[f]? = some fn) (hn : fn.ntmps = n) (hb : fn.body = some c) (hl : Nat.ble vs.length n = true)
 (h : ∀ c₀ cs, c₀.mode = .returning → WC ⟨P, n, fun e a w => bodyPostS P fn c₀ cs (fun e u' w' => (∃ v, e = .returned v) ∧ u' = .returning ∧ w' = w2) e a (c₀ :: cs) w⟩ c [] [] (args0 0 vs) w) : CallsD P f vs.toArray .returning w fun e u' w' => (∃ v, e = .returned v) ∧ u' = .returning ∧ w' = w2 := by
 refine callsD_of_wpS hf hb fun c₀ cs hu => wpS_of_wp ?_;rw [hn];exact h c₀ cs hu _ (Fr.enter n vs (by simpa using hl))
theorem postQ {P : Program} {fn : Func} {n : Nat} {l : Kn} {w : World} {rs : List ResultVar} {vs : List Value} {c₀ : Frame} {cs : List Frame} (hrs : fn.results = rs.toArray) (hv : resK l rs = some vs) (hm : c₀.mode = .returning) (a : Act) (ha : Fr a n [] l) :
 a.defers = [] ∧ ∃ u', (c₀ :: cs) = { c₀ with mode := u' } :: cs ∧ ∃ v, (results fn a.tmps).run P w = .ok v w ∧ (∃ v2, Ending.returned v = .returned v2) ∧ u' = .returning ∧ w = w := by
 refine ⟨ha.defers, .returning, ?_, _, iC hrs ha hv, ⟨_, rfl⟩, rfl, rfl⟩;cases c₀;simp only at hm;rw [hm]
theorem WC.retQ {P : Program} {fn : Func} {n : Nat} {ks : List KI} {l : Kn} {w : World} {rs : List ResultVar} {vs : List Value} {c₀ : Frame} {cs : List Frame} (hrs : fn.results = rs.toArray) (hv : resK l rs = some vs) (hm : c₀.mode = .returning) :
 WC ⟨P, n, fun e a w' => bodyPostS P fn c₀ cs (fun e u' w' => (∃ v, e = .returned v) ∧ u' = .returning ∧ w' = w) e a (c₀ :: cs) w'⟩ .ret ks [] l w := jN fun a ha => postQ hrs hv hm a ha
theorem WN.endQ {P : Program} {fn : Func} {n : Nat} {l : Kn} {w : World} {rs : List ResultVar} {vs : List Value} {c₀ : Frame} {cs : List Frame} (hrs : fn.results = rs.toArray) (hv : resK l rs = some vs) (hm : c₀.mode = .returning) :
 WN ⟨P, n, fun e a w' => bodyPostS P fn c₀ cs (fun e u' w' => (∃ v, e = .returned v) ∧ u' = .returning ∧ w' = w) e a (c₀ :: cs) w'⟩ [] [] l w := fun a ha => postQ hrs hv hm a ha
/-- a word's cell stays when another cell is written -/
theorem eY {w w' : World} {b o b' o' t n : Nat} {f : Nat → Value} {u v : Value} (h : w.cell? ⟨b, o, none⟩ = some u) (hr : Row w b' t n f) (hw : w' = w.setCell ⟨b', o', none⟩ v) (hne : o ≠ o') : w'.cell? ⟨b, o, none⟩ = some u := by
 by_cases hb : b = b'
 ·subst hb;obtain ⟨c, hc, hn, hf⟩ := hr;have hl : b < w.heap.size := Row.lt ⟨c, hc, hn, hf⟩;subst hw;obtain ⟨c', hc', hn', hf'⟩ := (Row.set (f := fun i => c.getD i undef) (n := c.size) (w := w) (b := b) (t := t) ⟨c, hc, rfl, fun i hi => by simp [hi]⟩ o' v)
  have h1 : o < c.size := by
   simp only [World.cell?, hc] at h;rcases Nat.lt_or_ge o c.size with h9 | h9
   ·exact h9
   ·simp [h9] at h
  have h2 := Row.cell (i := o) ⟨c', hc', hn', hf'⟩ h1;rw [h2];have h3 := Row.cell (w := w) (b := b) (t := t) (n := c.size) (f := fun i => c.getD i undef) (i := o) ⟨c, hc, rfl, fun i hi => by simp [hi]⟩ h1;rw [h] at h3;rw [h3]
  simp [upd, hne]
 ·have h1 : Rd w b o 1 (fun _ => u) := fun i hi => by
   obtain rfl : i = 0 := by omega
   exact h
  have hs := Same.setCell w ⟨b', o', none⟩ v;subst hw
  have hl : b < w.heap.size := by
   rcases Nat.lt_or_ge b w.heap.size with h9 | h9
   ·exact h9
   ·simp [World.cell?, h9] at h
  exact h1.same hs (by simp; exact hb) hl 0 zo
end Go.Proofs.YtccicbpeajdjgaaGreatDoor.Vm
namespace Go.Proofs.YtccicbpeajdjgaaGreatDoor.Dv
/-- the guess t of divWW: at most what is due, and what is left is small -/
theorem guess {d M x1 x0 t : Nat} (hd : d < 18446744073709551616) (h2 : 18446744073709551616 ≤ 2 * d) (hM1 : M * d < 18446744073709551616 * 18446744073709551616) (hM2 : 18446744073709551616 * 18446744073709551616 ≤ M * d + d) (hx1 : x1 < d) (hx0 : x0 < 18446744073709551616) (ht : t = (x1 * M + x0) / 18446744073709551616) :
 t * d ≤ x1 * 18446744073709551616 + x0 ∧ x1 * 18446744073709551616 + x0 < t * d + 18446744073709551616 + d := by
 have h1 := Nat.div_add_mod (x1 * M + x0) 18446744073709551616;have h3 := Nat.mod_lt (x1 * M + x0) (show 0 < 18446744073709551616 by decide);rw [← ht] at h1;obtain ⟨p, hp⟩ : ∃ p, p = x1 * (M * d) := ⟨_, rfl⟩;obtain ⟨q, hq⟩ : ∃ q, q = t * d := ⟨_, rfl⟩;have e1 : (x1 * M + x0) * d = p + x0 * d := by rw [Nat.add_mul, Nat.mul_assoc, ← hp]
 have e2 : 18446744073709551616 * t * d = q * 18446744073709551616 := by rw [Nat.mul_assoc, ← hq, Nat.mul_comm]
 have a1 : p ≤ x1 * (18446744073709551616 * 18446744073709551616) := by rw [hp]; exact Nat.mul_le_mul_left _ (Nat.le_of_lt hM1)
 have a2 : x0 * d ≤ x0 * 18446744073709551616 := Nat.mul_le_mul_left _ (Nat.le_of_lt hd);have c1 : 18446744073709551616 * t * d ≤ (x1 * M + x0) * d := Nat.mul_le_mul_right _ (by omega);have c2 : (x1 * M + x0 + 1) * d ≤ (18446744073709551616 * t + 18446744073709551616) * d := Nat.mul_le_mul_right _ (by omega);have e3 : (x1 * M + x0 + 1) * d = p + x0 * d + d := by rw [Nat.add_mul, e1, Nat.one_mul]
 have e4 : (18446744073709551616 * t + 18446744073709551616) * d = q * 18446744073709551616 + 18446744073709551616 * d := by rw [Nat.add_mul, e2]
 have b2 : x1 * (18446744073709551616 * 18446744073709551616) ≤ p + x1 * d := by
  have := Nat.mul_le_mul_left x1 hM2;rw [Nat.mul_add, ← hp] at this;exact this
 have b3 : x1 * d + d ≤ d * d := by
  have : (x1 + 1) * d ≤ d * d := Nat.mul_le_mul_right _ hx1;rw [Nat.add_mul, Nat.one_mul] at this;exact this
 have b4 : d * d ≤ d * 18446744073709551616 := Nat.mul_le_mul_left _ (Nat.le_of_lt hd);obtain ⟨e, he⟩ : ∃ e, d + e = 18446744073709551616 := ⟨18446744073709551616 - d, by omega⟩;have b5 : x0 * 18446744073709551616 = x0 * d + x0 * e := by rw [← Nat.mul_add, he]
 have b6 : x0 * e ≤ 18446744073709551615 * e := Nat.mul_le_mul_right _ (by omega);rw [← hq];obtain ⟨u, hu⟩ : ∃ u, u = x0 * d := ⟨_, rfl⟩;obtain ⟨v, hv⟩ : ∃ v, v = x0 * e := ⟨_, rfl⟩;obtain ⟨s, hs⟩ : ∃ s, s = d * d := ⟨_, rfl⟩;obtain ⟨r, hr⟩ : ∃ r, r = x1 * d := ⟨_, rfl⟩;simp only [← hu, ← hv, ← hs, ← hr] at *
 constructor <;> omega
/-- what is due from a guess and what is left of it -/
theorem due {x d t r : Nat} (h : x = t * d + r) (hr : r < d) : t = x / d ∧ r = x % d := by
 subst h
 constructor
 ·rw [Nat.mul_comm, Nat.mul_add_div (by omega), Nat.div_eq_of_lt hr, Nat.add_zero]
 ·rw [Nat.mul_comm, Nat.mul_add_mod, Nat.mod_eq_of_lt hr]
/-- the first guess of a digit: by the upper half b of the divisor alone; never too small -/
theorem digit0 {U y u1 y1 y0 q : Nat} {b un : Nat} (hb : 0 < b) (hU : U = u1 * b + un) (hun : un < b) (hy : y = y1 * b + y0) (hy1 : 0 < y1) (hq : q = u1 / y1) : U < (q + 1) * y := by
 have h1 : u1 < (q + 1) * y1 := by
  have := Nat.lt_mul_div_succ u1 hy1
  rw [hq, Nat.mul_comm]; exact this
 have h2 : (u1 + 1) * b ≤ (q + 1) * y1 * b := Nat.mul_le_mul_right _ h1;have h3 : (q + 1) * y = (q + 1) * y1 * b + (q + 1) * y0 := by rw [hy, Nat.mul_add, Nat.mul_assoc]
 rw [Nat.add_mul, Nat.one_mul] at h2;omega
/-- a guess that is too great -/
theorem digit1 {U y u1 y1 y0 q r : Nat} {b un : Nat} (hU : U = u1 * b + un) (hy : y = y1 * b + y0) (hq : q * y1 + r = u1) (h : b * r + un < q * y0) : U < q * y := by
 have h3 : q * y = q * y1 * b + q * y0 := by rw [hy, Nat.mul_add, Nat.mul_assoc]
 have h4 : u1 * b = q * y1 * b + r * b := by rw [← hq, Nat.add_mul]
 have h5 := Nat.mul_comm r b;omega
/-- a guess that is not too great -/
theorem digit2 {U y u1 y1 y0 q r : Nat} {b un : Nat} (hU : U = u1 * b + un) (hy : y = y1 * b + y0) (hq : q * y1 + r = u1) (h : q * y0 ≤ b * r + un) : q * y ≤ U := by
 have h3 : q * y = q * y1 * b + q * y0 := by rw [hy, Nat.mul_add, Nat.mul_assoc]
 have h4 : u1 * b = q * y1 * b + r * b := by rw [← hq, Nat.add_mul]
 have h5 := Nat.mul_comm r b;omega
/-- a guess whose rest has run over -/
theorem digit3 {U y u1 y1 y0 q r : Nat} {b un : Nat} (hU : U = u1 * b + un) (hy : y = y1 * b + y0) (hq : q * y1 + r = u1) (hqb : q ≤ b) (hy0 : y0 < b) (hr : b ≤ r) : q * y ≤ U := by
 refine digit2 hU hy hq ?_;have h1 : q * y0 ≤ b * b := Nat.mul_le_mul hqb (Nat.le_of_lt hy0);have h2 : b * b ≤ b * r := Nat.mul_le_mul_left _ hr;omega
theorem digit_is {U y q : Nat} (h1 : q * y ≤ U) (h2 : U < (q + 1) * y) : q = U / y := by
 have hy : 0 < y := by
  rcases Nat.eq_zero_or_pos y with rfl | h
  ·simp at h2
  ·exact h
 exact (Nat.div_eq_of_lt_le h1 h2).symm
/-- words of 64 bits as one number -/
theorem two_div {x y : Nat} (h : x < 18446744073709551616) : (x + y * 18446744073709551616) / 18446744073709551616 = y := by omega
theorem two_mod {x y : Nat} (h : x < 18446744073709551616) : (x + y * 18446744073709551616) % 18446744073709551616 = x := by omega
end Go.Proofs.YtccicbpeajdjgaaGreatDoor.Dv
namespace Go.Proofs.YtccicbpeajdjgaaGreatDoor.Rd
def dlz (x : Nat) : Nat := if h : x = 0 then 0 else dlz (x / 10) + 1
termination_by x
decreasing_by omega
theorem dlz_zero : dlz 0 = 0 := by unfold dlz; simp
theorem dlz_pos {x : Nat} (h : x ≠ 0) : dlz x = dlz (x / 10) + 1 := by rw [dlz]; simp [h]
theorem dlz_le : ∀ (p x : Nat), dlz x ≤ p ↔ x < 10 ^ p
 | 0, x => by
  by_cases h : x = 0
  ·subst h; simp [dlz_zero]
  ·rw [dlz_pos h]; simp; omega
 | p + 1, x => by
  by_cases h : x = 0
  ·subst h
   simp [dlz_zero, Nat.pow_pos]
  ·rw [dlz_pos h, Nat.add_le_add_iff_right, dlz_le p (x / 10), Nat.pow_succ, Nat.div_lt_iff_lt_mul (by decide)]
/-- how many digits a number has; zero has one -/
def digs (x : Nat) : Nat := if x = 0 then 1 else dlz x
theorem digs_le {p x : Nat} (hp : 0 < p) : digs x ≤ p ↔ x < 10 ^ p := by
 unfold digs
 split
 ·rename_i h
  subst h;exact ⟨fun _ => Nat.pow_pos (by decide), fun _ => hp⟩
 ·exact dlz_le p x
/-- does a number between two whole ones go to the upper one? -/
def up (mode : Nat) (c : Int) (even neg : Bool) : Bool :=
 if mode = 0 then false else if mode = 1 then true else if mode = 2 then neg else if mode = 3 then !neg
 else if c ≠ 0 then decide (0 < c) else if mode = 4 then false else if mode = 5 then true else if mode = 6 then neg else if mode = 7 then !neg else if mode = 8 then !even else even
def cmp (a b : Int) : Int := if a < b then -1 else if b < a then 1 else 0
def low (a b : Int) : Int := if a.tmod b < 0 then a.tdiv b - 1 else a.tdiv b
def over (a b : Int) : Int := if a.tmod b < 0 then a.tmod b + b else a.tmod b
/-- a divided by b, rounded in a mode -/
def rnd (mode : Nat) (a b : Int) : Int :=
 if a.tmod b = 0 then a.tdiv b else if up mode (cmp (over a b + over a b) b) (decide (low a b % 2 = 0)) (decide (a < 0)) then low a b + 1 else low a b
/-- the code's own way: x less its rest r, one step further or not -/
def fn (mode : Nat) (x r T : Int) : Int :=
 if mode = 0 ∨ mode = 4 then (if x - r < 0 then x - r - T else x - r)
 else if mode = 1 ∨ mode = 5 then (if 0 < x - r then x - r + T else x - r)
 else if mode = 2 ∨ mode = 6 then x - r
 else if mode = 3 ∨ mode = 7 then (if r < 0 then x - r - T else x - r + T)
 else if mode = 8 then (if x.tdiv T % 2 = 0 then x.tdiv T else if 0 ≤ r then x.tdiv T + 1 else x.tdiv T - 1) * T
 else (if x.tdiv T % 2 = 0 then (if 0 < r then x.tdiv T + 1 else x.tdiv T - 1) else x.tdiv T) * T
def call (mode : Nat) (x T h : Int) : Int :=
 if x.tmod T = 0 then x
 else if 4 ≤ mode then
  (if x.tmod T = h ∨ x.tmod T = -h then fn mode x (x.tmod T) T
  else if 0 ≤ x.tmod T then (if h < x.tmod T then x - x.tmod T + T else x - x.tmod T)
  else (if x.tmod T < -h then x - x.tmod T - T else x - x.tmod T))
 else fn mode x (x.tmod T) T
set_option maxHeartbeats 4000000 in
theorem call_rnd {mode : Nat} {x T h : Int} (hm : mode ≤ 9) (hT : 0 < T) (hh : 2 * h = T) (hq : x.tdiv T ≠ 0 ∨ ¬ (mode = 0 ∨ mode = 1 ∨ mode = 4 ∨ mode = 5)) : call mode x T h = rnd mode x T * T := by
 obtain ⟨q, hqd⟩ : ∃ q, q = x.tdiv T := ⟨_, rfl⟩;obtain ⟨r, hrd⟩ : ∃ r, r = x.tmod T := ⟨_, rfl⟩
 have hx : q * T + r = x := by rw [hqd, hrd, Int.mul_comm]; exact Int.mul_tdiv_add_tmod x T
 have hr1 : r < T := by rw [hrd]; exact Int.tmod_lt_of_pos x hT
 have hr2 : -T < r := by
  rcases Int.lt_or_le x 0 with h0 | h0
  ·have h1 : (-x).tmod T = -r := by rw [hrd, Int.neg_tmod]
   have h2 := Int.tmod_lt_of_pos (-x) hT;omega
  ·have h1 := Int.tmod_nonneg T h0;omega
 have hs1 : 0 ≤ x → 0 ≤ r ∧ 0 ≤ q := fun h0 => ⟨by rw [hrd]; exact Int.tmod_nonneg T h0, by rw [hqd]; exact Int.tdiv_nonneg h0 (Int.le_of_lt hT)⟩
 have hs2 : x < 0 → r ≤ 0 ∧ q ≤ 0 := fun h0 => by
  have h1 : (-x).tmod T = -r := by rw [hrd, Int.neg_tmod]
  have h2 : (-x).tdiv T = -q := by rw [hqd, Int.neg_tdiv]
  have h3 := Int.tmod_nonneg T (show 0 ≤ -x by omega);have h4 := Int.tdiv_nonneg (show 0 ≤ -x by omega) (Int.le_of_lt hT);omega
 obtain ⟨Y, hY⟩ : ∃ Y, Y = q * T := ⟨_, rfl⟩
 have hY1 : 0 < q → T ≤ Y := fun h0 => by
  have := Int.mul_le_mul_of_nonneg_right (show 1 ≤ q by omega) (Int.le_of_lt hT);omega
 have hY2 : q < 0 → Y ≤ -T := fun h0 => by
  have := Int.mul_le_mul_of_nonneg_right (show q ≤ -1 by omega) (Int.le_of_lt hT);omega
 have hY0 : q = 0 → Y = 0 := fun h0 => by rw [hY, h0, Int.zero_mul]
 have e1 : (q + 1) * T = Y + T := by rw [Int.add_mul, Int.one_mul, hY]
 have e2 : (q - 1) * T = Y - T := by rw [Int.sub_mul, Int.one_mul, hY]
 have e3 : (q - 1 + 1) * T = Y := by rw [show q - 1 + 1 = q by omega, hY]
 have hxr : x - r = Y := by omega
 rw [← hqd] at hq;unfold call rnd;rw [← hrd, ← hqd]
 by_cases hr0 : r = 0
 ·rw [if_pos hr0, if_pos hr0];omega
 rw [if_neg hr0, if_neg hr0];unfold over low fn;rw [← hrd, ← hqd, hxr];rcases (show 0 < r ∨ r < 0 by omega) with hp | hp
 ·have hx0 : 0 ≤ x := by
   rcases Int.lt_or_le x 0 with h0 | h0
   ·have := hs2 h0; omega
   ·exact h0
  have hq0 := (hs1 hx0).2;rw [if_neg (show ¬ r < 0 by omega), if_neg (show ¬ r < 0 by omega)]
  have hneg : decide (x < 0) = false := by simp; omega
  rw [hneg];clear hs1 hs2 hx hrd hqd hxr hr0 hneg
  rcases (show mode = 0 ∨ mode = 1 ∨ mode = 2 ∨ mode = 3 ∨ mode = 4 ∨ mode = 5 ∨ mode = 6 ∨ mode = 7 ∨ mode = 8 ∨ mode = 9 by omega) with rfl | rfl | rfl | rfl | rfl | rfl | rfl | rfl | rfl | rfl <;>
   simp [up, cmp, e1, e2, ← hY] <;> (repeat' split) <;> (try simp only [e1, e2, e3, ← hY]) <;> first | omega | (exfalso; simp_all; done)
 ·have hx0 : x < 0 := by
   rcases Int.lt_or_le x 0 with h0 | h0
   ·exact h0
   ·have := hs1 h0; omega
  have hq0 := (hs2 hx0).2;rw [if_pos hp, if_pos hp];have hneg : decide (x < 0) = true := by simp [hx0]
  rw [hneg];clear hs1 hs2 hx hrd hqd hxr hr0 hneg
  rcases (show mode = 0 ∨ mode = 1 ∨ mode = 2 ∨ mode = 3 ∨ mode = 4 ∨ mode = 5 ∨ mode = 6 ∨ mode = 7 ∨ mode = 8 ∨ mode = 9 by omega) with rfl | rfl | rfl | rfl | rfl | rfl | rfl | rfl | rfl | rfl <;>
   simp [up, cmp, e1, e2, e3, ← hY] <;> (repeat' split) <;> (try simp only [e1, e2, e3, ← hY]) <;> first | omega | (exfalso; simp_all; done)
end Go.Proofs.YtccicbpeajdjgaaGreatDoor.Rd
