/- What the listed variables give the walk. -/
import Derived.Test.YtccicbpeajdjgaaGreatDoorQTj
import Derived.Test.YtccicbpeajdjgaaGreatDoorRows
import Derived.WalkKit
import Derived.ProofKit
import Derived.OpenShut
import Derived.ChangeOld
import Derived.ChangeSame
import Derived.Below
import Derived.OpenVars
import Derived.Stop.LaidErr
import Derived.Test.YtccicbpeajdjgaaGreatDoorQUb
set_option linter.unusedVariables false
set_option linter.unusedSimpArgs false
namespace Go.Proofs.YtccicbpeajdjgaaGreatDoor.Row
open Go.ChangeShapes Go.WideShapes Go.ChangeAt Go.RowKit Vm Wd
theorem own : ownKnob Tryz.prog.godebug = none := by kernel_rfl
theorem sD : laidOutB Tryz.prog = true := by kernel_rfl
def tabD (f : Nat → Nat) (k : Nat) : DataW Unit := .agg [.lit (.int .u64 (((f k : Nat) : Int) % 18446744073709551616)), .lit (.int .i64 (((f k : Nat) : Int) / 18446744073709551616))]
theorem tab_a : Rows.laid_given_example_pub_arrowroot_pub_arrow_arrow_decimal128_scaleMultipliers = DataW.agg ((List.range 39).map (tabD fun k => 10 ^ k)) := by kernel_rfl
theorem tab_b : Rows.laid_given_example_pub_arrowroot_pub_arrow_arrow_decimal128_scaleMultipliersHalf = DataW.agg ((List.range 39).map (tabD fun k => 10 ^ k / 2)) := by kernel_rfl
/-- a whole number at the head of the list -/
theorem qA {W : World} {name : String} {z : Int} {rest : List (String × DataW Unit)} {g t : Nat} (hg : Tryz.prog.globalNamed name = some g) (hty : (Tryz.prog.globals[g]?).map (·.type) = some t) (ht : Tryz.prog.underlying t = some (.int .i64)) (h : laidMet Tryz.prog ((name, .lit (.int .i64 z)) :: rest) W) : W.cell? ⟨g, 0, none⟩ = some (.int .i64 z) := by
 obtain ⟨ps, ⟨g', t', cs, fuel, p, q, hg', ht', hvar, hd, _, _⟩, _⟩ := h;obtain rfl := Option.some.inj (hg.symm.trans hg');obtain rfl := Option.some.inj (hty.symm.trans ht');obtain ⟨n, hcs, hx, _⟩ := DataW.trod_int ht hd
 obtain rfl : cs = #[.int .i64 n] := by
  cases cs
  simp_all
 simp only [Prod.mk.injEq, DataW.lit.injEq, Lit.int.injEq, true_and] at hx;obtain ⟨rfl, -⟩ := hx
 simpa using World.var?_cell hg hvar 0
/-- a table of numbers at the head of the list -/
theorem pZ {W : World} {name : String} {f : Nat → Nat} {rest : List (String × DataW Unit)} {g t : Nat} (hg : Tryz.prog.globalNamed name = some g) (hty : (Tryz.prog.globals[g]?).map (·.type) = some t) (ht : Tryz.prog.underlying t = some (.array 39 44)) (h : laidMet Tryz.prog ((name, .agg ((List.range 39).map (tabD f))) :: rest) W) : Rd W g 0 78 (tabF f) := by
 obtain ⟨ps, ⟨g', t', cs, fuel, p, q, hg', ht', hvar, hd, _, _⟩, _⟩ := h;obtain rfl := Option.some.inj (hg.symm.trans hg');obtain rfl := Option.some.inj (hty.symm.trans ht');obtain ⟨xs, m, -, hx, -, hxl, hxs⟩ := DataW.trod_array ht hd;simp only [Prod.mk.injEq, DataW.agg.injEq] at hx;obtain ⟨hx, -⟩ := hx;have hc : Tryz.prog.cellsOf 44 = 2 := by kernel_rfl
 rw [hc] at hxs;intro i hi;have hk : i / 2 < 39 := by omega
 have h1 := hxs (i / 2) hk;have h2 : xs[i / 2]? = some xs[i / 2] := List.getElem?_eq_getElem (by omega);rw [h2] at h1
 have h3 : (xs[i / 2]).1 = tabD f (i / 2) := by
  have h4 : (xs.map (·.1))[i / 2]? = ((List.range 39).map (tabD f))[i / 2]? := by rw [hx]
  rw [List.getElem?_map, h2, List.getElem?_map, List.getElem?_range hk] at h4;exact Option.some.inj h4
 obtain ⟨y0, y1, n, hy, -, hy0, hy1⟩ := trod_struct2 u44 h1;obtain ⟨n0, hn0, rfl, -⟩ := DataW.trod_int u25 hy0;obtain ⟨n1, hn1, rfl, -⟩ := DataW.trod_int Tryz.underlying2 hy1;rw [hy] at h3;unfold tabD at h3;simp only [DataW.agg.injEq, List.cons.injEq, DataW.lit.injEq, Lit.int.injEq, true_and, and_true] at h3;obtain ⟨rfl, rfl⟩ := h3;have hc0 := World.var?_cell hg hvar (0 + i);rw [hc0, Nat.zero_add];have e0 : Tryz.prog.cellsOf 25 = 1 := by kernel_rfl
 have e1 : Tryz.prog.cellsOf 2 = 1 := by kernel_rfl
 simp only [e0, e1] at hn0 hn1;have g0 := congrArg (·[0]?) hn0;have g1 := congrArg (·[0]?) hn1
 simp [List.getElem?_take, List.getElem?_drop] at g0 g1
 unfold tabF
 by_cases h2 : i % 2 = 0
 ·rw [if_pos h2]
  rwa [show i / 2 * 2 = i by omega] at g0
 ·rw [if_neg h2]
  rwa [show i / 2 * 2 + 1 = i by omega] at g1
theorem laid_lt {W : World} {name : String} {d : DataW Unit} {rest : List (String × DataW Unit)} {g : Nat} (hg : Tryz.prog.globalNamed name = some g) (h : laidMet Tryz.prog ((name, d) :: rest) W) : g < W.heap.size := by
 obtain ⟨ps, ⟨g', t', cs, fuel, p, q, hg', ht', hvar, hd, _, _⟩, _⟩ := h;obtain rfl := Option.some.inj (hg.symm.trans hg');simp only [World.var?, hg, Option.bind_some] at hvar;rcases Nat.lt_or_ge g W.heap.size with h' | h'
 ·exact h'
 ·simp [Array.getElem?_eq_none h'] at hvar
theorem rC {W : World} (h : laidMet Tryz.prog Rows.fnRoundDecimal128Row.laid W) : Tab W := by
 have h3 : laidMet Tryz.prog _ W := laidMet.tail (laidMet.tail (laidMet.tail h));have h5 : laidMet Tryz.prog _ W := laidMet.tail (laidMet.tail h3);have h6 : laidMet Tryz.prog _ W := laidMet.tail h5;have h9 : laidMet Tryz.prog _ W := laidMet.tail (laidMet.tail (laidMet.tail h6));have h10 : laidMet Tryz.prog _ W := laidMet.tail h9;rw [tab_a] at h9;rw [tab_b] at h10;exact ⟨laid_lt (g := 13) (by kernel_rfl) h3, pZ (t := 120) (by kernel_rfl) (by kernel_rfl) u120 h9, pZ (t := 120) (by kernel_rfl) (by kernel_rfl) u120 h10, qA (t := 3) (by kernel_rfl) (by kernel_rfl) Tryz.underlying3 h5, qA (t := 3) (by kernel_rfl) (by kernel_rfl) Tryz.underlying3 h6⟩
end Go.Proofs.YtccicbpeajdjgaaGreatDoor.Row
namespace Go.Proofs.YtccicbpeajdjgaaGreatDoor.Row
open Go.ChangeShapes Go.WideShapes Go.ChangeAt Go.RowKit Vm Wd
/-- an argument that is a slice of integers -/
theorem open_sl {H : Type} {enc : TypeId × Value → H} {P : Program} {W : World} {base : Nat} {t e : TypeId} {k : IntKind} {a0 : Option Addr} {len cap : Nat} {d : DataW H} {p : List MemPlace} (ht : P.underlying t = some (.slice e)) (he : P.underlying e = some (.int k)) (hc : P.cellsOf e = 1)
 (hv : Value.okWide P W .any base t (.slice a0 len cap)) (h : DataW.Trod enc P W 0 (fun _ => true) true t (.slice a0 len cap) d p) :
 (a0 = none ∧ len = 0 ∧ cap = 0) ∨ ∃ (b o : Nat) (zs : List Int), a0 = some ⟨b, o, none⟩ ∧ b < W.heap.size ∧ len ≤ cap ∧ zs.length = cap ∧ (∀ i, i < cap → W.cell? ⟨b, o + i, none⟩ = some (.int k (zs.getD i 0))) ∧ ∀ n ∈ zs, (Lit.int k n).wf = true := by
 obtain ⟨fuel, hf⟩ := h;rcases open_ints ht he hc hf with ⟨hcs, _⟩ | ⟨x, l, c, zs, hcs, _, hl, hm, hz, _, hcell, hwz⟩
 ·simp [Value.cells] at hcs
  obtain ⟨rfl, rfl, rfl⟩ := hcs;exact .inl ⟨rfl, rfl, rfl⟩
 ·simp [Value.cells] at hcs
  obtain ⟨rfl, rfl, rfl⟩ := hcs;obtain ⟨b, o, sp⟩ := x;simp only [Value.okWide, ht, Cell.okWide, Cell.ok, World.has] at hv;obtain ⟨_, _, _, hsp, ⟨row, cells, hsh, _⟩⟩ := hv;have hsp' : sp = none := hsp;have hsh' : W.shape? b = some (row, cells) := hsh;subst hsp'
  have hb : b < W.heap.size := by
   rcases Nat.lt_or_ge b W.heap.size with h | h
   ·exact h
   ·simp [World.shape?, Array.getElem?_eq_none h] at hsh'
  have hz' : zs.length = cap := by simpa using hz
  exact .inr ⟨b, o, zs, rfl, hb, hl, hz', fun i hi => by rw [← add_plain]; exact hcell i (by omega), hwz⟩
theorem qS {W W' : World} (h : Same [] W W') : Below W.heap.size W W' := ⟨h.os, h.tape, h.out, h.size, fun k hk => h.block k hk (by simp)⟩
theorem oH {n : Int} (h : (Lit.int .i64 n).wf = true) : -9223372036854775808 ≤ n ∧ n ≤ 9223372036854775807 := by
 simp [Lit.wf, IntKind.min, IntKind.max, IntKind.signed, IntKind.bits] at h
 omega
theorem tZ {zs : List Int} (h : ∀ n ∈ zs, (Lit.int .u64 n).wf = true) (i : Nat) : 0 ≤ zs[i]?.getD 0 ∧ zs[i]?.getD 0 < 18446744073709551616 := by
 by_cases hi : i < zs.length
 ·have := h zs[i] (List.getElem_mem hi)
  simp [Lit.wf, IntKind.min, IntKind.max, IntKind.signed, IntKind.bits] at this
  simp [hi]; omega
 ·simp [List.getElem?_eq_none (by omega : zs.length ≤ i)]
theorem pM {H : Type} {enc : TypeId × Value → H} {P : Program} {w : World} {sp : Nat → Bool} : ∀ {ns : List String} {gs : List (DataW H)} {ps : List MemPlace}, DataW.TrodVars enc P w sp ns gs ps → gs.length = ns.length
 | [], [], _, _ => rfl
 | [], _ :: _, _, h => h.elim
 | _ :: _, [], _, h => h.elim
 | _ :: _, _ :: _, _, ⟨_, _, _, _, _, _, _, _, _, _, h, _⟩ => congrArg (· + 1) (pM h)
set_option maxRecDepth 20000 in
theorem contract (H : Type) (enc : TypeId × Value → H) (W : World) (base : Nat) (args : Array Value) (ds gs : List (DataW H)) (before : List MemPlace)
 (hval : ∀ (j : Nat) t v, Tryz.f3.params[j]? = some t → args[j]? = some v → Value.okWide Tryz.prog W .any base t v)
 (hW : DataW.Whole enc Tryz.prog Tryz.f3.params.toList Rows.fnRoundDecimal128Spec.vars false W args.toList ds gs before) (hL : laidMetH Tryz.prog Rows.fnRoundDecimal128Row.laid W) :
 Calls Tryz.prog 3 args W fun e W' => ∃ v, e = .returned v ∧ Rows.fnRoundDecimal128Spec.post enc Tryz.prog Tryz.f3 false true false false W args v W' := by
 have hW' := hW;obtain ⟨p, q, hA0, hV, rfl, hfz, hnd⟩ := hW;have hA : DataW.TrodAll enc Tryz.prog W 0 (fun _ => true) true Tryz.f3.params.toList args.toList ds p := hA0;rw [Tryz.params3] at hA hval;obtain ⟨v0, vs0, d0, ds0, p0, q0, hargs, rfl, rfl, h0, r0⟩ := trodAll_cons hA;obtain ⟨v1, vs1, d1, ds1, p1, q1, rfl, rfl, rfl, h1, r1⟩ := trodAll_cons r0;obtain ⟨v2, vs2, d2, ds2, p2, q2, rfl, rfl, rfl, h2, r2⟩ := trodAll_cons r1;obtain ⟨v3, vs3, d3, ds3, p3, q3, rfl, rfl, rfl, h3, r3⟩ := trodAll_cons r2;obtain ⟨v4, vs4, d4, ds4, p4, q4, rfl, rfl, rfl, h4, r4⟩ := trodAll_cons r3;obtain ⟨rfl, rfl, rfl⟩ := trodAll_nil r4
 obtain rfl : args = #[v0, v1, v2, v3, v4] := by cases args; simp_all
 obtain ⟨a0, len0, cap0, rfl⟩ := okWide_slice u22 (hval 0 22 v0 rfl rfl);have k0 := h0
 have lt0 : ∀ x ∈ p0, x.block < W.heap.size := by obtain ⟨m, hm⟩ := k0; exact DataW.trod_lt m _ _ _ hm
 have s0 := open_sl u22 u25 (by kernel_rfl) (hval 0 22 _ rfl rfl) h0;obtain ⟨n1, rfl, rfl, rfl, w1⟩ := open_int Tryz.underlying3 (hval 1 3 v1 rfl rfl) h1;obtain ⟨n2, rfl, rfl, rfl, w2⟩ := open_int Tryz.underlying3 (hval 2 3 v2 rfl rfl) h2;obtain ⟨n3, rfl, rfl, rfl, w3⟩ := open_int Tryz.underlying3 (hval 3 3 v3 rfl rfl) h3;obtain ⟨n4, rfl, rfl, rfl, w4⟩ := open_int Tryz.underlying3 (hval 4 3 v4 rfl rfl) h4;have hT := rC hL;clear hA0;have hgl := pM hV
 obtain ⟨g1, g2, g3, g4, g5, g6, g7, rfl⟩ : ∃ g1 g2 g3 g4 g5 g6 g7, gs = [g1, g2, g3, g4, g5, g6, g7] := by
  match gs, hgl with
  | [g1, g2, g3, g4, g5, g6, g7], _ => exact ⟨g1, g2, g3, g4, g5, g6, g7, rfl⟩
 obtain ⟨gv, ov, a, hA2⟩ : ∃ gv ov a, At2 W.heap.size W a0 len0 gv ov a := by
  rcases s0 with ⟨rfl, rfl, rfl⟩ | ⟨b, o, zd, rfl, hb, hlc, hzl, hcell, hwz⟩
  ·exact ⟨0, 0, fun _ => 0, nofun⟩
  ·refine ⟨b, o, fun i => (zd[i]?.getD 0).toNat, fun h2 => ⟨rfl, fun i hi => ?_, hb, fun i _ => ?_⟩⟩
   ·rw [hcell i (by omega)];have := tZ hwz i
    show _ = some (Value.int .u64 (((zd[i]?.getD 0).toNat : Nat) : Int))
    rw [List.getD_eq_getElem?_getD, Int.toNat_of_nonneg this.1]
   ·have := tZ hwz i
    show (zd[i]?.getD 0).toNat < _
    omega
 have walk := law a0 len0 cap0 gv ov W.heap.size rfl a hA2 hT n1 n2 n3 n4 (oH w1) (oH w2) (oH w3) (oH w4);refine Calls.mono walk fun e W' ⟨v, he, hv, hs⟩ => ?_;subst he;subst hv;have bel := qS hs
 exact ⟨_, rfl, _, _, _, [], _, _, hW', trodAll_mk1 (shut_bool u4 _),
  trodAll_cons_mk (Below.trod sD (by kernel_rfl) (of_decide_eq_true (by kernel_rfl)) k0 bel lt0) (trodAll_cons_mk (shut_int Tryz.underlying3 w1) (trodAll_cons_mk (shut_int Tryz.underlying3 w2) (trodAll_cons_mk (shut_int Tryz.underlying3 w3) (trodAll_cons_mk (shut_int Tryz.underlying3 w4) trodAll_mk0)))),
  Below.trodVars sD bel (by kernel_rfl) hV, bel.frame _, fun h => by cases h⟩
end Go.Proofs.YtccicbpeajdjgaaGreatDoor.Row
