/- From the row's reading of the arguments to the walk, and back. -/
import Derived.Test.YthmknddfkmklfaaGreatDoorFnZl
import Derived.Test.YthmknddfkmklfaaGreatDoorOpens
import Derived.Test.YthmknddfkmklfaaGreatDoorRows
import Derived.WalkKit
import Derived.ProofKit
import Derived.OpenShut
import Derived.ShutString
import Derived.ChangeOld
import Derived.Below
import Derived.OpenVars
import Derived.Stop.LaidErr
import Derived.Lib.LaidTab
namespace Go.Proofs.YthmknddfkmklfaaGreatDoor.Row
open Go.ChangeShapes Go.WideShapes Go.ChangeAt Go.RowKit Vm

theorem own : ownKnob Tryz.prog.godebug = none := by kernel_rfl
theorem laidOut : laidOutB Tryz.prog = true := by kernel_rfl
theorem gShort : Tryz.prog.globalNamed "io.ErrShortBuffer" = some 5 := by kernel_rfl
theorem gEOF : Tryz.prog.globalNamed "io.EOF" = some 2 := by kernel_rfl
theorem gUex : Tryz.prog.globalNamed "io.ErrUnexpectedEOF" = some 1 := by kernel_rfl
theorem tErr (g : Nat) (h : g = 5 ∨ g = 2 ∨ g = 1) : (Tryz.prog.globals[g]?).map (·.type) = some 54 := by
  rcases h with rfl | rfl | rfl <;> kernel_rfl
theorem cES : Tryz.prog.cellsOf 129 = 1 := by kernel_rfl
theorem cStr : Tryz.prog.cellsOf 9 = 1 := by kernel_rfl
theorem star : "*" ++ "errors.errorString" = "*errors.errorString" := by decide
theorem rowES (u : TypeId) (h : Tryz.prog.typeName? 3 u = some "*errors.errorString") : u = 127 :=
  typeName_ptr_named (nm := "errors.errorString") (by rw [star]; kernel_rfl) (by kernel_rfl) (by decide) u (by rw [star]; exact h)

/-- what the listed variables give the walk -/
theorem laid_facts {W : World} (h : laidMet Tryz.prog Rows.fnDictionaryInt64ReadRow.laid W) : ∃ aE aU aP, Glob W aE aU aP := by
  have h1 : laidMet Tryz.prog _ W := laidMet.tail h
  have h2 : laidMet Tryz.prog _ W := laidMet.tail h1
  obtain ⟨aS, sS, vS, cS, _, _⟩ := laid_sentinel h gShort (tErr _ (by simp)) Tryz.underlying54 rowES Tryz.underlying127 Tryz.underlying129 rfl rfl Tryz.underlying9 cES cStr
  obtain ⟨aE, sE, vE, cE, tE, _⟩ := laid_sentinel h1 gEOF (tErr _ (by simp)) Tryz.underlying54 rowES Tryz.underlying127 Tryz.underlying129 rfl rfl Tryz.underlying9 cES cStr
  obtain ⟨aU, sU, vU, cU, tU, _⟩ := laid_sentinel h2 gUex (tErr _ (by simp)) Tryz.underlying54 rowES Tryz.underlying127 Tryz.underlying129 rfl rfl Tryz.underlying9 cES cStr
  have eS : W.cell? ⟨5, 0, none⟩ = some (.iface 127 (.pointer (some aS))) := by simpa using World.var?_cell gShort vS 0
  have eE : W.cell? ⟨2, 0, none⟩ = some (.iface 127 (.pointer (some aE))) := by simpa using World.var?_cell gEOF vE 0
  have eU : W.cell? ⟨1, 0, none⟩ = some (.iface 127 (.pointer (some aU))) := by simpa using World.var?_cell gUex vU 0
  have hs : 6 ≤ W.heap.size := World.block_lt_of_cell? W _ eS
  refine ⟨aE, aU, aE, ⟨eE, eU, ?_, hs⟩⟩
  rintro rfl
  rw [cE] at cU
  simp only [Option.some.injEq, Value.string.injEq] at cU
  subst cU
  rw [tE] at tU
  exact absurd tU (by decide)

/-- an argument that is a slice of integers -/
theorem open_sl {H : Type} {enc : TypeId × Value → H} {P : Program} {W : World} {base : Nat} {t e : TypeId} {k : IntKind} {a0 : Option Addr} {len cap : Nat} {d : DataW H} {p : List MemPlace} (ht : P.underlying t = some (.slice e)) (he : P.underlying e = some (.int k)) (hc : P.cellsOf e = 1)
    (hv : Value.okWide P W .any base t (.slice a0 len cap)) (h : DataW.Trod enc P W 0 (fun _ => true) true t (.slice a0 len cap) d p) :
    (a0 = none ∧ len = 0 ∧ cap = 0) ∨ ∃ (b o : Nat) (zs : List Int), a0 = some ⟨b, o, none⟩ ∧ b < W.heap.size ∧ len ≤ cap ∧ zs.length = cap ∧ (∀ i, i < cap → W.cell? ⟨b, o + i, none⟩ = some (.int k (zs.getD i 0))) ∧ ∀ n ∈ zs, (Lit.int k n).wf = true := by
  obtain ⟨fuel, hf⟩ := h
  rcases open_ints ht he hc hf with ⟨hcs, _⟩ | ⟨x, l, c, zs, hcs, _, hl, hm, hz, _, hcell, hwz⟩
  · simp [Value.cells] at hcs
    obtain ⟨rfl, rfl, rfl⟩ := hcs
    exact .inl ⟨rfl, rfl, rfl⟩
  · simp [Value.cells] at hcs
    obtain ⟨rfl, rfl, rfl⟩ := hcs
    obtain ⟨b, o, sp⟩ := x
    simp only [Value.okWide, ht, Cell.okWide, Cell.ok, World.has] at hv
    obtain ⟨_, _, _, hsp, ⟨row, cells, hsh, _⟩⟩ := hv
    have hsp' : sp = none := hsp
    have hsh' : W.shape? b = some (row, cells) := hsh
    subst hsp'
    have hb : b < W.heap.size := by
      rcases Nat.lt_or_ge b W.heap.size with h | h
      · exact h
      · simp [World.shape?, Array.getElem?_eq_none h] at hsh'
    have hz' : zs.length = cap := by simpa using hz
    exact .inr ⟨b, o, zs, rfl, hb, hl, hz', fun i hi => by rw [← add_plain]; exact hcell i (by omega), hwz⟩

theorem same_below {W W' : World} (h : Same [] W W') : Below W.heap.size W W' := ⟨h.os, h.tape, h.out, h.size, fun k hk => h.block k hk (by simp)⟩

theorem lit_range {zs : List Int} (h : ∀ n ∈ zs, (Lit.int .i64 n).wf = true) (i : Nat) : -9223372036854775808 ≤ zs.getD i 0 ∧ zs.getD i 0 ≤ 9223372036854775807 := by
  by_cases hi : i < zs.length
  · have := h zs[i] (List.getElem_mem hi)
    simp [Lit.wf, IntKind.min, IntKind.max, IntKind.signed, IntKind.bits] at this
    simp [hi]; omega
  · simp [List.getElem?_eq_none (by omega : zs.length ≤ i)]

set_option maxRecDepth 20000 in
theorem contract (H : Type) (enc : TypeId × Value → H) (W : World) (base : Nat) (args : Array Value) (ds gs : List (DataW H)) (before : List MemPlace)
    (hval : ∀ (j : Nat) t v, Tryz.f3.params[j]? = some t → args[j]? = some v → Value.okWide Tryz.prog W .any base t v)
    (hW : DataW.Whole enc Tryz.prog Tryz.f3.params.toList Rows.fnDictionaryInt64ReadSpec.vars false W args.toList ds gs before) (hL : laidMetH Tryz.prog Rows.fnDictionaryInt64ReadRow.laid W) :
    Calls Tryz.prog 3 args W fun e W' => ∃ v, e = .returned v ∧ Rows.fnDictionaryInt64ReadSpec.post enc Tryz.prog Tryz.f3 false true false false W args v W' := by
  have hW' := hW
  obtain ⟨p, q, hA0, hV, rfl, hfz, hnd⟩ := hW
  have hA : DataW.TrodAll enc Tryz.prog W 0 (fun _ => true) true Tryz.f3.params.toList args.toList ds p := hA0
  rw [Tryz.params3] at hA hval
  obtain ⟨v0, vs0, d0, ds0, p0, q0, hargs, rfl, rfl, h0, r0⟩ := trodAll_cons hA
  obtain ⟨v1, vs1, d1, ds1, p1, q1, rfl, rfl, rfl, h1, r1⟩ := trodAll_cons r0
  obtain ⟨v2, vs2, d2, ds2, p2, q2, rfl, rfl, rfl, h2, r2⟩ := trodAll_cons r1
  obtain ⟨v3, vs3, d3, ds3, p3, q3, rfl, rfl, rfl, h3, r3⟩ := trodAll_cons r2
  obtain ⟨rfl, rfl, rfl⟩ := trodAll_nil r3
  obtain rfl : args = #[v0, v1, v2, v3] := by cases args; simp_all
  obtain ⟨a0, len0, cap0, rfl⟩ := okWide_slice Tryz.underlying22 (hval 0 22 v0 rfl rfl)
  obtain ⟨a2, len2, cap2, rfl⟩ := okWide_slice Tryz.underlying23 (hval 2 23 v2 rfl rfl)
  obtain ⟨a3, len3, cap3, rfl⟩ := okWide_slice Tryz.underlying24 (hval 3 24 v3 rfl rfl)
  have k0 := h0
  have k2 := h2
  have k3 := h3
  have lt0 : ∀ x ∈ p0, x.block < W.heap.size := by obtain ⟨m, hm⟩ := k0; exact DataW.trod_lt m _ _ _ hm
  have lt2 : ∀ x ∈ p2, x.block < W.heap.size := by obtain ⟨m, hm⟩ := k2; exact DataW.trod_lt m _ _ _ hm
  have lt3 : ∀ x ∈ p3, x.block < W.heap.size := by obtain ⟨m, hm⟩ := k3; exact DataW.trod_lt m _ _ _ hm
  obtain ⟨vs, hd, hN, hN63, hok⟩ := open_vs (hval 0 22 _ rfl rfl) h0
  obtain ⟨rs, hrs, hn, hn63⟩ := open_rs (hval 2 23 _ rfl rfl) h2
  have s3 := open_sl Tryz.underlying24 Tryz.underlying3 (by kernel_rfl) (hval 3 24 _ rfl rfl) h3
  obtain ⟨n1, rfl, rfl, rfl, w1⟩ := open_int Tryz.underlying3 (hval 1 3 v1 rfl rfl) h1
  obtain ⟨aE, aU, aP, hg⟩ := laid_facts hL
  clear hA0
  obtain rfl : gs = [] := by
    cases gs with
    | nil => rfl
    | cons d l => exact (show False from hV).elim
  -- the batches
  obtain ⟨zs, hz, hm0, hm63, hzr⟩ : ∃ zs : List Int, Lu W W.heap.size (.slice a3 len3 cap3) (i64s zs) ∧ len3 = (i64s zs).length ∧ len3 ≤ 9223372036854775807 ∧ ∀ i, -9223372036854775808 ≤ zs.getD i 0 ∧ zs.getD i 0 ≤ 9223372036854775807 := by
    obtain ⟨fu, hfu⟩ := k3
    have hsz : len3 ≤ 9223372036854775807 := by
      obtain ⟨_, _, _, he, hl⟩ := slice_cell Tryz.underlying24 hfu
      cases he
      exact hl
    rcases s3 with ⟨rfl, rfl, rfl⟩ | ⟨b, o, zs, rfl, hb, hlc, hzl, hcell, hwz⟩
    · exact ⟨[], .inl ⟨rfl, rfl⟩, rfl, by decide, fun i => by simp⟩
    · have hlen : (i64s (zs.take len3)).length = len3 := by rw [i64s_length, List.length_take]; omega
      refine ⟨zs.take len3, .inr ⟨b, o, cap3, by rw [hlen], hb, hb, fun i hi => ?_⟩, hlen.symm, hsz, lit_range fun n hn => hwz n (List.mem_of_mem_take hn)⟩
      rw [hlen] at hi
      rw [hcell i (by omega)]
      show _ = some ((i64s (zs.take len3)).getD i undef)
      rw [i64s_getD (by rw [List.length_take]; omega)]
      simp [List.getElem?_take, hi]
  have walk := law hg vs rs zs n1 a0 a2 a3 len0 cap0 len2 cap2 len3 cap3 W.heap.size rfl hd hN hN63 hok hrs hn hn63 hz hm0 hm63 hzr
  refine Calls.mono walk fun e W' ⟨v, he, hv, hs⟩ => ?_
  subst he
  subst hv
  have bel := same_below hs
  exact ⟨_, rfl, _, _, _, [], _, _, hW', trodAll_mk1 (shut_bool Tryz.underlying4 _),
    trodAll_cons_mk (Below.trod laidOut (by kernel_rfl) (of_decide_eq_true (by kernel_rfl)) k0 bel lt0) (trodAll_cons_mk (shut_int Tryz.underlying3 w1) (trodAll_cons_mk (Below.trod laidOut (by kernel_rfl) (of_decide_eq_true (by kernel_rfl)) k2 bel lt2) (trodAll_cons_mk (Below.trod laidOut (by kernel_rfl) (of_decide_eq_true (by kernel_rfl)) k3 bel lt3) trodAll_mk0))),
    Below.trodVars laidOut bel (by kernel_rfl) hV, bel.frame _, fun h => by cases h⟩

end Go.Proofs.YthmknddfkmklfaaGreatDoor.Row
