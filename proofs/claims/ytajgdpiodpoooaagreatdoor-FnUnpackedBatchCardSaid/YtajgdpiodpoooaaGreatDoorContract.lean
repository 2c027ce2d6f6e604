/- From the row's reading of the arguments to the walk, and back. -/
import Derived.Test.YtajgdpiodpoooaaGreatDoorLaw
import Derived.Test.YtajgdpiodpoooaaGreatDoorRows
import Derived.WalkKit
import Derived.ProofKit
import Derived.OpenShut
import Derived.ShutString
import Derived.ChangeOld
import Derived.Below
import Derived.OpenVars
import Derived.Stop.LaidErr
import Derived.Lib.LaidTab
namespace Go.Proofs.YtajgdpiodpoooaaGreatDoor.Row
open Go.ChangeShapes Go.WideShapes Go.ChangeAt Go.RowKit Vm

theorem own : ownKnob Tryz.prog.godebug = none := by kernel_rfl
theorem laidOut : laidOutB Tryz.prog = true := by kernel_rfl
theorem gShort : Tryz.prog.globalNamed "io.ErrShortBuffer" = some 6 := by kernel_rfl
theorem gEOF : Tryz.prog.globalNamed "io.EOF" = some 1 := by kernel_rfl
theorem gUex : Tryz.prog.globalNamed "io.ErrUnexpectedEOF" = some 0 := by kernel_rfl
theorem gNop : Tryz.prog.globalNamed "io.ErrNoProgress" = some 3 := by kernel_rfl
theorem gMask : Tryz.prog.globalNamed "given.example/pub-arrowroot/pub/arrow/arrow/bitutil.BitMask" = some 4 := by kernel_rfl
theorem gFlip : Tryz.prog.globalNamed "given.example/pub-arrowroot/pub/arrow/arrow/bitutil.FlippedBitMask" = some 5 := by kernel_rfl
theorem tErr (g : Nat) (h : g = 6 ∨ g = 1 ∨ g = 0 ∨ g = 3) : (Tryz.prog.globals[g]?).map (·.type) = some 41 := by
  rcases h with rfl | rfl | rfl | rfl <;> kernel_rfl
theorem tMask : (Tryz.prog.globals[4]?).map (·.type) = some 49 := by kernel_rfl
theorem tFlip : (Tryz.prog.globals[5]?).map (·.type) = some 49 := by kernel_rfl
theorem cES : Tryz.prog.cellsOf 82 = 1 := by kernel_rfl
theorem cStr : Tryz.prog.cellsOf 9 = 1 := by kernel_rfl
theorem cU8 : Tryz.prog.cellsOf 5 = 1 := by kernel_rfl
theorem cArr : Tryz.prog.cellsOf 49 = 8 := by kernel_rfl
theorem star : "*" ++ "errors.errorString" = "*errors.errorString" := by decide
theorem rowES (u : TypeId) (h : Tryz.prog.typeName? 3 u = some "*errors.errorString") : u = 80 :=
  typeName_ptr_named (nm := "errors.errorString") (by rw [star]; kernel_rfl) (by kernel_rfl) (by decide) u (by rw [star]; exact h)

/-- what the listed variables give the walk -/
theorem laid_facts {W : World} (h : laidMet Tryz.prog Rows.fnUnpackedBatchRow.laid W) : ∃ aE aU aP, Glob W aE aU aP ∧ Tab W := by
  have h1 : laidMet Tryz.prog _ W := laidMet.tail h
  have h2 : laidMet Tryz.prog _ W := laidMet.tail h1
  have h3 : laidMet Tryz.prog _ W := laidMet.tail h2
  have h4 : laidMet Tryz.prog _ W := laidMet.tail h3
  have h5 : laidMet Tryz.prog _ W := laidMet.tail h4
  obtain ⟨aS, sS, vS, cS, _, _⟩ := laid_sentinel h gShort (tErr _ (by simp)) Tryz.underlying41 rowES Tryz.underlying80 Tryz.underlying82 rfl rfl Tryz.underlying9 cES cStr
  obtain ⟨aE, sE, vE, cE, tE, _⟩ := laid_sentinel h1 gEOF (tErr _ (by simp)) Tryz.underlying41 rowES Tryz.underlying80 Tryz.underlying82 rfl rfl Tryz.underlying9 cES cStr
  obtain ⟨aU, sU, vU, cU, tU, _⟩ := laid_sentinel h2 gUex (tErr _ (by simp)) Tryz.underlying41 rowES Tryz.underlying80 Tryz.underlying82 rfl rfl Tryz.underlying9 cES cStr
  obtain ⟨aP, sP, vP, cP, _, _⟩ := laid_sentinel h3 gNop (tErr _ (by simp)) Tryz.underlying41 rowES Tryz.underlying80 Tryz.underlying82 rfl rfl Tryz.underlying9 cES cStr
  have hM : Lib.TabIs Tryz.prog W _ .u8 [1, 2, 4, 8, 16, 32, 64, 128] := Lib.tabIs_of_head gMask tMask Tryz.underlying49 Tryz.underlying5 cU8 cArr h4
  have hF : Lib.TabIs Tryz.prog W _ .u8 [254, 253, 251, 247, 239, 223, 191, 127] := Lib.tabIs_of_head gFlip tFlip Tryz.underlying49 Tryz.underlying5 cU8 cArr h5
  have eS : W.cell? ⟨6, 0, none⟩ = some (.iface 80 (.pointer (some aS))) := by simpa using World.var?_cell gShort vS 0
  have eE : W.cell? ⟨1, 0, none⟩ = some (.iface 80 (.pointer (some aE))) := by simpa using World.var?_cell gEOF vE 0
  have eU : W.cell? ⟨0, 0, none⟩ = some (.iface 80 (.pointer (some aU))) := by simpa using World.var?_cell gUex vU 0
  have eP : W.cell? ⟨3, 0, none⟩ = some (.iface 80 (.pointer (some aP))) := by simpa using World.var?_cell gNop vP 0
  have hs : 7 ≤ W.heap.size := World.block_lt_of_cell? W _ eS
  refine ⟨aE, aU, aP, ⟨eE, eU, eP, ?_, hs⟩, ⟨fun i hi => ?_, fun i hi => ?_, hs⟩⟩
  · rintro rfl
    rw [cE] at cU
    simp only [Option.some.injEq, Value.string.injEq] at cU
    subst cU
    rw [tE] at tU
    exact absurd tU (by decide)
  · have := hM.cell gMask i hi
    rw [Nat.zero_add, this]
    rcases (show i = 0 ∨ i = 1 ∨ i = 2 ∨ i = 3 ∨ i = 4 ∨ i = 5 ∨ i = 6 ∨ i = 7 by omega) with rfl | rfl | rfl | rfl | rfl | rfl | rfl | rfl <;> rfl
  · have := hF.cell gFlip i hi
    rw [Nat.zero_add, this]
    rcases (show i = 0 ∨ i = 1 ∨ i = 2 ∨ i = 3 ∨ i = 4 ∨ i = 5 ∨ i = 6 ∨ i = 7 by omega) with rfl | rfl | rfl | rfl | rfl | rfl | rfl | rfl <;> rfl

/-- an argument that is a slice of integers -/
theorem open_sl {H : Type} {enc : TypeId × Value → H} {P : Program} {W : World} {base : Nat} {t e : TypeId} {k : IntKind} {a0 : Option Addr} {len cap : Nat} {d : DataW H} {p : List MemPlace} (ht : P.underlying t = some (.slice e)) (he : P.underlying e = some (.int k)) (hc : P.cellsOf e = 1)
    (hv : Value.okWide P W .any base t (.slice a0 len cap)) (h : DataW.Trod enc P W 0 (fun _ => true) true t (.slice a0 len cap) d p) :
    (a0 = none ∧ len = 0 ∧ cap = 0) ∨ ∃ (b o : Nat) (zs : List Int), a0 = some ⟨b, o, none⟩ ∧ b < W.heap.size ∧ len ≤ cap ∧ zs.length = cap ∧ (∀ i, i < cap → W.cell? ⟨b, o + i, none⟩ = some (.int k (zs.getD i 0))) ∧ ∀ n ∈ zs, (Lit.int k n).wf = true := by
  obtain ⟨fuel, hf⟩ := h
  rcases open_ints ht he hc hf with ⟨hcs, _⟩ | ⟨x, l, c, zs, hcs, _, hl, hm, hz, _, hcell, hwz⟩
  · simp [Value.cells] at hcs
    obtain ⟨rfl, rfl, rfl⟩ := hcs
    exact .inl ⟨rfl, rfl, rfl⟩
  · simp [Value.cells] at hcs
    obtain ⟨rfl, rfl, rfl⟩ := hcs
    obtain ⟨b, o, sp⟩ := x
    simp only [Value.okWide, ht, Cell.okWide, Cell.ok, World.has] at hv
    obtain ⟨_, _, _, hsp, ⟨row, cells, hsh, _⟩⟩ := hv
    have hsp' : sp = none := hsp
    have hsh' : W.shape? b = some (row, cells) := hsh
    subst hsp'
    have hb : b < W.heap.size := by
      rcases Nat.lt_or_ge b W.heap.size with h | h
      · exact h
      · simp [World.shape?, Array.getElem?_eq_none h] at hsh'
    have hz' : zs.length = cap := by simpa using hz
    exact .inr ⟨b, o, zs, rfl, hb, hl, hz', fun i hi => by rw [← add_plain]; exact hcell i (by omega), hwz⟩

theorem same_below {W W' : World} (h : Same [] W W') : Below W.heap.size W W' := ⟨h.os, h.tape, h.out, h.size, fun k hk => h.block k hk (by simp)⟩

theorem lit_range {zs : List Int} (h : ∀ n ∈ zs, (Lit.int .i64 n).wf = true) (i : Nat) : -9223372036854775808 ≤ zs.getD i 0 ∧ zs.getD i 0 ≤ 9223372036854775807 := by
  by_cases hi : i < zs.length
  · have := h zs[i] (List.getElem_mem hi)
    simp [Lit.wf, IntKind.min, IntKind.max, IntKind.signed, IntKind.bits] at this
    simp [hi]; omega
  · simp [List.getElem?_eq_none (by omega : zs.length ≤ i)]

set_option maxRecDepth 20000 in
theorem contract (H : Type) (enc : TypeId × Value → H) (W : World) (base : Nat) (args : Array Value) (ds gs : List (DataW H)) (before : List MemPlace)
    (hval : ∀ (j : Nat) t v, Tryz.f3.params[j]? = some t → args[j]? = some v → Value.okWide Tryz.prog W .any base t v)
    (hW : DataW.Whole enc Tryz.prog Tryz.f3.params.toList Rows.fnUnpackedBatchSpec.vars false W args.toList ds gs before) (hL : laidMetH Tryz.prog Rows.fnUnpackedBatchRow.laid W) :
    Calls Tryz.prog 3 args W fun e W' => ∃ v, e = .returned v ∧ Rows.fnUnpackedBatchSpec.post enc Tryz.prog Tryz.f3 false true false false W args v W' := by
  have hW' := hW
  obtain ⟨p, q, hA0, hV, rfl, hfz, hnd⟩ := hW
  have hA : DataW.TrodAll enc Tryz.prog W 0 (fun _ => true) true Tryz.f3.params.toList args.toList ds p := hA0
  rw [Tryz.params3] at hA hval
  obtain ⟨v0, vs0, d0, ds0, p0, q0, hargs, rfl, rfl, h0, r0⟩ := trodAll_cons hA
  obtain ⟨v1, vs1, d1, ds1, p1, q1, rfl, rfl, rfl, h1, r1⟩ := trodAll_cons r0
  obtain ⟨v2, vs2, d2, ds2, p2, q2, rfl, rfl, rfl, h2, r2⟩ := trodAll_cons r1
  obtain ⟨v3, vs3, d3, ds3, p3, q3, rfl, rfl, rfl, h3, r3⟩ := trodAll_cons r2
  obtain ⟨rfl, rfl, rfl⟩ := trodAll_nil r3
  obtain rfl : args = #[v0, v1, v2, v3] := by cases args; simp_all
  obtain ⟨_, _, _, _, g0, _, _, _, _, _, g1, _, rfl, _⟩ := trodVars_two hV
  obtain ⟨a0, len0, cap0, rfl⟩ := okWide_slice Tryz.underlying22 (hval 0 22 v0 rfl rfl)
  obtain ⟨a3, len3, cap3, rfl⟩ := okWide_slice Tryz.underlying23 (hval 3 23 v3 rfl rfl)
  have k0 := h0
  have k3 := h3
  have lt0 : ∀ x ∈ p0, x.block < W.heap.size := by obtain ⟨m, hm⟩ := k0; exact DataW.trod_lt m _ _ _ hm
  have lt3 : ∀ x ∈ p3, x.block < W.heap.size := by obtain ⟨m, hm⟩ := k3; exact DataW.trod_lt m _ _ _ hm
  have s0 := open_sl Tryz.underlying22 Tryz.underlying5 cU8 (hval 0 22 _ rfl rfl) h0
  have s3 := open_sl Tryz.underlying23 Tryz.underlying3 (by kernel_rfl) (hval 3 23 _ rfl rfl) h3
  obtain ⟨n1, rfl, rfl, rfl, w1⟩ := open_int Tryz.underlying3 (hval 1 3 v1 rfl rfl) h1
  obtain ⟨n2, rfl, rfl, rfl, w2⟩ := open_int Tryz.underlying3 (hval 2 3 v2 rfl rfl) h2
  obtain ⟨aE, aU, aP, hg, tb⟩ := laid_facts hL
  have hgs := hg.size
  clear hA0
  -- the sizes
  obtain ⟨zs, hz, hm0, hzr⟩ : ∃ zs : List Int, Lu W W.heap.size (.slice a3 len3 cap3) (i64s zs) ∧ len3 = (i64s zs).length ∧ ∀ i, -9223372036854775808 ≤ zs.getD i 0 ∧ zs.getD i 0 ≤ 9223372036854775807 := by
    rcases s3 with ⟨rfl, rfl, rfl⟩ | ⟨b, o, zs, rfl, hb, hlc, hzl, hcell, hwz⟩
    · exact ⟨[], .inl ⟨rfl, rfl⟩, rfl, fun i => by simp⟩
    · have hlen : (i64s (zs.take len3)).length = len3 := by rw [i64s_length, List.length_take]; omega
      refine ⟨zs.take len3, .inr ⟨b, o, cap3, by rw [hlen], hb, hb, fun i hi => ?_⟩, hlen.symm, lit_range fun n hn => hwz n (List.mem_of_mem_take hn)⟩
      rw [hlen] at hi
      rw [hcell i (by omega)]
      show _ = some ((i64s (zs.take len3)).getD i undef)
      rw [i64s_getD (by rw [List.length_take]; omega)]
      simp [List.getElem?_take, hi]
  -- the data
  obtain ⟨db, dO, d, e0, hd⟩ : ∃ (db dO : Nat) (d : Nat → Nat), a0 = ad db dO ∧ (len0 ≤ 4096 → Src2 W 0 db dO len0 cap0 d) := by
    rcases s0 with ⟨rfl, rfl, rfl⟩ | ⟨b, o, zd, rfl, hb, hlc, hzl, hcell, hwz⟩
    · exact ⟨0, 0, fun _ => 0, rfl, fun _ => ⟨fun i hi => absurd hi (Nat.not_lt_zero i), fun i hi => absurd hi (Nat.not_lt_zero i), Nat.le_refl _, by decide, by omega, fun h => absurd h (Nat.lt_irrefl 0)⟩⟩
    · have hr : ∀ i : Nat, (0 : Int) ≤ zd[i]?.getD 0 ∧ zd[i]?.getD 0 ≤ 255 := fun i => range_u8 hwz i
      refine ⟨b, o + 1, fun i => (zd.getD i 0).toNat, rfl, fun h => ⟨fun i hi => ?_, fun i hi => ?_, hlc, by omega, hb, fun _ => Nat.succ_pos _⟩⟩
      · rw [Nat.add_sub_cancel, hcell i (by omega)]
        have := hr i
        show _ = some (Value.int .u8 (((zd.getD i 0).toNat : Nat) : Int))
        rw [List.getD_eq_getElem?_getD, Int.toNat_of_nonneg this.1]
      · have := hr i
        show (zd.getD i 0).toNat < 256
        rw [List.getD_eq_getElem?_getD]
        omega
  subst e0
  have walk := law hg tb db dO len0 cap0 len3 cap3 W.heap.size n1 n2 zs a3 d hd hz (Nat.le_refl _) hm0 hzr
  refine Calls.mono walk fun e W' ⟨v, he, hv, hs⟩ => ?_
  subst he
  subst hv
  have bel := same_below hs
  exact ⟨_, rfl, _, _, _, [], _, _, hW', trodAll_mk1 (shut_bool Tryz.underlying4 _),
    trodAll_cons_mk (Below.trod laidOut (by kernel_rfl) (of_decide_eq_true (by kernel_rfl)) k0 bel lt0) (trodAll_cons_mk (shut_int Tryz.underlying3 w1) (trodAll_cons_mk (shut_int Tryz.underlying3 w2) (trodAll_cons_mk (Below.trod laidOut (by kernel_rfl) (of_decide_eq_true (by kernel_rfl)) k3 bel lt3) trodAll_mk0))),
    Below.trodVars laidOut bel (by kernel_rfl) hV, bel.frame _, fun h => by cases h⟩

end Go.Proofs.YtajgdpiodpoooaaGreatDoor.Row
