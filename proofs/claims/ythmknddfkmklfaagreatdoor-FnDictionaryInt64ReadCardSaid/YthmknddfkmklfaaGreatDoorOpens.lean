/- Arguments that are slices of structs, opened: lists of values, lists of runs. -/
import Derived.Test.YthmknddfkmklfaaGreatDoorFnZk
import Derived.WalkKit
import Derived.ProofKit
import Derived.OpenShut
import Derived.Deep.Slices
namespace Go.Proofs.YthmknddfkmklfaaGreatDoor.Row
open Go.ChangeShapes Go.WideShapes Go.ChangeAt Go.RowKit Vm
set_option maxRecDepth 20000

theorem cV : Tryz.prog.cellsOf 35 = 4 := by kernel_rfl
theorem cR : Tryz.prog.cellsOf 46 = 3 := by kernel_rfl
theorem cU64 : Tryz.prog.cellsOf 33 = 1 := by kernel_rfl

/-- a slice that came in as an argument lies in a block -/
theorem slot {W : World} {base : Nat} {t e : TypeId} {a : Addr} {len cap : Nat} (ht : Tryz.prog.underlying t = some (.slice e)) (hv : Value.okWide Tryz.prog W .any base t (.slice (some a) len cap)) : ∃ b o, a = ⟨b, o, none⟩ ∧ b < W.heap.size := by
  obtain ⟨b, o, sp⟩ := a
  simp only [Value.okWide, ht, Cell.okWide, Cell.ok, World.has] at hv
  obtain ⟨_, _, _, hsp, ⟨row, cells, hsh, _⟩⟩ := hv
  have hsp' : sp = none := hsp
  have hsh' : W.shape? b = some (row, cells) := hsh
  subst hsp'
  refine ⟨b, o, rfl, ?_⟩
  rcases Nat.lt_or_ge b W.heap.size with h | h
  · exact h
  · simp [World.shape?, Array.getElem?_eq_none h] at hsh'

theorem wf64 {n : Int} (h : (Lit.int .u64 n).wf = true) : 0 ≤ n ∧ n ≤ 18446744073709551615 := by
  simp [Lit.wf, IntKind.min, IntKind.max, IntKind.signed, IntKind.bits] at h
  omega
theorem wfi64 {n : Int} (h : (Lit.int .i64 n).wf = true) : -9223372036854775808 ≤ n ∧ n ≤ 9223372036854775807 := by
  simp [Lit.wf, IntKind.min, IntKind.max, IntKind.signed, IntKind.bits] at h
  omega

section
variable {H : Type} {enc : TypeId × Value → H} {W : World} {base : Nat}

/-- the cells of a slice, as they lie: none, or an address -/
theorem slice_cell {t e : TypeId} {fuel : Nat} {v : Value} {x : DataW H × List MemPlace} (ht : Tryz.prog.underlying t = some (.slice e)) (h : DataW.trod enc Tryz.prog W 0 (fun _ => true) true fuel t [v] = some x) : ∃ A l c, v = .slice A l c ∧ l ≤ 9223372036854775807 := by
  rcases DataW.trod_slice ht h with ⟨hcs, _⟩ | ⟨a, l, c, _, _, _, _, hcs, _, _, hl, hm, _⟩
  · simp at hcs
    exact ⟨_, _, _, hcs, by decide⟩
  · simp at hcs
    exact ⟨_, _, _, hcs, by simp only [maxLen] at hm; omega⟩

theorem one_value {fuel o b : Nat} {cs : List Value} {x : DataW H × List MemPlace} (hlen : cs.length = 4) (hc : ∀ i, i < 4 → W.cell? ⟨b, o + i, none⟩ = cs[i]?) (h : DataW.trod enc Tryz.prog W 0 (fun _ => true) true fuel 35 cs = some x) : ∃ x : VS, x.OK ∧ Rd W b o 4 (vC x) := by
  obtain ⟨xs, k, _, _, _, hxl, hf⟩ := DataW.trod_struct Tryz.underlying35 h
  have hxl4 : xs.length = 4 := hxl
  match cs, hlen with
  | [v0, v1, v2, v3], _ =>
    have g0 : DataW.trod enc Tryz.prog W 0 (fun _ => true) true k 4 (List.take (Tryz.prog.cellsOf 4) (List.drop 0 [v0, v1, v2, v3])) = some xs[0] := (hf 0 _ rfl).trans (List.getElem?_eq_getElem (by omega))
    have g1 : DataW.trod enc Tryz.prog W 0 (fun _ => true) true k 33 (List.take (Tryz.prog.cellsOf 33) (List.drop 1 [v0, v1, v2, v3])) = some xs[1] := (hf 1 _ rfl).trans (List.getElem?_eq_getElem (by omega))
    have g2 : DataW.trod enc Tryz.prog W 0 (fun _ => true) true k 9 (List.take (Tryz.prog.cellsOf 9) (List.drop 2 [v0, v1, v2, v3])) = some xs[2] := (hf 2 _ rfl).trans (List.getElem?_eq_getElem (by omega))
    have g3 : DataW.trod enc Tryz.prog W 0 (fun _ => true) true k 22 (List.take (Tryz.prog.cellsOf 22) (List.drop 3 [v0, v1, v2, v3])) = some xs[3] := (hf 3 _ rfl).trans (List.getElem?_eq_getElem (by omega))
    rw [(by kernel_rfl : Tryz.prog.cellsOf 4 = 1)] at g0
    rw [cU64] at g1
    rw [(by kernel_rfl : Tryz.prog.cellsOf 9 = 1)] at g2
    rw [(by kernel_rfl : Tryz.prog.cellsOf 22 = 1)] at g3
    obtain ⟨b0, e0, _⟩ := DataW.trod_bool Tryz.underlying4 g0
    obtain ⟨n1, e1, _, w1⟩ := DataW.trod_int Tryz.underlying33 g1
    obtain ⟨s2, e2, _, _⟩ := DataW.trod_string Tryz.underlying9 g2
    obtain ⟨A3, l3, c3, e3, h3⟩ := slice_cell Tryz.underlying22 g3
    simp at e0 e1 e2
    subst e0; subst e1; subst e2; subst e3
    have := wf64 w1
    refine ⟨⟨b0, n1.toNat, s2, A3, l3, c3⟩, ⟨by show n1.toNat < _; omega, h3⟩, fun i hi => ?_⟩
    rw [hc i hi]
    rcases (show i = 0 ∨ i = 1 ∨ i = 2 ∨ i = 3 by omega) with rfl | rfl | rfl | rfl
    · rfl
    · show some (Value.int .u64 n1) = some (Value.int .u64 ((n1.toNat : Nat) : Int))
      rw [Int.toNat_of_nonneg this.1]
    · rfl
    · rfl

/-- an argument that is a list of values -/
theorem open_vs {a0 : Option Addr} {len cap : Nat} {d : DataW H} {p : List MemPlace} (hv : Value.okWide Tryz.prog W .any base 22 (.slice a0 len cap)) (h : DataW.Trod enc Tryz.prog W 0 (fun _ => true) true 22 (.slice a0 len cap) d p) :
    ∃ ds : List VS, LuV W W.heap.size (.slice a0 len cap) (ds.map vC) ∧ len = ds.length ∧ len ≤ 9223372036854775807 ∧ ∀ j, j < ds.length → (ds.getD j default).OK := by
  obtain ⟨fuel, hf⟩ := h
  rcases Deep.open_slice Tryz.underlying22 hf with ⟨hcs, _⟩ | ⟨a, l, c, m, n, D, Pl, hcs, _, hl, hm, hmm, _, hx⟩
  · simp [Value.cells] at hcs
    obtain ⟨rfl, rfl, rfl⟩ := hcs
    exact ⟨[], .inl ⟨rfl, rfl⟩, rfl, by decide, fun j hj => absurd hj (Nat.not_lt_zero j)⟩
  · simp [Value.cells] at hcs
    obtain ⟨rfl, rfl, rfl⟩ := hcs
    simp only [if_true] at hmm
    subst hmm
    obtain ⟨b, o, rfl, hb⟩ := slot Tryz.underlying22 hv
    have each : ∀ i, i < len → ∃ x : VS, x.OK ∧ Rd W b (o + i * 4) 4 (vC x) := fun i hi => by
      obtain ⟨cs', h1, h2⟩ := hx i (by omega)
      rw [cV] at h1
      obtain ⟨_, hlen, hcell⟩ := World.cells?_some h1
      refine one_value hlen (fun j hj => ?_) h2
      have := hcell j hj
      rwa [add_plain, add_plain] at this
    obtain ⟨f, hfx⟩ := Deep.choose_lt each
    have hlm : ((List.range len).map f).length = len := by simp
    have hg : ∀ j, j < len → ((List.range len).map f).getD j default = f j := fun j hj => by simp [hj]
    refine ⟨(List.range len).map f, .inr ⟨b, o, m, by simp, hb, hb, fun i hi => ?_⟩, hlm.symm, by simp only [maxLen] at hm; omega, fun j hj => by rw [hlm] at hj; rw [hg j hj]; exact (hfx j hj).1⟩
    rw [List.length_map, hlm] at hi
    have hi4 : i / 4 < len := by omega
    have h1 := (hfx (i / 4) hi4).2 (i % 4) (by omega)
    rw [Nat.add_assoc, show i / 4 * 4 + i % 4 = i by omega] at h1
    rw [h1]
    have h2 := fl_getD (xs := ((List.range len).map f).map vC) (j := i / 4) (i := i % 4) (by simp; omega) (by omega)
    rw [show 4 * (i / 4) + i % 4 = i by omega, getD_map (by rw [hlm]; exact hi4), hg _ hi4] at h2
    exact congrArg some h2.symm

theorem one_run {fuel o b : Nat} {cs : List Value} {x : DataW H × List MemPlace} (hlen : cs.length = 3) (hc : ∀ i, i < 3 → W.cell? ⟨b, o + i, none⟩ = cs[i]?) (h : DataW.trod enc Tryz.prog W 0 (fun _ => true) true fuel 46 cs = some x) : ∃ r : RR, r.OK W W.heap.size ∧ Rd W b o 3 (rF r) := by
  obtain ⟨xs, k, _, _, _, hxl, hf⟩ := DataW.trod_struct Tryz.underlying46 h
  have hxl3 : xs.length = 3 := hxl
  match cs, hlen with
  | [v0, v1, v2], _ =>
    have g0 : DataW.trod enc Tryz.prog W 0 (fun _ => true) true k 4 (List.take (Tryz.prog.cellsOf 4) (List.drop 0 [v0, v1, v2])) = some xs[0] := (hf 0 _ rfl).trans (List.getElem?_eq_getElem (by omega))
    have g1 : DataW.trod enc Tryz.prog W 0 (fun _ => true) true k 3 (List.take (Tryz.prog.cellsOf 3) (List.drop 1 [v0, v1, v2])) = some xs[1] := (hf 1 _ rfl).trans (List.getElem?_eq_getElem (by omega))
    have g2 : DataW.trod enc Tryz.prog W 0 (fun _ => true) true k 37 (List.take (Tryz.prog.cellsOf 37) (List.drop 2 [v0, v1, v2])) = some xs[2] := (hf 2 _ rfl).trans (List.getElem?_eq_getElem (by omega))
    rw [(by kernel_rfl : Tryz.prog.cellsOf 4 = 1)] at g0
    rw [(by kernel_rfl : Tryz.prog.cellsOf 3 = 1)] at g1
    rw [(by kernel_rfl : Tryz.prog.cellsOf 37 = 1)] at g2
    obtain ⟨b0, e0, _⟩ := DataW.trod_bool Tryz.underlying4 g0
    obtain ⟨n1, e1, _, w1⟩ := DataW.trod_int Tryz.underlying3 g1
    simp at e0 e1
    have hw := wfi64 w1
    obtain ⟨A, cap, ys, e2, hls, hlt, hll⟩ : ∃ (A : Option Addr) (cap : Nat) (ys : List Nat), v2 = .slice A ys.length cap ∧ Lx W W.heap.size (.slice A ys.length cap) (u64s ys) ∧ (∀ y, y ∈ ys → y < 18446744073709551616) ∧ ys.length ≤ 9223372036854775807 := by
      rcases open_ints Tryz.underlying37 Tryz.underlying33 cU64 g2 with ⟨hcs, _⟩ | ⟨a, l, c, zs, hcs, _, hl, hm, hz, _, hcell, hwz⟩
      · exact ⟨none, 0, [], by simpa using hcs, .inl (.inl ⟨rfl, rfl⟩), fun y hy => absurd hy (by simp), by decide⟩
      · have hz' : zs.length = c := by simpa using hz
        have hlz : ((zs.take l).map Int.toNat).length = l := by simp; omega
        refine ⟨some a, c, (zs.take l).map Int.toNat, by rw [hlz]; simpa using hcs, ?_, fun y hy => ?_, by rw [hlz]; simp only [maxLen] at hm; omega⟩
        · rcases Nat.eq_zero_or_pos l with rfl | h0
          · exact .inr ⟨by simp [u64s], a, c, by simp⟩
          · have hc0 := hcell 0 (by omega)
            obtain ⟨g, q, sp⟩ := a
            have hsp : sp = none := by
              have := World.cell?_spot hc0
              simpa [Addr.add] using this
            subst hsp
            have hgl : g < W.heap.size := by
              have := World.block_lt_of_cell? _ _ hc0
              simpa [Addr.add] using this
            refine .inl (.inr ⟨g, q, c, by rw [u64s_length], hgl, hgl, fun i hi => ?_⟩)
            rw [u64s_length, hlz] at hi
            have h1 := hcell i (by omega)
            rw [add_plain] at h1
            rw [h1]
            have h2 := wf64 (hwz (zs.getD i 0) (by simp [show i < zs.length by omega]))
            refine congrArg some (Eq.trans ?_ (u64s_getD (by rw [hlz]; exact hi)).symm)
            have h3 : ((zs.take l).map Int.toNat).getD i 0 = (zs.getD i 0).toNat := by simp [hi, show i < zs.length by omega]
            rw [h3, Int.toNat_of_nonneg h2.1]
        · obtain ⟨z, hz1, rfl⟩ := List.mem_map.1 hy
          have := wf64 (hwz z (List.mem_of_mem_take hz1))
          omega
    subst e0; subst e1; subst e2
    refine ⟨⟨b0, n1, A, cap, ys⟩, ⟨hls, hw.1, hw.2, hll, hlt⟩, fun i hi => ?_⟩
    rw [hc i hi]
    rcases (show i = 0 ∨ i = 1 ∨ i = 2 by omega) with rfl | rfl | rfl <;> rfl

/-- an argument that is a list of runs -/
theorem open_rs {a0 : Option Addr} {len cap : Nat} {d : DataW H} {p : List MemPlace} (hv : Value.okWide Tryz.prog W .any base 23 (.slice a0 len cap)) (h : DataW.Trod enc Tryz.prog W 0 (fun _ => true) true 23 (.slice a0 len cap) d p) :
    ∃ rs : List RR, RS W W.heap.size (.slice a0 len cap) rs ∧ len = rs.length ∧ len ≤ 9223372036854775807 := by
  obtain ⟨fuel, hf⟩ := h
  rcases Deep.open_slice Tryz.underlying23 hf with ⟨hcs, _⟩ | ⟨a, l, c, m, n, D, Pl, hcs, _, hl, hm, hmm, _, hx⟩
  · simp [Value.cells] at hcs
    obtain ⟨rfl, rfl, rfl⟩ := hcs
    exact ⟨[], ⟨.inl ⟨rfl, rfl⟩, fun j hj => absurd hj (Nat.not_lt_zero j)⟩, rfl, by decide⟩
  · simp [Value.cells] at hcs
    obtain ⟨rfl, rfl, rfl⟩ := hcs
    simp only [if_true] at hmm
    subst hmm
    obtain ⟨b, o, rfl, hb⟩ := slot Tryz.underlying23 hv
    have each : ∀ i, i < len → ∃ r : RR, r.OK W W.heap.size ∧ Rd W b (o + i * 3) 3 (rF r) := fun i hi => by
      obtain ⟨cs', h1, h2⟩ := hx i (by omega)
      rw [cR] at h1
      obtain ⟨_, hlen, hcell⟩ := World.cells?_some h1
      refine one_run hlen (fun j hj => ?_) h2
      have := hcell j hj
      rwa [add_plain, add_plain] at this
    obtain ⟨f, hfx⟩ := Deep.choose_lt each
    have hlm : ((List.range len).map f).length = len := by simp
    have hg : ∀ j, j < len → ((List.range len).map f).getD j default = f j := fun j hj => by simp [hj]
    exact ⟨(List.range len).map f, ⟨.inr ⟨b, o, m, by rw [hlm], hb, hb, fun j hj => by rw [hlm] at hj; rw [hg j hj]; exact (hfx j hj).2⟩, fun j hj => by rw [hlm] at hj; rw [hg j hj]; exact (hfx j hj).1⟩, hlm.symm, by simp only [maxLen] at hm; omega⟩
end
end Go.Proofs.YthmknddfkmklfaaGreatDoor.Row
