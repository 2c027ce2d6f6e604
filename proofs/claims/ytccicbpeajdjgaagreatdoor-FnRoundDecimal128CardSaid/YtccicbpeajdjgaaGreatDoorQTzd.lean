/- What a rounding has at hand. -/
import Derived.Test.YtccicbpeajdjgaaGreatDoorQVm
import Derived.Test.YtccicbpeajdjgaaGreatDoorQTzc
set_option linter.unusedVariables false
set_option linter.unusedSimpArgs false
namespace Go.Proofs.YtccicbpeajdjgaaGreatDoor.Vm
open Go Mix Go.RowKit Wd
set_option maxRecDepth 20000
section
variable {X : Cx} {S : World → Prop} {ops : Array Oper} {ex : List Nat} {π : OT} {c : Bool} {k : Nat} {ks : List KI} {ds : List Deferred} {l : Kn} {w : World} {d ty : Nat} {pos : String} {aft : Array Edge} {g : Option (Nat × Bool)} {v : Value}
theorem eV {f : FuncId} {o : Operand} {name : String} {T : TypeId} {p : Addr} {args : Array Operand} {tys : Array TypeId} {bs : List Operand} {vs : List Value} {R : Value → World → Prop} (hop : ops[k]? = some ⟨some d, .call ⟨.invoke o name, args, tys⟩, ty, pos, aft, g⟩) (hg : Tk ops l g) (ho : ev l o = some (.iface T (.pointer (some p)))) (has : args = bs.toArray) (hv : evs l bs = some vs)
 (hm : ∀ (p : Addr) (w : World), (method (X.P.types.size + Made.depth) T (.pointer (some p)) name).run X.P w = .ok (f, .pointer (some p)) w) (hf : ∀ (us : Array Value) (w : World), (callFunc f us).run X.P w = .ok (.enter f us) w)
 (hc : (cls [] (bare (.call ⟨.invoke o name, args, tys⟩) ty) == 2) = true) (hd : Nat.blt d X.n = true) (hcall : Ret X.P f (Value.pointer (some p) :: vs).toArray w R) (kk : ∀ v w', R v w' → KE (ex.contains k) S (fun c => WF X S ops ex π c ks ds ((d, v) :: l) w') w') : WF X S ops ex (.cons k π) c ks ds l w :=
 pJ hop hg hc hd (fun a ha => by
  have he := eX ha hv;subst has;simp only [execOp, resolve, ha.ev ho, Sem.run_bind, Sem.run_pure, Result.andThen_ok, Go.invoke, List.map_toArray, he];have hx : (#[Value.iface T (.pointer (some p))] ++ vs.toArray)[0]? = some (Value.iface T (.pointer (some p))) := by simp
  have hy : (#[Value.iface T (.pointer (some p))] ++ vs.toArray).extract 1 (#[Value.iface T (.pointer (some p))] ++ vs.toArray).size = vs.toArray := by simp
  rw [hx, hy];have hp : (program).run X.P w = .ok X.P w := rfl;simp only [callMethod, Sem.run_bind, hp, Result.andThen_ok, hm];rw [show #[Value.pointer (some p)] ++ vs.toArray = (Value.pointer (some p) :: vs).toArray by simp]
  exact hf _ _) hcall kk
end
/-- a decimal's type: its precision and its scale -/
def tyF (p s : Int) : Nat → Value
 | 0 => .int .i32 p
 | _ => .int .i32 s
def TyB (w : World) (b : Nat) (p s : Int) : Prop := Row w b 51 2 (tyF p s)
/-- the error that is reported -/
def EB (w : World) (b : Nat) (v : Value) : Prop := Row w b 46 1 fun _ => v
/-- a rounding -/
def rnF (bT : Nat) (mode nd pow t0 t1 h0 h1 n0 n1 : Int) (bO : Nat) (fnv : Value) : Nat → Value
 | 0 => .iface 49 (.pointer (some ⟨bT, 0, none⟩))
 | 1 => .int .i8 mode
 | 2 => .int .i64 nd
 | 3 => .int .i32 pow
 | 4 => .int .u64 t0
 | 5 => .int .i64 t1
 | 6 => .int .u64 h0
 | 7 => .int .i64 h1
 | 8 => .int .u64 n0
 | 9 => .int .i64 n1
 | 10 => .pointer (some ⟨bO, 0, none⟩)
 | _ => fnv
def RnB (w : World) (b bT : Nat) (mode nd pow t0 t1 h0 h1 n0 n1 : Int) (bO : Nat) (fnv : Value) : Prop := Row w b 87 12 (rnF bT mode nd pow t0 t1 h0 h1 n0 n1 bO fnv)
section
variable {w w' : World} {b bT bO : Nat} {p s mode nd pow t0 t1 h0 h1 n0 n1 : Int} {v fnv : Value} {S : List Nat}
theorem TyB.c0 (h : TyB w b p s) : w.cell? ⟨b, 0, none⟩ = some (.int .i32 p) := Row.cell (i := 0) h zo
theorem TyB.c1 (h : TyB w b p s) : w.cell? ⟨b, 1, none⟩ = some (.int .i32 s) := Row.cell (i := 1) h zo
theorem TyB.lt (h : TyB w b p s) : b < w.heap.size := Row.lt h
theorem TyB.same (h : TyB w b p s) (hs : Same S w w') (hb : b ∉ S := by first | (simp; done) | (simp; omega)) : TyB w' b p s := Row.same h hs hb
theorem TyB.box (w : World) (p s : Int) : TyB (w.alloc (.cells #[.int .i32 p, .int .i32 s] 51)) w.heap.size p s :=
 (Row.alloc w #[.int .i32 p, .int .i32 s] 51).congr fun i hi => by
  have hi : i < 2 := hi
  rcases (show i = 0 ∨ i = 1 by omega) with rfl | rfl <;> rfl
theorem EB.c0 (h : EB w b v) : w.cell? ⟨b, 0, none⟩ = some v := Row.cell (i := 0) h zo
theorem EB.fz (h : EB w b v) (i : Nat) : w.frozen? ⟨b, i, none⟩ = false := Row.fz h i
theorem EB.lt (h : EB w b v) : b < w.heap.size := Row.lt h
theorem EB.same (h : EB w b v) (hs : Same S w w') (hb : b ∉ S := by first | (simp; done) | (simp; omega)) : EB w' b v := Row.same h hs hb
theorem EB.s0 (h : EB w b v) {z : Value} (hw : w' = w.setCell ⟨b, 0, none⟩ z) : EB w' b z := (Row.set' h (i := 0) hw).congr fun i hi9 => by
 obtain rfl : i = 0 := by omega
 rfl
theorem EB.alloc (w : World) : EB (w.alloc (.cells #[.nilIface] 46)) w.heap.size .nilIface :=
 (Row.alloc w #[.nilIface] 46).congr fun i hi => by
  have hi : i < 1 := hi;obtain rfl : i = 0 := by omega
  rfl
theorem RnB.lt (h : RnB w b bT mode nd pow t0 t1 h0 h1 n0 n1 bO fnv) : b < w.heap.size := Row.lt h
theorem RnB.same (h : RnB w b bT mode nd pow t0 t1 h0 h1 n0 n1 bO fnv) (hs : Same S w w') (hb : b ∉ S := by first | (simp; done) | (simp; omega)) : RnB w' b bT mode nd pow t0 t1 h0 h1 n0 n1 bO fnv := Row.same h hs hb
theorem RnB.fz (h : RnB w b bT mode nd pow t0 t1 h0 h1 n0 n1 bO fnv) (i : Nat) : w.frozen? ⟨b, i, none⟩ = false := Row.fz h i
theorem RnB.c0 (h : RnB w b bT mode nd pow t0 t1 h0 h1 n0 n1 bO fnv) : w.cell? ⟨b, 0, none⟩ = some (.iface 49 (.pointer (some ⟨bT, 0, none⟩))) := Row.cell (i := 0) h zo
theorem RnB.c1 (h : RnB w b bT mode nd pow t0 t1 h0 h1 n0 n1 bO fnv) : w.cell? ⟨b, 1, none⟩ = some (.int .i8 mode) := Row.cell (i := 1) h zo
theorem RnB.c2 (h : RnB w b bT mode nd pow t0 t1 h0 h1 n0 n1 bO fnv) : w.cell? ⟨b, 2, none⟩ = some (.int .i64 nd) := Row.cell (i := 2) h zo
theorem RnB.c3 (h : RnB w b bT mode nd pow t0 t1 h0 h1 n0 n1 bO fnv) : w.cell? ⟨b, 3, none⟩ = some (.int .i32 pow) := Row.cell (i := 3) h zo
theorem RnB.c4 (h : RnB w b bT mode nd pow t0 t1 h0 h1 n0 n1 bO fnv) : Rd w b 4 2 (nF t0 t1) := (Row.rd h 4 2 zo).congr fun i hi => by
 rcases (show i = 0 ∨ i = 1 by omega) with rfl | rfl <;> rfl
theorem RnB.c6 (h : RnB w b bT mode nd pow t0 t1 h0 h1 n0 n1 bO fnv) : Rd w b 6 2 (nF h0 h1) := (Row.rd h 6 2 zo).congr fun i hi => by
 rcases (show i = 0 ∨ i = 1 by omega) with rfl | rfl <;> rfl
theorem RnB.c8 (h : RnB w b bT mode nd pow t0 t1 h0 h1 n0 n1 bO fnv) : Rd w b 8 2 (nF n0 n1) := (Row.rd h 8 2 zo).congr fun i hi => by
 rcases (show i = 0 ∨ i = 1 by omega) with rfl | rfl <;> rfl
theorem RnB.c10 (h : RnB w b bT mode nd pow t0 t1 h0 h1 n0 n1 bO fnv) : w.cell? ⟨b, 10, none⟩ = some (.pointer (some ⟨bO, 0, none⟩)) := Row.cell (i := 10) h zo
theorem RnB.c11 (h : RnB w b bT mode nd pow t0 t1 h0 h1 n0 n1 bO fnv) : w.cell? ⟨b, 11, none⟩ = some fnv := Row.cell (i := 11) h zo
theorem jG {f g : Nat → Value} (h0 : f 0 = g 0) (h1 : f 1 = g 1) (h2 : f 2 = g 2) (h3 : f 3 = g 3) (h4 : f 4 = g 4) (h5 : f 5 = g 5) (h6 : f 6 = g 6) (h7 : f 7 = g 7) (h8 : f 8 = g 8) (h9 : f 9 = g 9) (ha : f 10 = g 10) (hb : f 11 = g 11) : ∀ i, i < 12 → f i = g i
 | 0, _ => h0 | 1, _ => h1 | 2, _ => h2 | 3, _ => h3 | 4, _ => h4 | 5, _ => h5 | 6, _ => h6 | 7, _ => h7 | 8, _ => h8 | 9, _ => h9 | 10, _ => ha | 11, _ => hb
 | n + 12, h => absurd h zw
theorem RnB.s3 (h : RnB w b bT mode nd pow t0 t1 h0 h1 n0 n1 bO fnv) {z : Int} (hw : w' = w.setCell ⟨b, 3, none⟩ (.int .i32 z)) : RnB w' b bT mode nd z t0 t1 h0 h1 n0 n1 bO fnv := (Row.set' h (i := 3) hw).congr (jG rfl rfl rfl rfl rfl rfl rfl rfl rfl rfl rfl rfl)
theorem RnB.box (w : World) (bT : Nat) (mode nd pow t0 t1 h0 h1 n0 n1 : Int) (bO : Nat) (fnv : Value) : RnB (w.alloc (.cells #[rnF bT mode nd pow t0 t1 h0 h1 n0 n1 bO fnv 0, .int .i8 mode, .int .i64 nd, .int .i32 pow, .int .u64 t0, .int .i64 t1, .int .u64 h0, .int .i64 h1, .int .u64 n0, .int .i64 n1, .pointer (some ⟨bO, 0, none⟩), fnv] 87)) w.heap.size bT mode nd pow t0 t1 h0 h1 n0 n1 bO fnv :=
 (Row.alloc w #[rnF bT mode nd pow t0 t1 h0 h1 n0 n1 bO fnv 0, .int .i8 mode, .int .i64 nd, .int .i32 pow, .int .u64 t0, .int .i64 t1, .int .u64 h0, .int .i64 h1, .int .u64 n0, .int .i64 n1, .pointer (some ⟨bO, 0, none⟩), fnv] 87).congr (jG rfl rfl rfl rfl rfl rfl rfl rfl rfl rfl rfl rfl)
end
/-- the whole state of a rounding, all of it ahead of block H -/
structure KS (H : Nat) (w : World) (bK bT bO bD b3 b5 b6 b7 mode : Nat) (nd pow T h p s : Int) : Prop where
 rn : RnB w bK bT (mode : Nat) nd pow (T % 18446744073709551616) (T / 18446744073709551616) (h % 18446744073709551616) (h / 18446744073709551616) ((-h) % 18446744073709551616) ((-h) / 18446744073709551616) bO (cloV b3 b5 b6 b7 mode)
 ops : OB w bO bD
 dops : DB w bD
 ty : TyB w bT p s
 fb : FB w b3 bO
 n5 : NB w b5 0 0
 n6 : NB w b6 ((1 : Int) % 18446744073709551616) ((1 : Int) / 18446744073709551616)
 n7 : NB w b7 ((-1 : Int) % 18446744073709551616) ((-1 : Int) / 18446744073709551616)
 tab : Tab w
 lt : bK < H ∧ bT < H ∧ bO < H ∧ bD < H ∧ b3 < H ∧ b5 < H ∧ b6 < H ∧ b7 < H ∧ 14 ≤ H
theorem KS.same {H : Nat} {w w' : World} {bK bT bO bD b3 b5 b6 b7 mode : Nat} {nd pow T h p s : Int} {S : List Nat} (hK : KS H w bK bT bO bD b3 b5 b6 b7 mode nd pow T h p s) (hs : Same S w w') (hS : ∀ g, g ∈ S → H ≤ g := by first | (simp; done) | (simp; omega) | (simp only [List.mem_singleton]; rintro g rfl hg; omega)) : KS H w' bK bT bO bD b3 b5 b6 b7 mode nd pow T h p s := by
 obtain ⟨a1, a2, a3, a4, a5, a6, a7, a8, a9, l1, l2, l3, l4, l5, l6, l7, l8, l9⟩ := hK
 have hn : ∀ b, b < H → b ∉ S := fun b hb hm => by have := hS b hm; omega
 exact ⟨a1.same hs (hn _ l1), a2.same hs (hn _ l3), a3.same hs (hn _ l4), a4.same hs (hn _ l2), a5.same hs (hn _ l5), a6.same hs (hn _ l6), a7.same hs (hn _ l7), a8.same hs (hn _ l8), a9.same hs (fun g hg => Nat.le_trans l9 (hS g hg)), l1, l2, l3, l4, l5, l6, l7, l8, l9⟩
theorem cf62 (us : Array Value) (w : World) : (callFunc 62 us).run Tryz.prog w = .ok (.enter 62 us) w := by kernel_rfl
theorem cf63 (us : Array Value) (w : World) : (callFunc 63 us).run Tryz.prog w = .ok (.enter 63 us) w := by kernel_rfl
theorem cf64 (us : Array Value) (w : World) : (callFunc 64 us).run Tryz.prog w = .ok (.enter 64 us) w := by kernel_rfl
theorem cf65 (us : Array Value) (w : World) : (callFunc 65 us).run Tryz.prog w = .ok (.enter 65 us) w := by kernel_rfl
theorem cf66 (us : Array Value) (w : World) : (callFunc 66 us).run Tryz.prog w = .ok (.enter 66 us) w := by kernel_rfl
theorem cf67 (us : Array Value) (w : World) : (callFunc 67 us).run Tryz.prog w = .ok (.enter 67 us) w := by kernel_rfl
theorem cf68 (us : Array Value) (w : World) : (callFunc 68 us).run Tryz.prog w = .ok (.enter 68 us) w := by kernel_rfl
theorem cf69 (us : Array Value) (w : World) : (callFunc 69 us).run Tryz.prog w = .ok (.enter 69 us) w := by kernel_rfl
theorem cf70 (us : Array Value) (w : World) : (callFunc 70 us).run Tryz.prog w = .ok (.enter 70 us) w := by kernel_rfl
theorem cf71 (us : Array Value) (w : World) : (callFunc 71 us).run Tryz.prog w = .ok (.enter 71 us) w := by kernel_rfl
theorem fa51_0 (b o : Nat) (w : World) : (Instr.fieldAt 51 (.pointer (some ⟨b, o, none⟩)) 0).run Tryz.prog w = .ok (.pointer (some ⟨b, o + 0, none⟩)) w := by kernel_rfl
theorem fa51_1 (b o : Nat) (w : World) : (Instr.fieldAt 51 (.pointer (some ⟨b, o, none⟩)) 1).run Tryz.prog w = .ok (.pointer (some ⟨b, o + 1, none⟩)) w := by kernel_rfl
set_option maxHeartbeats 200000 in
theorem iX {w : World} (b : Nat) (p s : Int) (h : TyB w b p s) :
 Ret Tryz.prog 311 #[.pointer (some ⟨b, 0, none⟩)] w fun v w' => v = .int .i32 p ∧ w' = w := by
 exact aS Tryz.func311 Tryz.ntmps311 rfl rfl (aD (aB (aF rfl rfl (aG (aE (aD (aB (aA rfl rfl (aP rfl rfl (aO rfl fa51_0 rfl (aL rfl Tryz.underlying21 rfl h.c0 rfl (aF rfl rfl (aG (aE (aZ rfl rfl ⟨rfl, rfl⟩)))))))))))))))
set_option maxHeartbeats 200000 in
theorem rD {w : World} (b : Nat) (p s : Int) (h : TyB w b p s) :
 Ret Tryz.prog 312 #[.pointer (some ⟨b, 0, none⟩)] w fun v w' => v = .int .i32 s ∧ w' = w := by
 exact aS Tryz.func312 Tryz.ntmps312 rfl rfl (aD (aB (aF rfl rfl (aG (aE (aD (aB (aA rfl rfl (aP rfl rfl (aO rfl fa51_1 rfl (aL rfl Tryz.underlying21 rfl h.c1 rfl (aF rfl rfl (aG (aE (aZ rfl rfl ⟨rfl, rfl⟩)))))))))))))))
set_option maxHeartbeats 200000 in
theorem vU {w : World} (s : ByteArray) :
 Ret Tryz.prog 72 #[.string s] w fun v w' => ∃ q, v = .iface 140 (.pointer (some q)) ∧ Same [] w w' := by
 have hS := Same.refl [] w;refine aS Tryz.func72 Tryz.ntmps72 rfl rfl (aD (aB (aF rfl rfl (aG (aE (aD (aB (aA rfl rfl (eH rfl rfl (v := .agg #[.string s]) (fun w => by kernel_rfl) rfl rfl (cA rfl rfl rfl ?_))))))))));intro w1 hn hs;replace hS := hS.trans hs;clear hn hs;exact fN rfl Tryz.underlying140 rfl rfl (aF rfl rfl (aG (aE (aZ rfl rfl ⟨_, rfl, hS⟩))))
/-- the function for a mode is called -/
theorem oW {H : Nat} {w : World} {bK bT bO bD b3 b5 b6 b7 mode : Nat} {nd pow T h p s : Int} (hK : KS H w bK bT bO bD b3 b5 b6 b7 mode nd pow T h p s) (hm : mode ≤ 9) (x r : Int) (hx : -100000000000000000000000000000000000000 < x ∧ x < 100000000000000000000000000000000000000) (hxr : -100000000000000000000000000000000000000 < x - r ∧ x - r < 100000000000000000000000000000000000000) (hr9 : -100000000000000000000000000000000000000 < r ∧ r < 100000000000000000000000000000000000000) (hr0 : r ≠ 0) (hT : 0 < T ∧ T ≤ 10000000000000000000000000000000000000) (k : Nat) (hk : 1 ≤ k ∧ k ≤ 37) (hTk : T = ((10 ^ k : Nat) : Int)) :
 ∃ f cs, cloV b3 b5 b6 b7 mode = .func (.func f) #[] cs.toArray ∧ (∀ (us : Array Value) (w : World), (callFunc f us).run Tryz.prog w = .ok (.enter f us) w) ∧ Ret Tryz.prog f (([.agg #[.int .u64 (x % 18446744073709551616), .int .i64 (x / 18446744073709551616)], .agg #[.int .u64 (r % 18446744073709551616), .int .i64 (r / 18446744073709551616)], .agg #[.int .u64 (T % 18446744073709551616), .int .i64 (T / 18446744073709551616)], .int .i32 (k : Nat)] : List Value) ++ cs).toArray w fun v w' => v = .agg #[.int .u64 ((Rd.fn mode x r T) % 18446744073709551616), .int .i64 ((Rd.fn mode x r T) / 18446744073709551616)] ∧ Same [] w w' := by
 rcases (show mode = 0 ∨ mode = 1 ∨ mode = 2 ∨ mode = 3 ∨ mode = 4 ∨ mode = 5 ∨ mode = 6 ∨ mode = 7 ∨ mode = 8 ∨ mode = 9 by omega) with rfl | rfl | rfl | rfl | rfl | rfl | rfl | rfl | rfl | rfl
 ·exact ⟨62, [.pointer (some ⟨b3, 0, none⟩)], rfl, cf62, clo0 b3 bO bD hK.fb hK.ops hK.dops x r T hx hxr hr9 hr0 hT k⟩
 ·exact ⟨63, [.pointer (some ⟨b3, 0, none⟩), .pointer (some ⟨b5, 0, none⟩)], rfl, cf63, (by rcases (show 0 < x - r ∨ ¬ 0 < x - r by omega) with hc | hc; exact clo1p b3 b5 bO bD hK.fb hK.ops hK.dops hK.n5 x r T hx hxr hr9 hr0 hT k hc; exact clo1n b3 b5 bO bD hK.fb hK.ops hK.dops hK.n5 x r T hx hxr hr9 hr0 hT k hc)⟩
 ·exact ⟨64, [.pointer (some ⟨b3, 0, none⟩)], rfl, cf64, clo2 b3 bO bD hK.fb hK.ops hK.dops x r T hx hxr hr9 hr0 hT k⟩
 ·exact ⟨65, [.pointer (some ⟨b3, 0, none⟩), .pointer (some ⟨b5, 0, none⟩)], rfl, cf65, (by rcases (show r < 0 ∨ ¬ r < 0 by omega) with hc | hc; exact clo3n b3 b5 bO bD hK.fb hK.ops hK.dops hK.n5 x r T hx hxr hr9 hr0 hT k hc; exact clo3p b3 b5 bO bD hK.fb hK.ops hK.dops hK.n5 x r T hx hxr hr9 hr0 hT k hc)⟩
 ·exact ⟨66, [.pointer (some ⟨b3, 0, none⟩)], rfl, cf66, clo4 b3 bO bD hK.fb hK.ops hK.dops x r T hx hxr hr9 hr0 hT k⟩
 ·exact ⟨67, [.pointer (some ⟨b3, 0, none⟩), .pointer (some ⟨b5, 0, none⟩)], rfl, cf67, (by rcases (show 0 < x - r ∨ ¬ 0 < x - r by omega) with hc | hc; exact clo5p b3 b5 bO bD hK.fb hK.ops hK.dops hK.n5 x r T hx hxr hr9 hr0 hT k hc; exact clo5n b3 b5 bO bD hK.fb hK.ops hK.dops hK.n5 x r T hx hxr hr9 hr0 hT k hc)⟩
 ·exact ⟨68, [.pointer (some ⟨b3, 0, none⟩)], rfl, cf68, clo6 b3 bO bD hK.fb hK.ops hK.dops x r T hx hxr hr9 hr0 hT k⟩
 ·exact ⟨69, [.pointer (some ⟨b3, 0, none⟩), .pointer (some ⟨b5, 0, none⟩)], rfl, cf69, (by rcases (show r < 0 ∨ ¬ r < 0 by omega) with hc | hc; exact clo7n b3 b5 bO bD hK.fb hK.ops hK.dops hK.n5 x r T hx hxr hr9 hr0 hT k hc; exact clo7p b3 b5 bO bD hK.fb hK.ops hK.dops hK.n5 x r T hx hxr hr9 hr0 hT k hc)⟩
 ·exact ⟨70, [.pointer (some ⟨b3, 0, none⟩), .pointer (some ⟨b6, 0, none⟩), .pointer (some ⟨b7, 0, none⟩)], rfl, cf70, (by subst hTk; exact clo8 hK.tab b3 b6 b7 bO bD hK.fb hK.ops hK.dops hK.n6 hK.n7 x r hx hr9 hr0 k hk)⟩
 ·exact ⟨71, [.pointer (some ⟨b3, 0, none⟩), .pointer (some ⟨b6, 0, none⟩), .pointer (some ⟨b7, 0, none⟩)], rfl, cf71, (by subst hTk; exact clo9 hK.tab b3 b6 b7 bO bD hK.fb hK.ops hK.dops hK.n6 hK.n7 x r hx hr9 hr0 k hk)⟩
end Go.Proofs.YtccicbpeajdjgaaGreatDoor.Vm
