/- What the law's parts come to, put together. -/
import Derived.Test.YtccicbpeajdjgaaGreatDoorQVm
import Derived.Test.YtccicbpeajdjgaaGreatDoorQT0
import Derived.Test.YtccicbpeajdjgaaGreatDoorQTzg
set_option linter.unusedVariables false
set_option linter.unusedSimpArgs false
namespace Go.Proofs.YtccicbpeajdjgaaGreatDoor.Vm
open Go Mix Go.RowKit Wd
set_option maxRecDepth 20000
def c2 (x y : Nat) : Nat → Nat := fun i => if i = 0 then x else y
theorem uZ {w : World} {b E : Nat} {x y : Nat} (h : Row w b E 2 (fun i => (#[Value.int .u64 (x : Nat), .int .u64 (y : Nat)] : Array Value).getD i undef)) : Rd w b 0 2 (ug (c2 x y)) := fun i hi => (h.cell (i := 0 + i) zw).trans (congrArg some (by
 rcases (show i = 0 ∨ i = 1 by omega) with rfl | rfl <;> rfl))
/-- the words given, if there are two -/
def At2 (H : Nat) (w : World) (A : Option Addr) (n g o : Nat) (a : Nat → Nat) : Prop := n = 2 → A = some ⟨g, o, none⟩ ∧ Rd w g o 2 (ug a) ∧ g < H ∧ ∀ i, i < 2 → a i < 18446744073709551616
theorem At2.same {H : Nat} {w w' : World} {A : Option Addr} {n g o : Nat} {a : Nat → Nat} {S : List Nat} (h : At2 H w A n g o a) (hs : Same S w w') (hS : ∀ b, b ∈ S → H ≤ b := by first | (simp; done) | (simp; omega) | (simp only [List.mem_singleton]; rintro g rfl hg; omega)) (hw : H ≤ w.heap.size := by omega) : At2 H w' A n g o a := fun e => by
 obtain ⟨h1, h2, h3, h4⟩ := h e;exact ⟨h1, h2.same hs (fun hb => absurd (hS _ hb) zw) zw, h3, h4⟩
/-- what the package answers -/
def Got (K : Nat) (w : World) (u : Value) (ok : Bool) : Option Int → Prop
 | some z => ∃ g c, u = .slice (some ⟨g, 0, none⟩) 2 c ∧ ok = true ∧ g < K ∧ Rd w g 0 2 (ug (tw z))
 | none => u = .slice none 0 0 ∧ ok = false
theorem Got.same {K : Nat} {w w' : World} {u : Value} {ok : Bool} {z : Option Int} {S : List Nat} (h : Got K w u ok z) (hs : Same S w w') (hS : ∀ b, b ∈ S → K ≤ b := by first | (simp; done) | (simp; omega) | (simp only [List.mem_singleton]; rintro g rfl hg; omega)) (hw : K ≤ w.heap.size := by omega) : Got K w' u ok z := by
 cases z with
 | none => exact h
 | some z =>
  obtain ⟨g, c, h1, h2, h3, h4⟩ := h;exact ⟨g, c, h1, h2, h3, h4.same hs (fun hb => absurd (hS _ hb) zw) zw⟩
theorem tw_sw {a : Nat → Nat} (h : ∀ i, i < 2 → a i < 18446744073709551616) : tw (sw a) 0 = a 0 ∧ tw (sw a) 1 = a 1 := by
 have h0 := h 0 zo;have h1 := h 1 zo;unfold tw;rw [if_pos rfl, if_neg (show ¬ (1 : Nat) = 0 by decide)];unfold sw;rw [show ((2 ^ 128 : Nat) : Int) = 340282366920938463463374607431768211456 from rfl]
 split <;> constructor <;> omega
theorem res_A {p mode : Nat} {x pow : Int} (h : pow ≤ 0) (hp : 1 ≤ p) (hx : x.natAbs < 10 ^ p) : res p mode x pow = some x := by
 unfold res;rw [if_neg zw]
 by_cases h1 : pow < 0
 ·rw [if_pos h1]
 ·obtain rfl : pow = 0 := by omega
  have hc : ∀ h, Rd.call mode x 1 h = x := fun h => by
   unfold Rd.call;rw [if_pos (Int.tmod_one x)]
  rw [if_neg h1, show ((10 ^ (0 : Int).toNat : Nat) : Int) = 1 from rfl, hc, if_pos hx]
theorem res_B {p mode : Nat} {x pow : Int} (h : (p : Int) ≤ pow) : res p mode x pow = none := by
 unfold res;rw [if_pos h]
theorem res_C {p mode k : Nat} {x : Int} (h1 : 1 ≤ k) (h2 : k < p) (hm : mode ≤ 9) (hq : x.tdiv ((10 ^ k : Nat) : Int) ≠ 0 ∨ ¬ (mode = 0 ∨ mode = 1 ∨ mode = 4 ∨ mode = 5)) : res p mode x (k : Nat) = if (Rd.rnd mode x ((10 ^ k : Nat) : Int) * ((10 ^ k : Nat) : Int)).natAbs < 10 ^ p then some (Rd.rnd mode x ((10 ^ k : Nat) : Int) * ((10 ^ k : Nat) : Int)) else none := by
 unfold res;have hT : 0 < 10 ^ k := Nat.pow_pos zo
 have he : 2 * (10 ^ k / 2) = 10 ^ k := by
  obtain ⟨j, rfl⟩ : ∃ j, k = j + 1 := ⟨k - 1, by omega⟩;rw [Nat.pow_succ];omega
 rw [if_neg zw, if_neg zw, Int.toNat_natCast, Rd.call_rnd hm zw zw hq]
theorem rnd_abs (m : Nat) (x : Int) {T : Int} (hT : 0 < T) : (Rd.rnd m x T * T).natAbs ≤ x.natAbs + T.natAbs ∧ (Rd.rnd m x T).natAbs ≤ x.natAbs + 1 := by
 have h1 : (Rd.rnd m x T).natAbs ≤ (x.tdiv T).natAbs + 1 := by
  unfold Rd.rnd Rd.low
  repeat' split
  all_goals omega
 have h2 : (x.tdiv T).natAbs * T.natAbs ≤ x.natAbs := by
  rw [← qQ x hT, oK];exact Nat.div_mul_le_self _ _
 have h3 := gV x hT;refine ⟨?_, by omega⟩;rw [Int.natAbs_mul];have h4 := Nat.mul_le_mul_right T.natAbs h1;rw [Nat.add_mul, Nat.one_mul] at h4;omega
theorem fitsAll {w : World} (A : Option Addr) (n c g o H : Nat) (a : Nat → Nat) (hv : At2 H w A n g o a) (hw : H ≤ w.heap.size) (hn : n ≤ 2147483647) (p s : Int) (hp : -9223372036854775808 ≤ p ∧ p ≤ 9223372036854775807) (hs0 : -9223372036854775808 ≤ s ∧ s ≤ 9223372036854775807) : Ret Tryz.prog 6 #[.int .i64 128, .slice A n c, .int .i64 p, .int .i64 s] w fun v w' => (∃ u z b, v = .tuple #[u, .bool b] ∧ Wz w' (fun g => w.heap.size ≤ g) u z ∧ (b = true → n = 2 ∧ z = sw a ∧ 1 ≤ p ∧ p ≤ 38 ∧ 0 ≤ s ∧ s ≤ p ∧ (Rd.digs (sw a).natAbs : Nat) ≤ p)) ∧ Same [] w w' := by
 by_cases h2 : n = 2
 ·obtain ⟨rfl, h3, h4, h5⟩ := hv h2;subst h2;rcases (show p < 1 ∨ (1 ≤ p ∧ 38 < p) ∨ (1 ≤ p ∧ p ≤ 38 ∧ s < 0) ∨ (1 ≤ p ∧ p ≤ 38 ∧ 0 ≤ s ∧ p < s) ∨ (1 ≤ p ∧ p ≤ 38 ∧ 0 ≤ s ∧ s ≤ p ∧ p < (Rd.digs (sw a).natAbs : Nat)) ∨ (1 ≤ p ∧ p ≤ 38 ∧ 0 ≤ s ∧ s ≤ p ∧ (Rd.digs (sw a).natAbs : Nat) ≤ p) by omega) with h | h | h | h | h | h
  ·exact (fits1 g o c a h3 zw h5 p s hp hs0 h).mono fun v w' ⟨u, h6, h7, h8⟩ => ⟨⟨u, _, false, h6, h7, nofun⟩, h8⟩
  ·exact (fits2 g o c a h3 zw h5 p s hp hs0 h).mono fun v w' ⟨u, h6, h7, h8⟩ => ⟨⟨u, _, false, h6, h7, nofun⟩, h8⟩
  ·exact (fits3 g o c a h3 zw h5 p s hp hs0 h).mono fun v w' ⟨u, h6, h7, h8⟩ => ⟨⟨u, _, false, h6, h7, nofun⟩, h8⟩
  ·exact (fits4 g o c a h3 zw h5 p s hp hs0 h).mono fun v w' ⟨u, h6, h7, h8⟩ => ⟨⟨u, _, false, h6, h7, nofun⟩, h8⟩
  ·exact (fits5 g o c a h3 zw h5 p s hp hs0 h).mono fun v w' ⟨u, h6, h7, h8⟩ => ⟨⟨u, _, false, h6, h7, nofun⟩, h8⟩
  ·exact (fits6 g o c a h3 zw h5 p s hp hs0 h).mono fun v w' ⟨u, h6, h7, h8⟩ => ⟨⟨u, _, true, h6, h7, fun _ => ⟨rfl, rfl, h⟩⟩, h8⟩
 ·exact (fitsNo A n c h2 hn p s).mono fun v w' ⟨u, h6, h7, h8⟩ => ⟨⟨u, _, false, h6, h7, nofun⟩, h8⟩
theorem qT {w : World} (s : Value) (x : Int) (h1 : Mz w (fun g => g < w.heap.size) s x.natAbs) (hx : x.natAbs < midN) (p K : Nat) (hp : 0 < p) (u : Value) (ok : Bool) (hw : K ≤ w.heap.size) (hG : Got K w u ok (if x.natAbs < 10 ^ p then some x else none)) : Ret Tryz.prog 10 #[.int .i64 128, .agg #[.bool (decide (x < 0)), s], .int .i64 (p : Nat), u, .bool ok] w fun v w' => v = .bool true ∧ Same [] w w' := by
 have hd := Rd.digs_le (x := x.natAbs) hp
 by_cases hf : -((2 ^ 127 : Nat) : Int) ≤ x ∧ x < ((2 ^ 127 : Nat) : Int)
 ·by_cases h2 : x.natAbs < 10 ^ p
  ·rw [if_pos h2] at hG;obtain ⟨g, c, rfl, rfl, h3, h4⟩ := hG;exact roundsC s x h1 hx (p : Nat) g 0 c (tw x) hf (by have := hd.2 h2; omega) h4 zw ⟨rfl, rfl⟩
  ·rw [if_neg h2] at hG;obtain ⟨rfl, rfl⟩ := hG;exact roundsB s x h1 hx (p : Nat) _ hf (by have := mt hd.1 h2; omega)
 ·exact roundsA s x h1 hx (p : Nat) u ok hf
theorem implG {w : World} (gv ov cv mode p : Nat) (a : Nat → Nat) (nd s : Int) (hv : Rd w gv ov 2 (ug a)) (hgv : gv < w.heap.size) (ha : ∀ i, i < 2 → a i < 18446744073709551616) (hT9 : Tab w) (hm : mode ≤ 9) (hp : 1 ≤ p ∧ p ≤ 38) (hnd : -100 ≤ nd ∧ nd ≤ 100) (hs9 : -1000 ≤ s ∧ s ≤ 1000) (hxp : (sw a).natAbs < 10 ^ p) : Ret Tryz.prog 4 #[.slice (some ⟨gv, ov, none⟩) 2 cv, .int .i64 (p : Nat), .int .i64 s, .int .i64 nd, .int .i64 (mode : Nat)] w fun v w' => (∃ u ok, v = .tuple #[u, .bool ok] ∧ Got w'.heap.size w' u ok (res p mode (sw a) (s - nd))) ∧ Same [] w w' := by
 have hx : -100000000000000000000000000000000000000 < sw a ∧ sw a < 100000000000000000000000000000000000000 := by
  have := Nat.pow_le_pow_right (n := 10) zo hp.2;omega
 refine (oL gv ov cv mode p a nd s hv hgv (ha 0 zo) (ha 1 zo) hT9 hm hp hnd hs9 hx hxp).mono ?_;rintro v w' ⟨h1, h2⟩;refine ⟨?_, h2⟩;cases h : res p mode (sw a) (s - nd) with
 | none =>
  rw [h] at h1;exact ⟨_, _, h1, rfl, rfl⟩
 | some z =>
  rw [h] at h1;obtain ⟨g, c, h3, -, h4, h5⟩ := h1;exact ⟨_, _, h3, g, c, rfl, rfl, h4, h5⟩
section
variable {X : Cx} {S : World → Prop} {ops : Array Oper} {ex : List Nat} {π : OT} {c : Bool} {k : Nat} {ks : List KI} {ds : List Deferred} {l : Kn} {w : World} {d ty : Nat} {pos : String} {aft : Array Edge} {g : Option (Nat × Bool)} {v : Value}
theorem oC {t : TypeId} (ho : ops[k]? = some ⟨some d, .alloc t, ty, pos, aft, g⟩) (hg : Tk ops l g) (hz : ∀ w, (zeroValue t).run X.P w = .ok v w) (hc : (cls [] (bare (.alloc t) ty) == 2) = true) (hd : Nat.blt d X.n = true)
 (kk : ∀ b w', b = w.heap.size → Row w' b t v.cells.size (fun i => v.cells.getD i undef) → Same [] w w' → b < w'.heap.size → KE (ex.contains k) S (fun c => WF X S ops ex π c ks ds ((d, .pointer (some ⟨b, 0, none⟩)) :: l) w') w') : WF X S ops ex (.cons k π) c ks ds l w :=
 cR ho hg hz hc hd fun w' hn hs => by
  have hR : Row w' w.heap.size t v.cells.size (fun i => v.cells.getD i undef) := by rw [hn]; exact Row.alloc _ _ _
  exact kk _ w' rfl hR hs hR.lt
end
end Go.Proofs.YtccicbpeajdjgaaGreatDoor.Vm
