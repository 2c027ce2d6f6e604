/- Side conditions that are closed by the same steps everywhere. -/
import Derived.KernelRfl
import Derived.Still
import Derived.Tactics
import Derived.Laws.World
import Derived.WalkKit
import Derived.Deep.LoopGhost
set_option linter.unusedVariables false
set_option linter.unusedSimpArgs false
namespace Go.Proofs.YtccicbpeajdjgaaGreatDoor.Vm
open Go
theorem zp {P : Prop} (h : P := by simp) : P := h
theorem zw {P : Prop} (h : P := by omega) : P := h
theorem zt {P : Prop} (h : P := by simp; omega) : P := h
theorem zo {P : Prop} (h : P := by decide) : P := h
theorem zz {P : Prop} (h : P := by simp only [Bool.not_true, Bool.not_false, decide_eq_true_eq, decide_eq_false_iff_not, beq_iff_eq, bne_iff_ne, beq_eq_false_iff_ne, bne_eq_false_iff_eq, gt_iff_lt, ge_iff_le]; omega) : P := h
theorem zy {P : Prop} (h : P := by kernel_rfl) : P := h
theorem zu {P : Prop} (h : P := by intro g hm; have := hS9 g hm; exact .inr (by omega)) : P := h
theorem zh {P : Prop} (h : P := by intro g hm hi; have := hS9 g hm; have := hI2 g hi; omega) : P := h
theorem zl {P : Prop} (h : P := by rw [show 0 + Int.toNat ((i : Nat) : Int) * 1 = i by omega, hhi i (Nat.le_refl _) hin]; rfl) : P := h
theorem zm {P : Prop} (h : P := by intro g hm; simp only [List.mem_singleton] at hm; exact .inr (by omega)) : P := h
theorem zk {P : Prop} (h : P := by intro g hm hi; simp only [List.mem_singleton] at hm; have := hI1 g hi; omega) : P := h
theorem zj {P : Prop} (h : P := by intro g hm hi; simp only [List.mem_singleton] at hm; have := hI2 g hi; omega) : P := h
theorem zx {P : Prop} (h : P := by show _; omega) : P := h
theorem zn {P : Prop} (h : P := by first | (simp; done) | (simp; omega) | (intro hm; have := hS9 _ hm; omega) | (intro g hm; have := hS9 g hm; exact .inr (by omega)) | (intro g hm hi; have := hS9 g hm; omega)) : P := h
theorem zv {P : Prop} (h : P := by first | (simp; done) | (simp; omega)) : P := h
theorem zi {P : Prop} (h : P := by unfold N128; omega) : P := h
end Go.Proofs.YtccicbpeajdjgaaGreatDoor.Vm
namespace Go.Proofs.YtccicbpeajdjgaaGreatDoor.Mix
open Go
/-- how an operation is taken in a region that draws its order: 0 a bare move, 1 one that leaves the world alone, 2 any other (it must stand alone when its turn comes) -/
def cls (qs : List Nat) (o : Oper) : Nat :=
 match o.op with
 | .move _ | .assign _ => 0
 | .pick .. | .load .. | .nilCheck _ | .binOp .. | .unOp .. | .convert .. | .slice .. | .fieldAddr .. | .field .. | .indexAddr .. | .index .. | .extract .. | .makeInterface .. | .lookup .. | .typeAssert .. | .makeFunc .. => 1
 | .call c => match c.callee with
  | .builtin .len => 1
  | .builtin .cap => 1
  | .builtin .min => 1
  | .builtin .max => 1
  | .value (.func f) => if qs.contains f then 1 else 2
  | _ => 2
 | _ => 2
def wpMix (qs : List Nat) (P : Program) (ops : Array Oper) (Q : Exit → Act → World → Prop) : List Oper → Act → World → Prop
 | [], a, w => Q .normal a w
 | o :: rest, a, w =>
  if cls qs o = 2 then (if Region.wanted o (yielded ops a.tmps) then o.wp P a w (wpMix qs P ops Q rest) Q else wpMix qs P ops Q rest (a.put o.dst undef) w)
  else (if Region.wanted o (yielded ops a.tmps) then o.still P a w (fun a' => wpMix qs P ops Q rest a' w) else wpMix qs P ops Q rest (a.put o.dst undef) w)
section
variable {qs : List Nat} {P : Program} {ops : Array Oper} {Q : Exit → Act → World → Prop} {a : Act} {w : World} {rest : List Oper} {o : Oper}
theorem wpMix_nil (h : Q .normal a w) : wpMix qs P ops Q [] a w := h
theorem jE (hc : (cls qs o == 2) = false)
 (h : ∀ K : Act → Prop, (∀ a', wpMix qs P ops Q rest a' w → K a') → if Region.wanted o (yielded ops a.tmps) then o.still P a w K else K (a.put o.dst undef)) : wpMix qs P ops Q (o :: rest) a w := by
 unfold wpMix;rw [if_neg (by simpa using hc)];exact h _ fun _ h => h
theorem pL (hc : (cls qs o == 2) = true)
 (h : ∀ K : Act → World → Prop, (∀ a' w', wpMix qs P ops Q rest a' w' → K a' w') → if Region.wanted o (yielded ops a.tmps) then o.wp P a w K Q else K (a.put o.dst undef) w) : wpMix qs P ops Q (o :: rest) a w := by
 unfold wpMix;rw [if_pos (by simpa using hc)];exact h _ fun _ _ h => h
end
/-- panics and the rest are shut out -/
def calm (Q : Exit → Act → World → Prop) : Exit → Act → World → Prop
 | .panic _, _, _ => False
 | .outgrown, _, _ => False
 | e, a, w => Q e a w
theorem oZ {Q : Exit → Act → World → Prop} : ∀ e a w, calm Q e a w → Q e a w
 | .normal, _, _, h => h
 | .exit _, _, _, h => h
 | .goto _, _, _, h => h
 | .ret, _, _, h => h
def isEv (qs : List Nat) (ops : Array Oper) (j : Nat) : Bool := match ops[j]? with | some o => cls qs o == 2 | none => false
/-- those that wait for k, one way or the other (one pass) -/
def blocked (ops : Array Oper) (k : Nat) : List Nat :=
 (List.range ops.size).foldl (fun B j => if j == k || ((ops[j]?).map (·.after.any fun e => Region.binds .any e && B.contains e.on)).getD false then j :: B else B) []
def blockOK (ops : Array Oper) (k : Nat) (B : List Nat) : Bool :=
 B.contains k && B.all fun j => j == k || ((ops[j]?).map (·.after.any fun e => Region.binds .any e && B.contains e.on)).getD false
def noOver (qs : List Nat) (ops : Array Oper) (listed : Array Bool) (k : Nat) : Bool :=
 let B := blocked ops k
 blockOK ops k B && B.all (fun j => !listed.getD j true) && (List.range ops.size).all fun j => listed.getD j true || B.contains j || !isEv qs ops j
def lexM (qs : List Nat) (ops : Array Oper) : Nat → Nat → Array Bool → Bool
 | 0, _, listed => (Region.ready .any ops listed).isEmpty
 | f + 1, k, listed => (match ops[k]? with
  | none => false
  | some o => if cls qs o == 2 then Region.ready .any ops listed == [k] else (Region.ready .any ops listed).contains k && Region.free .any ops listed k && (cls qs o == 0 || noOver qs ops listed k)) &&
  lexM qs ops f (k + 1) (listed.setIfInBounds k true)
def mixB (qs : List Nat) (ops : Array Oper) : Bool := Region.noSelect ops && lexM qs ops ops.size 0 (Array.replicate ops.size false)
section
variable {qs : List Nat} {P : Program} {ops : Array Oper} {Q : Exit → Act → World → Prop}
def opM (qs : List Nat) (P : Program) (ops : Array Oper) (Q : Exit → Act → World → Prop) (i : Nat) (K : Act → World → Prop) (a : Act) (w : World) : Prop :=
 if isEv qs ops i then wpOp P ops Q i K a w else stOp P ops w i (fun a' => K a' w) a
theorem opM_mono {i : Nat} {a : Act} {w : World} {K K' : Act → World → Prop} (h : ∀ a w, K a w → K' a w) (hh : opM qs P ops Q i K a w) : opM qs P ops Q i K' a w := by
 unfold opM at *
 split
 ·rename_i hc; rw [if_pos hc] at hh; exact wpOp_mono h hh
 ·rename_i hc; rw [if_neg hc] at hh; exact stOp_mono (fun a => h a w) hh
def anyM (qs : List Nat) (P : Program) (ops : Array Oper) (Q : Exit → Act → World → Prop) : Nat → Array Bool → Act → World → Prop
 | 0, listed, a, w => Region.ready .any ops listed = [] ∧ Q .normal a w
 | fuel + 1, listed, a, w =>
  (Region.ready .any ops listed = [] → Q .normal a w) ∧
  ∀ i ∈ Region.ready .any ops listed, opM qs P ops Q i (anyM qs P ops Q fuel (listed.setIfInBounds i true)) a w
theorem iE : ∀ (fuel : Nat) (listed : Array Bool) (a : Act) (w : World), anyM qs P ops Q fuel listed a w → wpAny P .any ops Q fuel listed a w
 | 0, _, _, _, h => h
 | fuel + 1, listed, a, w, h => ⟨h.1, fun i hi => by
  have h1 := h.2 i hi;unfold opM at h1
  split at h1
  ·exact wpOp_mono (fun a w => iE fuel _ a w) h1
  ·exact wpOp_of_stOp (fun a' => iE fuel _ a' w) h1⟩
theorem nT {i : Nat} {oj : Oper} {listed : Array Bool} (hr : i ∈ Region.ready .any ops listed)
 (hall : ∀ e ∈ oj.after, Region.binds .any e = true → listed.getD e.on false = true) : ∀ e ∈ oj.after, Region.binds .any e = true → e.on ≠ i := fun e he hb heq => by
 have h1 := hall e he hb;have h0 := (mem_ready.1 hr).1;rw [heq] at h1;rcases Nat.lt_or_ge i listed.size with h' | h'
 ·simp [h'] at h0 h1; rw [h0] at h1; cases h1
 ·simp [Array.getElem?_eq_none h'] at h1
theorem mT {i j : Nat} {oi : Oper} {listed : Array Bool}
 (hfree : ∀ j oj, ops[j]? = some oj → j ≠ i → listed.getD j true = false → (∀ e ∈ oj.after, Region.binds .any e = true → e.on ≠ i) → oi.apart ops oj = true)
 (hjun : listed.getD j true = false) : ∀ k ok, ops[k]? = some ok → k ≠ i → (listed.setIfInBounds j true).getD k true = false →
 (∀ e ∈ ok.after, Region.binds .any e = true → e.on ≠ i) → oi.apart ops ok = true := fun k ok hk hki hun hno => by
 refine hfree k ok hk hki ?_ hno
 by_cases hjk : j = k
 ·subst hjk; exact hjun
 ·rw [getD_set_ne true hjk] at hun; exact hun
/-- a bare move may be taken first -/
theorem nW {i : Nat} {oi : Oper} {v : Value} (hi : ops[i]? = some oi) (hev : isEv qs ops i = false) (hsel : ∀ (j : Nat) (o : Oper) cs b, ops[j]? = some o → o.op ≠ .select cs b)
 (hQ : ∀ c a w, Q (.panic c) (a.put oi.dst v) w → Q (.panic c) a w) :
 ∀ (fuel : Nat) (listed : Array Bool) (a : Act) (w : World),
  (∀ j oj, ops[j]? = some oj → j ≠ i → listed.getD j true = false → (∀ e ∈ oj.after, Region.binds .any e = true → e.on ≠ i) → oi.apart ops oj = true) →
  i ∈ Region.ready .any ops listed → Yields P ops oi v a →
  anyM qs P ops Q fuel (listed.setIfInBounds i true) (a.put oi.dst v) w → anyM qs P ops Q (fuel + 1) listed a w := by
 have at_ : ∀ (w : World) (a : Act), Yields P ops oi v a → YieldsAt P ops w oi v a := fun w a hy => by
  rcases hy with ⟨h1, h2⟩ | h
  ·exact .inl ⟨h1, .inl (h2 w)⟩
  ·exact .inr h
 intro fuel
 induction fuel with
 | zero =>
  intro listed a w _ hr hy H;refine ⟨fun h => (by rw [h] at hr; cases hr), fun j hj => ?_⟩
  by_cases hji : j = i
  ·subst hji; unfold opM; rw [hev, if_neg (by simp)]; exact (at_ w a hy).stOp hi H
  ·have := ready_mono hj hji;rw [H.1] at this;cases this
 | succ fuel ih =>
  intro listed a w hfree hr hy H;refine ⟨fun h => (by rw [h] at hr; cases hr), fun j hj => ?_⟩
  by_cases hji : j = i
  ·subst hji; unfold opM; rw [hev, if_neg (by simp)]; exact (at_ w a hy).stOp hi H
  ·have h1 := H.2 j (ready_mono hj hji);obtain ⟨hjun, oj, hoj, hall⟩ := mem_ready.1 hj;have hap := hfree j oj hoj hji hjun (nT hr hall)
   have step : ∀ a' w', Yields P ops oi v a' → anyM qs P ops Q fuel ((listed.setIfInBounds i true).setIfInBounds j true) (a'.put oi.dst v) w' → anyM qs P ops Q (fuel + 1) (listed.setIfInBounds j true) a' w' := fun a' w' hy' H' =>
    ih (listed.setIfInBounds j true) a' w' (mT hfree hjun) (ready_mono hr (Ne.symm hji)) hy' (by rw [Array.setIfInBounds_comm _ _ hji]; exact H')
   unfold opM at h1 ⊢
   split
   ·rename_i hc
    rw [if_pos hc] at h1;exact wpOp_mono (fun a' w' h3 => step a' w' h3.1 h3.2) (wpOp_put hoj hap (fun cs b => hsel i oi cs b hi) (fun cs b => hsel j oj cs b hoj) hQ hy h1)
   ·rename_i hc
    rw [if_neg hc] at h1;obtain ⟨_, _, h3⟩ := Oper.apart_spec hap;have keep : ∀ u, Yields P ops oi v (a.put oj.dst u) := fun u => hy.of_same (execOp_put oi (fun cs b => hsel i oi cs b hi) a oj.dst u h3) (wanted_put oi a oj.dst u h3);obtain ⟨u, hyj, hK⟩ := yieldsAt_of_stOp hoj (stOp_put hoj hap (fun cs b => hsel i oi cs b hi) (fun cs b => hsel j oj cs b hoj) (at_ w a hy) h1);exact hyj.stOp hoj (step _ w (keep u) hK.2)
/-- one that leaves the world alone may be taken first, as long as none that turns it can come ahead of it -/
theorem tS {i : Nat} {oi : Oper} {v : Value} {B : List Nat} (hi : ops[i]? = some oi) (hev : isEv qs ops i = false) (hsel : ∀ (j : Nat) (o : Oper) cs b, ops[j]? = some o → o.op ≠ .select cs b)
 (hB : blockOK ops i B = true) :
 ∀ (fuel : Nat) (listed : Array Bool) (a : Act) (w : World),
  (∀ j oj, ops[j]? = some oj → j ≠ i → listed.getD j true = false → (∀ e ∈ oj.after, Region.binds .any e = true → e.on ≠ i) → oi.apart ops oj = true) →
  (∀ j ∈ B, listed.getD j true = false) → (∀ j, listed.getD j true = false → j ∉ B → isEv qs ops j = false) →
  i ∈ Region.ready .any ops listed → YieldsAt P ops w oi v a →
  anyM qs P ops Q fuel (listed.setIfInBounds i true) (a.put oi.dst v) w → anyM qs P ops Q (fuel + 1) listed a w := by
 simp only [blockOK, Bool.and_eq_true, List.all_eq_true, List.contains_iff_mem, Bool.or_eq_true, beq_iff_eq] at hB;obtain ⟨hiB, hall'⟩ := hB
 have notB : ∀ (listed : Array Bool) (j : Nat), (∀ j ∈ B, listed.getD j true = false) → j ≠ i → j ∈ Region.ready .any ops listed → j ∉ B := by
  intro listed j hun hji hj hjB;obtain ⟨_, oj, hoj, hall⟩ := mem_ready.1 hj;rcases hall' j hjB with h | h
  ·exact hji h
  ·simp only [hoj, Option.map_some, Option.getD_some, Array.any_eq_true', Bool.and_eq_true, List.contains_iff_mem] at h;obtain ⟨e, he, hb, hin⟩ := h;have h2 := hall e he hb;have h3 := hun _ hin;rcases Nat.lt_or_ge e.on listed.size with h' | h'
   ·simp [h'] at h2 h3; rw [h2] at h3; cases h3
   ·simp [Array.getElem?_eq_none h'] at h2
 intro fuel
 induction fuel with
 | zero =>
  intro listed a w _ _ _ hr hy H;refine ⟨fun h => (by rw [h] at hr; cases hr), fun j hj => ?_⟩
  by_cases hji : j = i
  ·subst hji; unfold opM; rw [hev, if_neg (by simp)]; exact hy.stOp hi H
  ·have := ready_mono hj hji;rw [H.1] at this;cases this
 | succ fuel ih =>
  intro listed a w hfree hun hevs hr hy H;refine ⟨fun h => (by rw [h] at hr; cases hr), fun j hj => ?_⟩
  by_cases hji : j = i
  ·subst hji; unfold opM; rw [hev, if_neg (by simp)]; exact hy.stOp hi H
  ·have h1 := H.2 j (ready_mono hj hji);obtain ⟨hjun, oj, hoj, hall⟩ := mem_ready.1 hj;have hjB := notB listed j hun hji hj;have hap := hfree j oj hoj hji hjun (nT hr hall);have hjev := hevs j hjun hjB;unfold opM at h1 ⊢;rw [hjev, if_neg (by simp)] at h1 ⊢;have h2 := stOp_put hoj hap (fun cs b => hsel i oi cs b hi) (fun cs b => hsel j oj cs b hoj) hy h1;refine stOp_mono (fun a' h3 => ih (listed.setIfInBounds j true) a' w (mT hfree hjun) ?_ ?_ (ready_mono hr (Ne.symm hji)) h3.1 ?_) h2
   ·intro x hx;have hne : j ≠ x := fun e => hjB (by rw [e]; exact hx)
    rw [getD_set_ne true hne]; exact hun x hx
   ·intro x hx hxB;refine hevs x ?_ hxB
    by_cases hjx : j = x
    ·subst hjx; exact hjun
    ·rw [getD_set_ne true hjx] at hx; exact hx
   ·rw [Array.setIfInBounds_comm _ _ hji];exact h3.2
theorem sE {k : Nat} {o : Oper} (h : ops[k]? = some o) : isEv qs ops k = (cls qs o == 2) := by simp [isEv, h]
theorem pK {o : Oper} {a : Act} {w : World} {v : Value} (hc : cls qs o = 0) (hy : YieldsAt P ops w o v a) : Yields P ops o v a := by
  obtain ⟨dst, op, type, pos, after, guard⟩ := o
  have h0 : (∃ x, op = .move x) ∨ (∃ x, op = .assign x) := by
    revert hc
    unfold cls
    cases op <;> simp only [] <;> first
      | (intro _; exact .inl ⟨_, rfl⟩)
      | (intro _; exact .inr ⟨_, rfl⟩)
      | (intro h; cases h)
      | (intro h; exfalso; revert h; repeat' split
         all_goals (intro h; cases h))
  clear hc
  rcases hy with ⟨hw, h⟩ | h
  · refine .inl ⟨hw, ?_⟩
    rcases h0 with ⟨x, rfl⟩ | ⟨x, rfl⟩ <;>
      (simp only [execOp, Sem.run_pure, Result.ok.injEq, Next.value.injEq, and_true] at h ⊢
       intro _
       rcases h with h | ⟨h, _⟩ | ⟨_, _, h, _⟩ <;> first | exact h | cases h)
  · exact .inr h
theorem nD (hQ : ∀ c a w, ¬ Q (.panic c) a w) (hs : Region.noSelect ops = true) : ∀ (l : List Oper) (k : Nat) (listed : Array Bool) (a : Act) (w : World), (∀ j, l[j]? = ops[k + j]?) →
 lexM qs ops l.length k listed = true → wpMix qs P ops Q l a w → anyM qs P ops Q l.length listed a w
 | [], _, _, _, _, _, hB, h => ⟨by simpa [lexM] using hB, h⟩
 | o :: l, k, listed, a, w, hl, hB, h => by
  have h0 : ops[k]? = some o := by simpa using (hl 0).symm
  have hl' : ∀ j, l[j]? = ops[k + 1 + j]? := fun j => by have := hl (j + 1); simpa [Nat.add_assoc, Nat.add_comm 1 j] using this
  have hsel := Region.noSelect_spec hs;have hcls := sE (qs := qs) h0;simp only [List.length_cons, lexM, h0, Bool.and_eq_true] at hB;obtain ⟨hB0, hB1⟩ := hB;unfold wpMix at h
  by_cases hc : cls qs o = 2
  ·rw [if_pos hc] at h;rw [if_pos (by simpa using hc)] at hB0;have hr : Region.ready .any ops listed = [k] := by simpa using hB0
   refine ⟨fun h1 => (by rw [h1] at hr; cases hr), fun i hi => ?_⟩;rw [hr] at hi;have hik : i = k := by simpa using hi
   subst hik;unfold opM;rw [hcls, hc, if_pos (by simp)]
   have hw : wpOp P ops Q i (wpMix qs P ops Q l) a w := by
    unfold wpOp; simp only [h0]
    split
    ·rename_i hw; rw [if_pos hw] at h; exact .inl h
    ·rename_i hw; rw [if_neg hw] at h; exact h
   exact wpOp_mono (fun a' w' h' => nD hQ hs l (i + 1) _ a' w' hl' hB1 h') hw
  ·rw [if_neg hc] at h;rw [if_neg (by simpa using hc)] at hB0;simp only [Bool.and_eq_true, Bool.or_eq_true, beq_iff_eq] at hB0;obtain ⟨⟨hr, hf⟩, hno⟩ := hB0
   have hev : isEv qs ops k = false := by rw [hcls]; simpa using hc
   have hst : stOp P ops w k (fun a' => wpMix qs P ops Q l a' w) a := by unfold stOp; simp only [h0]; exact h
   obtain ⟨v, hy, hK⟩ := yieldsAt_of_stOp h0 hst;have IH := nD hQ hs l (k + 1) _ _ w hl' hB1 hK;rcases hno with hno | hno
   ·exact nW h0 hev hsel (fun c a w hh => absurd hh (hQ c _ w)) l.length listed a w (Region.free_spec h0 hf) (by simpa using hr) (pK hno hy) IH
   ·simp only [noOver, Bool.and_eq_true, List.all_eq_true, Bool.not_eq_true', List.mem_range, Bool.or_eq_true, List.contains_iff_mem] at hno;obtain ⟨⟨hok, hun⟩, hevs⟩ := hno;refine tS h0 hev hsel hok l.length listed a w (Region.free_spec h0 hf) hun ?_ (by simpa using hr) hy IH;intro j hj hjB;rcases Nat.lt_or_ge j ops.size with hlt | hge
    ·rcases hevs j hlt with (h1 | h1) | h1
     ·rw [hj] at h1; cases h1
     ·exact absurd h1 hjB
     ·exact h1
    ·simp [isEv, Array.getElem?_eq_none hge]
/-- A REGION THAT DRAWS ITS ORDER, WALKED IN THE ORDER OF ITS TEXT -/
theorem nH {id : Nat} {Q : Exit → Act → World → Prop} {a : Act} {w : World} {l : List Oper} (qs : List Nat) (hm : P.follows .mixedOrders = true) (hB : mixB qs l.toArray = true)
 (h : wpMix qs P l.toArray (calm Q) l a w.drew) : (Code.region id l.toArray true).wp P Q a w := by
 simp only [mixB, Bool.and_eq_true] at hB;refine Code.wp_mono oZ (wp_region_any hm (iE (qs := qs) _ _ _ _ ?_))
 change wpMix qs P l.toArray (calm Q) l a { w with drawn := w.drawn + 1 } at h
 have := nD (P := P) (Q := calm Q) (fun _ _ _ h => h) hB.1 l 0 (Array.replicate l.toArray.size false) a { w with drawn := w.drawn + 1 } (by simp) (by simpa using hB.2) h
 simpa using this
end
end Go.Proofs.YtccicbpeajdjgaaGreatDoor.Mix
namespace Go.Proofs.YtccicbpeajdjgaaGreatDoor.Mix
open Go
/-- an operation without its edges -/
def upS (P : Program) (dst : Option Tmp) (a : Act) (w : World) (next : Act → Prop) : Result Next → Prop
 | .ok (.value v) w' => w' = w ∧ next (a.put dst v)
 | .ok .skip w' => w' = w ∧ next (a.put dst undef)
 | .ok (.enter f args) w' => w' = w ∧ ∃ v, Calls P f args w (fun e w'' => e = .returned v ∧ w'' = w) ∧ next (a.put dst v)
 | _ => False
def upE (P : Program) (dst : Option Tmp) (a : Act) (next : Act → World → Prop) : Result Next → Prop
 | .ok (.value v) w' => next (a.put dst v) w'
 | .ok .skip w' => next (a.put dst undef) w'
 | .ok (.enter f args) w' => Calls P f args w' fun e w'' => match e with
  | .returned v => next (a.put dst v) w''
  | _ => False
 | _ => False
section
variable {qs : List Nat} {P : Program} {ops : Array Oper} {Q : Exit → Act → World → Prop} {a : Act} {w : World} {rest : List Oper}
variable {dst : Option Tmp} {op : Op} {ty : TypeId} {pos : String} {aft : Array Edge}
theorem wpMix_move {x : Operand} (h : wpMix qs P ops Q rest (a.put dst (a.eval x)) w) : wpMix qs P ops Q (⟨dst, .move x, ty, pos, aft, none⟩ :: rest) a w := by
 refine jE (by simp [cls]) fun K hK => ?_;simp only [Region.wanted, if_true, Oper.still, execOp, Sem.run_pure, Oper.stillUpon];exact ⟨trivial, hK _ h⟩
theorem wpMix_assign {x : Operand} (h : wpMix qs P ops Q rest (a.put dst (a.eval x)) w) : wpMix qs P ops Q (⟨dst, .assign x, ty, pos, aft, none⟩ :: rest) a w := by
 refine jE (by simp [cls]) fun K hK => ?_;simp only [Region.wanted, if_true, Oper.still, execOp, Sem.run_pure, Oper.stillUpon];exact ⟨trivial, hK _ h⟩
theorem dN (ρ : Operand → Value) (g : Option (Nat × Bool)) : execOp ρ ⟨dst, op, ty, pos, aft, g⟩ = execOp ρ ⟨none, op, ty, "", #[], none⟩ := by
 cases op <;> rfl
theorem rR (hc : (cls qs ⟨none, op, ty, "", #[], none⟩ == 2) = false)
 (h : ∀ K : Act → Prop, (∀ a', wpMix qs P ops Q rest a' w → K a') → upS P dst a w K ((execOp a.eval ⟨none, op, ty, "", #[], none⟩).run P w)) : wpMix qs P ops Q (⟨dst, op, ty, pos, aft, none⟩ :: rest) a w := by
 refine jE (o := ⟨dst, op, ty, pos, aft, none⟩) hc fun K hK => ?_;have h1 := h K hK;simp only [Region.wanted, if_true, Oper.still];rw [dN]
 revert h1
 generalize (execOp a.eval ⟨none, op, ty, "", #[], none⟩).run P w = r
 cases r with
 | ok n w' => cases n <;> exact fun h => h
 | halt x w' => exact fun h => h
theorem oE (hc : (cls qs ⟨none, op, ty, "", #[], none⟩ == 2) = true)
 (h : ∀ K : Act → World → Prop, (∀ a' w', wpMix qs P ops Q rest a' w' → K a' w') → upE P dst a K ((execOp a.eval ⟨none, op, ty, "", #[], none⟩).run P w)) : wpMix qs P ops Q (⟨dst, op, ty, pos, aft, none⟩ :: rest) a w := by
 refine pL (o := ⟨dst, op, ty, pos, aft, none⟩) hc fun K hK => ?_;have h1 := h K hK;simp only [Region.wanted, if_true, Oper.wp];rw [dN]
 revert h1
 generalize (execOp a.eval ⟨none, op, ty, "", #[], none⟩).run P w = r
 cases r with
 | ok n w' =>
  cases n <;> first
   | exact fun h => h
   | exact fun h => h.elim
   | exact fun h => Calls.mono h fun e w'' he => by cases e <;> first | exact he | exact he.elim
 | halt x w' => exact fun h => h.elim
end
attribute [go_sem] upS upE
end Go.Proofs.YtccicbpeajdjgaaGreatDoor.Mix
namespace Go.Proofs.YtccicbpeajdjgaaGreatDoor.Vm
open Go Mix
abbrev Kn := List (Nat × Value)
/-- what a slot is known to hold: the first entry counts -/
def look : Kn → Nat → Option Value
 | [], _ => none
 | (d, v) :: l, t => bif Nat.beq d t then some v else look l t
def ev (l : Kn) : Operand → Option Value
 | .tmp t => look l t
 | .const v => some v
 | .global g => some (.pointer (some ⟨g, 0, none⟩))
 | .func f => some (.func (.func f) #[] #[])
/-- a frame of n slots with these deferred calls holds what is listed -/
structure Fr (a : Act) (n : Nat) (ds : List Deferred) (l : Kn) : Prop where
 defers : a.defers = ds
 size : a.tmps.size = n
 get : ∀ t v, look l t = some v → a.tmps.getD t undef = v
def subK (l : Kn) : Kn → Prop
 | [] => True
 | (d, v) :: r => look l d = some v ∧ subK l r
theorem pY {l : Kn} : ∀ {r : Kn}, subK l r → ∀ t v, look r t = some v → look l t = some v
 | [], _, _, _, h => by cases h
 | (d, u) :: r, hs, t, v, h => by
  obtain ⟨h0, h1⟩ := hs;unfold look at h;cases hb : Nat.beq d t with
  | true =>
   rw [hb] at h;have : d = t := Nat.eq_of_beq_eq_true hb;subst this;exact h0.trans h
  | false => rw [hb] at h; exact pY h1 t v h
section
variable {a : Act} {n : Nat} {ds : List Deferred} {l : Kn}
theorem Fr.sub {r : Kn} (h : Fr a n ds l) (hs : subK l r) : Fr a n ds r := ⟨h.defers, h.size, fun t v hv => h.get t v (pY hs t v hv)⟩
theorem Fr.ev (h : Fr a n ds l) {x : Operand} {v : Value} (hx : ev l x = some v) : a.eval x = v := by
 cases x with
 | tmp t => exact h.get t v hx
 | const u => exact Option.some.inj hx
 | global g => exact Option.some.inj hx
 | func f => exact Option.some.inj hx
theorem Fr.put (h : Fr a n ds l) {d : Nat} (hd : Nat.blt d n = true) (v : Value) : Fr (a.put (some d) v) n ds ((d, v) :: l) := by
 have hdn : d < a.tmps.size := by rw [h.size]; simpa using hd
 refine ⟨h.defers, by simp [Act.put, h.size], fun t u hu => ?_⟩;unfold look at hu;cases hb : Nat.beq d t with
 | true =>
  rw [hb] at hu;have : d = t := Nat.eq_of_beq_eq_true hb;subst this;simp only [cond_true, Option.some.injEq] at hu;subst hu
  simp [Act.put, hdn]
 | false =>
  rw [hb] at hu
  have hne : d ≠ t := fun e => by subst e; simp at hb
  have := h.get t u hu
  simpa [Act.put, Array.getElem?_setIfInBounds_ne hne] using this
end
/-- what stands behind the code that is walked -/
inductive KI where
 | seq (y : Code)
 | block (id : Nat)
 | loop (I : Nat → Act → World → Prop) (k : Nat)
def post (P : Program) (B : Exit → Act → World → Prop) : List KI → Exit → Act → World → Prop
 | [] => B
 | .seq y :: ks => Exit.then (fun a w => y.wp P (post P B ks) a w) (post P B ks)
 | .block id :: ks => Exit.inBlock id (post P B ks)
 | .loop I k :: ks => Exit.then (fun a w => ∃ k', k' < k ∧ I k' a w) (post P B ks)
def exitK (id : Nat) : List KI → Option (List KI)
 | [] => none
 | .block i :: ks => bif Nat.beq id i then some ks else exitK id ks
 | _ :: ks => exitK id ks
theorem jQ {P : Program} {B : Exit → Act → World → Prop} {id : Nat} {ks' : List KI} {a : Act} {w : World} (h : post P B ks' .normal a w) :
 ∀ ks, exitK id ks = some ks' → post P B ks (.exit id) a w
 | [], h => by cases h
 | .seq _ :: ks, hk => jQ h ks hk
 | .loop _ _ :: ks, hk => jQ h ks hk
 | .block i :: ks, hk => by
  unfold exitK at hk;cases hb : Nat.beq id i with
  | true =>
   rw [hb] at hk;simp only [cond_true, Option.some.injEq] at hk;subst hk;simp only [post, Exit.inBlock, if_pos (Nat.eq_of_beq_eq_true hb)];exact h
  | false =>
   rw [hb] at hk
   have hne : id ≠ i := fun e => by subst e; simp at hb
   simp only [post, Exit.inBlock, if_neg hne];exact jQ h ks hk
theorem kR {P : Program} {B : Exit → Act → World → Prop} {a : Act} {w : World} (h : B .ret a w) : ∀ ks, post P B ks .ret a w
 | [] => h
 | .seq _ :: ks => kR h ks
 | .loop _ _ :: ks => kR h ks
 | .block _ :: ks => kR h ks
structure Cx where
 P : Program
 n : Nat
 B : Exit → Act → World → Prop
def WC (X : Cx) (c : Code) (ks : List KI) (ds : List Deferred) (l : Kn) (w : World) : Prop := ∀ a, Fr a X.n ds l → c.wp X.P (post X.P X.B ks) a w
def WN (X : Cx) (ks : List KI) (ds : List Deferred) (l : Kn) (w : World) : Prop := ∀ a, Fr a X.n ds l → post X.P X.B ks .normal a w
def WR (X : Cx) (m : Option (List Nat)) (ops : Array Oper) (rest : List Oper) (ks : List KI) (ds : List Deferred) (l : Kn) (w : World) : Prop :=
 ∀ a, Fr a X.n ds l → match m with
  | none => wpList X.P ops (post X.P X.B ks) rest a w
  | some qs => wpMix qs X.P ops (calm (post X.P X.B ks)) rest a w
/-- a call that comes back -/
def Ret (P : Program) (f : FuncId) (args : Array Value) (w : World) (R : Value → World → Prop) : Prop := Calls P f args w fun e w' => ∃ v, e = .returned v ∧ R v w'
theorem Ret.mono {P : Program} {f : FuncId} {args : Array Value} {w : World} {R R' : Value → World → Prop} (h : Ret P f args w R) (hr : ∀ v w', R v w' → R' v w') : Ret P f args w R' :=
 Calls.mono h fun _ _ ⟨v, e, hv⟩ => ⟨v, e, hr v _ hv⟩
/-- the frame at a function's head -/
def args0 : Nat → List Value → Kn
 | _, [] => []
 | i, v :: vs => (i, v) :: args0 (i + 1) vs
theorem mS : ∀ (vs : List Value) (i t : Nat) (v : Value), look (args0 i vs) t = some v → i ≤ t ∧ vs[t - i]? = some v
 | [], _, _, _, h => by cases h
 | u :: vs, i, t, v, h => by
  unfold args0 look at h;cases hb : Nat.beq i t with
  | true =>
   rw [hb] at h;have : i = t := Nat.eq_of_beq_eq_true hb;subst this
   simpa using h
  | false =>
   rw [hb] at h;obtain ⟨h1, h2⟩ := mS vs (i + 1) t v h;refine ⟨by omega, ?_⟩;rw [show t - i = (t - (i + 1)) + 1 by omega]
   simpa using h2
theorem Fr.enter (n : Nat) (vs : List Value) (h : vs.length ≤ n) : Fr ⟨vs.toArray ++ Array.replicate (n - vs.toArray.size) undef, []⟩ n [] (args0 0 vs) := by
 refine ⟨rfl, by simp; omega, fun t v hv => ?_⟩;obtain ⟨_, h2⟩ := mS vs 0 t v hv
 have hlt : t < vs.length := by
  rcases Nat.lt_or_ge t vs.length with h | h
  ·exact h
  ·simp [h] at h2
 simp only [Nat.sub_zero] at h2;rw [Array.getD_eq_getD_getElem?, Array.getElem?_append_left (by simpa using hlt)]
 simp [h2]
theorem aS {P : Program} {f : FuncId} {fn : Func} {n : Nat} {c : Code} {vs : List Value} {w : World} {R : Value → World → Prop} (hf : P.funcs[f]? = some fn) (hn : fn.ntmps = n) (hb : fn.body = some c)
 (hl : Nat.ble vs.length n = true) (h : WC ⟨P, n, bodyPost P fn fun e w' => ∃ v, e = .returned v ∧ R v w'⟩ c [] [] (args0 0 vs) w) : Ret P f vs.toArray w R := by
 refine calls_of_wp hf hb ?_;rw [hn];exact h _ (Fr.enter n vs (by simpa using hl))
section
variable {X : Cx} {c x y : Code} {ks ks' : List KI} {ds : List Deferred} {l l' : Kn} {w : World} {id : Nat}
theorem aD (h : WC X x (.seq y :: ks) ds l w) : WC X (.seq x y) ks ds l w := fun a ha => wp_seq (h a ha)
theorem aB {lo : List Oper} (h : WR X none lo.toArray lo ks ds l w) : WC X (.region id lo.toArray false) ks ds l w := fun a ha => wp_region_lit (h a ha)
theorem cP {lo : List Oper} (qs : List Nat) (hm : X.P.follows .mixedOrders = true) (hB : mixB qs lo.toArray = true) (h : WR X (some qs) lo.toArray lo ks ds l w.drew) : WC X (.region id lo.toArray true) ks ds l w :=
 fun a ha => nH qs hm hB (h a ha)
theorem bN (h : WC X c (.block id :: ks) ds l w) : WC X (.block id c) ks ds l w := fun a ha => wp_block (h a ha)
theorem aX (h : WN X ks ds l w) : WC X .skip ks ds l w := fun a ha => wp_skip (h a ha)
theorem dG (hk : exitK id ks = some ks') (h : WN X ks' ds l w) : WC X (.exit id) ks ds l w := fun a ha => wp_exit (jQ (h a ha) ks hk)
theorem jN (h : ∀ a, Fr a X.n ds l → X.B .ret a w) : WC X .ret ks ds l w := fun a ha => wp_ret (kR (h a ha) ks)
theorem aK {o : Operand} {b : Bool} (hc : ev l o = some (.bool b)) (ht : b = true → WC X x ks ds l w) (hf : b = false → WC X y ks ds l w) : WC X (.cond o x y) ks ds l w :=
 fun a ha => wp_cond_split (ha.ev hc) (fun e => ht e a ha) (fun e => hf e a ha)
theorem WC.weak (l' : Kn) (hs : subK l l') (h : WC X c ks ds l' w) : WC X c ks ds l w := fun a ha => h a (ha.sub hs)
theorem WN.weak (l' : Kn) (hs : subK l l') (h : WN X ks ds l' w) : WN X ks ds l w := fun a ha => h a (ha.sub hs)
theorem aE (h : WC X y ks ds l w) : WN X (.seq y :: ks) ds l w := fun a ha => h a ha
theorem cQ (h : WN X ks ds l w) : WN X (.block id :: ks) ds l w := fun a ha => h a ha
theorem aG {m : Option (List Nat)} {ops : Array Oper} (h : WN X ks ds l w) : WR X m ops [] ks ds l w := fun a ha => by
 cases m with
 | none => exact h a ha
 | some qs => exact h a ha
theorem WN.nil (h : ∀ a, Fr a X.n ds l → X.B .normal a w) : WN X [] ds l w := h
/-- a loop's relation: some known slots that hang on x, and what holds of x and the world -/
def rel {α : Type} (n : Nat) (ds : List Deferred) (L : α → Kn) (Inv : Nat → α → World → Prop) : Nat → Act → World → Prop := fun k a w => ∃ x, Fr a n ds (L x) ∧ Inv k x w
theorem dR {α : Type} (L : α → Kn) (Inv : Nat → α → World → Prop) (k₀ : Nat) (x₀ : α) (hs : subK l (L x₀)) (h₀ : Inv k₀ x₀ w)
 (round : ∀ k x w, Inv k x w → WC X c (.loop (rel X.n ds L Inv) k :: ks) ds (L x) w) : WC X (.loop c) ks ds l w := fun _ ha =>
 wp_loop_ghost (rel X.n ds L Inv) k₀ ⟨x₀, ha.sub hs, h₀⟩ fun k _ w ⟨x, hx, hI⟩ => round k x w hI _ hx
theorem bZ {α : Type} {L : α → Kn} {Inv : Nat → α → World → Prop} {k : Nat} (k' : Nat) (x : α) (hlt : k' < k) (hs : subK l (L x)) (hI : Inv k' x w) : WN X (.loop (rel X.n ds L Inv) k :: ks) ds l w :=
 fun _ ha => ⟨k', hlt, x, ha.sub hs, hI⟩
/-- several ways come together: what follows is walked once -/
theorem WN.meet {α : Type} (L : α → Kn) (Inv : α → World → Prop) (hk : ∀ x w, Inv x w → WN X ks ds (L x) w) (x : α) (hs : subK l (L x)) (hI : Inv x w) : WN X ks ds l w :=
 fun a ha => hk x w hI a (ha.sub hs)
end
/-- results -/
def resK (l : Kn) : List ResultVar → Option (List Value)
 | [] => some []
 | .tmp t :: rs => match look l t, resK l rs with
  | some v, some vs => some (v :: vs)
  | _, _ => none
 | .cell .. :: _ => none
theorem pS {P : Program} {a : Act} {n : Nat} {ds : List Deferred} {l : Kn} {w : World} {g : ResultVar → Sem Value} (hg : ∀ t, g (.tmp t) = pure (a.tmps.getD t undef)) (ha : Fr a n ds l) :
 ∀ {rs : List ResultVar} {vs : List Value}, resK l rs = some vs → (rs.mapM g).run P w = .ok vs w
 | [], vs, h => by simp only [resK, Option.some.injEq] at h; subst h; rfl
 | .tmp t :: rs, vs, h => by
  unfold resK at h;cases hl : look l t with
  | none => rw [hl] at h; cases h
  | some v =>
   cases hr : resK l rs with
   | none => rw [hl, hr] at h; cases h
   | some us =>
    rw [hl, hr] at h;simp only [Option.some.injEq] at h;subst h;have := pS (P := P) (w := w) hg ha hr;rw [List.mapM_cons, hg];simp only [Sem.run_bind, Sem.run_pure, Result.andThen_ok, this, ha.get t v hl]
 | .cell _ _ :: _, _, h => by cases h
def tupV : List Value → Value
 | [v] => v
 | vs => .tuple vs.toArray
theorem iC {P : Program} {fn : Func} {a : Act} {n : Nat} {ds : List Deferred} {l : Kn} {w : World} {rs : List ResultVar} {vs : List Value} (hrs : fn.results = rs.toArray) (ha : Fr a n ds l) (hv : resK l rs = some vs) :
 (results fn a.tmps).run P w = .ok (tupV vs) w := by
 unfold results;rw [hrs, List.mapM_toArray];simp only [map_eq_pure_bind, Sem.run_bind];rw [pS (P := P) (w := w) (fun _ => rfl) ha hv];simp only [Result.andThen_ok, Sem.run_pure]
 match vs with
 | [] => rfl
 | [v] => rfl
 | u :: v :: r => simp [tupV]
theorem ret_of {P : Program} {fn : Func} {R : Value → World → Prop} {n : Nat} {l : Kn} {w : World} {rs : List ResultVar} {vs : List Value} (hrs : fn.results = rs.toArray) (hv : resK l rs = some vs)
 (h : R (tupV vs) w) (a : Act) (ha : Fr a n [] l) : bodyPost P fn (fun e w' => ∃ v, e = .returned v ∧ R v w') .ret a w :=
 ⟨ha.defers, _, iC hrs ha hv, _, rfl, h⟩
theorem end_of {P : Program} {fn : Func} {R : Value → World → Prop} {n : Nat} {l : Kn} {w : World} {rs : List ResultVar} {vs : List Value} (hrs : fn.results = rs.toArray) (hv : resK l rs = some vs)
 (h : R (tupV vs) w) (a : Act) (ha : Fr a n [] l) : bodyPost P fn (fun e w' => ∃ v, e = .returned v ∧ R v w') .normal a w :=
 ⟨ha.defers, _, iC hrs ha hv, _, rfl, h⟩
theorem aZ {P : Program} {fn : Func} {R : Value → World → Prop} {n : Nat} {ks : List KI} {l : Kn} {w : World} {rs : List ResultVar} {vs : List Value} (hrs : fn.results = rs.toArray) (hv : resK l rs = some vs)
 (h : R (tupV vs) w) : WC ⟨P, n, bodyPost P fn fun e w' => ∃ v, e = .returned v ∧ R v w'⟩ .ret ks [] l w := jN fun a ha => ret_of hrs hv h a ha
theorem pH {P : Program} {fn : Func} {R : Value → World → Prop} {n : Nat} {l : Kn} {w : World} {rs : List ResultVar} {vs : List Value} (hrs : fn.results = rs.toArray) (hv : resK l rs = some vs)
 (h : R (tupV vs) w) : WN ⟨P, n, bodyPost P fn fun e w' => ∃ v, e = .returned v ∧ R v w'⟩ [] [] l w := fun a ha => end_of hrs hv h a ha
end Go.Proofs.YtccicbpeajdjgaaGreatDoor.Vm
