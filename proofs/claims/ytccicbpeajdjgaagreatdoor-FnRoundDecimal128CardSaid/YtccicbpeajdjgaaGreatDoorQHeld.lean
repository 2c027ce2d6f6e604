/- A region that draws its order, where what is loaded stays as it is until it is loaded: walked in an order that is named, under a condition on the world that every event keeps, save those that wait for all loads. -/
import Derived.Test.YtccicbpeajdjgaaGreatDoorQVmNew
import Derived.OrdersHeld
set_option linter.unusedVariables false
set_option linter.unusedSimpArgs false
namespace Go.Proofs.YtccicbpeajdjgaaGreatDoor.Mix
open Go
/-- the events listed wait for operation number k -/
def exOK (ops : Array Oper) (ex : List Nat) (k : Nat) : Bool := ex.all fun j => match ops[j]? with
 | none => true
 | some o => o.after.any fun e => Region.binds .any e && Nat.beq e.on k
theorem tL {ops : Array Oper} {ex : List Nat} {i j : Nat} {oj : Oper} (h : exOK ops ex i = true) (hj : ops[j]? = some oj) (hn : ∀ e ∈ oj.after, Region.binds .any e = true → e.on ≠ i) : ex.contains j = false := by
 cases hc : ex.contains j with
 | false => rfl
 | true =>
  have hm : j ∈ ex := by simpa using hc
  have h1 := List.all_eq_true.1 h j hm;simp only [hj] at h1;obtain ⟨e, he, hb⟩ := Array.any_eq_true'.1 h1;simp only [Bool.and_eq_true] at hb;exact absurd (Nat.eq_of_beq_eq_true hb.2) (hn e he hb.1)
section
variable {P : Program} {ops : Array Oper} {Q : Exit → Act → World → Prop} {S : World → Prop} {ex : List Nat}
/-- whatever order comes up, the condition S behind each operation but those listed -/
def anyX (P : Program) (ops : Array Oper) (Q : Exit → Act → World → Prop) (S : World → Prop) (ex : List Nat) : Nat → Array Bool → Act → World → Prop
 | 0, listed, a, w => Region.ready .any ops listed = [] ∧ Q .normal a w
 | n + 1, listed, a, w => (Region.ready .any ops listed = [] → Q .normal a w) ∧ ∀ i ∈ Region.ready .any ops listed, wpOp P ops Q i (fun a' w' => (ex.contains i = false → S w → S w') ∧ anyX P ops Q S ex n (listed.setIfInBounds i true) a' w') a w
theorem qJ : ∀ (n : Nat) (listed : Array Bool) (a : Act) (w : World), anyX P ops Q S ex n listed a w → wpAny P .any ops Q n listed a w
 | 0, _, _, _, h => h
 | n + 1, _, _, _, h => ⟨h.1, fun i hi => wpOp_mono (fun a' w' h' => qJ n _ a' w' h'.2) (h.2 i hi)⟩
/-- an operation that yields under S is taken first, where those that may come ahead of it keep S -/
theorem nC {i : Nat} {oi : Oper} {v : Value} (hi : ops[i]? = some oi) (hsel : ∀ (j : Nat) (o : Oper) cs b, ops[j]? = some o → o.op ≠ .select cs b)
 (hQ : ∀ c a w, Q (.panic c) (a.put oi.dst v) w → Q (.panic c) a w) (hx : exOK ops ex i = true) :
 ∀ (n : Nat) (listed : Array Bool) (a : Act) (w : World),
  (∀ j oj, ops[j]? = some oj → j ≠ i → listed.getD j true = false → (∀ e ∈ oj.after, Region.binds .any e = true → e.on ≠ i) → oi.apart ops oj = true) →
  i ∈ Region.ready .any ops listed → YieldsIf P ops S oi v a → S w →
  anyX P ops Q S ex n (listed.setIfInBounds i true) (a.put oi.dst v) w → anyX P ops Q S ex (n + 1) listed a w
 | 0, listed, a, w, _, hr, hy, hS, H => by
  refine ⟨fun h => (by rw [h] at hr; cases hr), fun j hj => ?_⟩
  by_cases hji : j = i
  ·subst hji; exact hy.wpOp hi hS ⟨fun _ _ => hS, H⟩
  ·have h9 := ready_mono hj hji;rw [H.1] at h9;cases h9
 | n + 1, listed, a, w, hfree, hr, hy, hS, H => by
  refine ⟨fun h => (by rw [h] at hr; cases hr), fun j hj => ?_⟩
  by_cases hji : j = i
  ·subst hji; exact hy.wpOp hi hS ⟨fun _ _ => hS, H⟩
  ·have h1 := H.2 j (ready_mono hj hji);obtain ⟨hjun, oj, hoj, hall⟩ := mem_ready.1 hj
   have hnot : ∀ e ∈ oj.after, Region.binds .any e = true → e.on ≠ i := fun e he hb heq => by
    have h2 := hall e he hb;have h0 := (mem_ready.1 hr).1;rw [heq] at h2;rcases Nat.lt_or_ge i listed.size with h' | h'
    ·simp [h'] at h0 h2; rw [h0] at h2; cases h2
    ·simp [Array.getElem?_eq_none h'] at h2
   have hjx := tL hx hoj hnot;have h2 := wpOp_putIf hoj (hfree j oj hoj hji hjun hnot) (fun cs b => hsel i oi cs b hi) (fun cs b => hsel j oj cs b hoj) hQ hy h1;refine wpOp_mono (fun a' w' h3 => ⟨h3.2.1, nC hi hsel hQ hx n (listed.setIfInBounds j true) a' w' (fun k ok hk hki hun hno => ?_) (ready_mono hr (Ne.symm hji)) h3.1 (h3.2.1 hjx hS) ?_⟩) h2
   ·refine hfree k ok hk hki ?_ hno
    by_cases hjk : j = k
    ·subst hjk; exact hjun
    ·rw [getD_set_ne true hjk] at hun; exact hun
   ·rw [Array.setIfInBounds_comm _ _ hji];exact h3.2.2
/-- an operation that yields whatever the world is, is taken first -/
theorem lT {i : Nat} {oi : Oper} {v : Value} (hi : ops[i]? = some oi) (hsel : ∀ (j : Nat) (o : Oper) cs b, ops[j]? = some o → o.op ≠ .select cs b)
 (hQ : ∀ c a w, Q (.panic c) (a.put oi.dst v) w → Q (.panic c) a w) :
 ∀ (n : Nat) (listed : Array Bool) (a : Act) (w : World),
  (∀ j oj, ops[j]? = some oj → j ≠ i → listed.getD j true = false → (∀ e ∈ oj.after, Region.binds .any e = true → e.on ≠ i) → oi.apart ops oj = true) →
  i ∈ Region.ready .any ops listed → YieldsIf P ops (fun _ => True) oi v a →
  anyX P ops Q S ex n (listed.setIfInBounds i true) (a.put oi.dst v) w → anyX P ops Q S ex (n + 1) listed a w
 | 0, listed, a, w, _, hr, hy, H => by
  refine ⟨fun h => (by rw [h] at hr; cases hr), fun j hj => ?_⟩
  by_cases hji : j = i
  ·subst hji; exact hy.wpOp hi trivial ⟨fun _ h => h, H⟩
  ·have h9 := ready_mono hj hji;rw [H.1] at h9;cases h9
 | n + 1, listed, a, w, hfree, hr, hy, H => by
  refine ⟨fun h => (by rw [h] at hr; cases hr), fun j hj => ?_⟩
  by_cases hji : j = i
  ·subst hji; exact hy.wpOp hi trivial ⟨fun _ h => h, H⟩
  ·have h1 := H.2 j (ready_mono hj hji);obtain ⟨hjun, oj, hoj, hall⟩ := mem_ready.1 hj
   have hnot : ∀ e ∈ oj.after, Region.binds .any e = true → e.on ≠ i := fun e he hb heq => by
    have h2 := hall e he hb;have h0 := (mem_ready.1 hr).1;rw [heq] at h2;rcases Nat.lt_or_ge i listed.size with h' | h'
    ·simp [h'] at h0 h2; rw [h0] at h2; cases h2
    ·simp [Array.getElem?_eq_none h'] at h2
   have h2 := wpOp_putIf hoj (hfree j oj hoj hji hjun hnot) (fun cs b => hsel i oi cs b hi) (fun cs b => hsel j oj cs b hoj) hQ hy h1;refine wpOp_mono (fun a' w' h3 => ⟨h3.2.1, lT hi hsel hQ n (listed.setIfInBounds j true) a' w' (fun k ok hk hki hun hno => ?_) (ready_mono hr (Ne.symm hji)) h3.1 ?_⟩) h2
   ·refine hfree k ok hk hki ?_ hno
    by_cases hjk : j = k
    ·subst hjk; exact hjun
    ·rw [getD_set_ne true hjk] at hun; exact hun
   ·rw [Array.setIfInBounds_comm _ _ hji];exact h3.2.2
end
/-- orders in which the operations of a region may come -/
inductive OT where
 | nil
 | cons (k : Nat) (t : OT)
 | alt2 (t1 t2 : OT)
 | alt3 (t1 t2 t3 : OT)
def OT.len : OT → Nat
 | .nil => 0
 | .cons _ t => t.len + 1
 | .alt2 t1 _ => t1.len
 | .alt3 t1 _ _ => t1.len
def OT.of : List Nat → OT
 | [] => .nil
 | k :: l => .cons k (OT.of l)
def evB (ops : Array Oper) (k : Nat) : Bool := match ops[k]? with
 | none => false
 | some o => cls [] o == 2
/-- operations that do not look at the world -/
def rigid (o : Oper) : Bool := match o.op with
 | .load .. | .lookup .. | .typeAssert .. | .makeFunc .. | .field .. | .index .. | .makeInterface .. => false
 | _ => true
def lexG (ops : Array Oper) (ex : List Nat) : OT → Array Bool → Bool
 | .nil, listed => (Region.ready .any ops listed).isEmpty
 | .cons k π, listed => (match ops[k]? with
  | none => false
  | some o => if cls [] o == 2 then Region.ready .any ops listed == [k] else (Region.ready .any ops listed).contains k && Region.free .any ops listed k && (rigid o || exOK ops ex k)) &&
  lexG ops ex π (listed.setIfInBounds k true)
 | .alt2 (.cons h1 t1) (.cons h2 t2), listed => (Region.ready .any ops listed == [h1, h2]) && (evB ops h1 && evB ops h2 && Nat.beq t1.len t2.len) && (lexG ops ex t1 (listed.setIfInBounds h1 true) && lexG ops ex t2 (listed.setIfInBounds h2 true))
 | .alt3 (.cons h1 t1) (.cons h2 t2) (.cons h3 t3), listed => (Region.ready .any ops listed == [h1, h2, h3]) && (evB ops h1 && evB ops h2 && evB ops h3 && Nat.beq t1.len t2.len && Nat.beq t1.len t3.len) && (lexG ops ex t1 (listed.setIfInBounds h1 true) && lexG ops ex t2 (listed.setIfInBounds h2 true) && lexG ops ex t3 (listed.setIfInBounds h3 true))
 | _, _ => false
def heldB (ex : List Nat) (π : OT) (ops : Array Oper) : Bool := Nat.beq π.len ops.size && Region.noSelect ops && lexG ops ex π (Array.replicate ops.size false)
def wpHeld (P : Program) (ops : Array Oper) (Q : Exit → Act → World → Prop) (S : World → Prop) (ex : List Nat) : OT → Act → World → Prop
 | .nil, a, w => Q .normal a w
 | .alt2 t1 t2, a, w => wpHeld P ops Q S ex t1 a w ∧ wpHeld P ops Q S ex t2 a w
 | .alt3 t1 t2 t3, a, w => wpHeld P ops Q S ex t1 a w ∧ wpHeld P ops Q S ex t2 a w ∧ wpHeld P ops Q S ex t3 a w
 | .cons k π, a, w => match ops[k]? with
  | none => False
  | some o => if cls [] o = 2 then (if Region.wanted o (yielded ops a.tmps) then o.wp P a w (fun a' w' => (ex.contains k = false → S w → S w') ∧ wpHeld P ops Q S ex π a' w') Q else (ex.contains k = false → S w → S w) ∧ wpHeld P ops Q S ex π (a.put o.dst undef) w)
   else ∃ v, (if rigid o then YieldsIf P ops (fun _ => True) o v a else YieldsIf P ops S o v a ∧ S w) ∧ wpHeld P ops Q S ex π (a.put o.dst v) w
section
variable {P : Program} {ops : Array Oper} {Q : Exit → Act → World → Prop} {S : World → Prop} {ex : List Nat}
theorem jS {k : Nat} {π : OT} {a : Act} {w : World} (he : evB ops k = true) (h : wpHeld P ops Q S ex (.cons k π) a w) : wpOp P ops Q k (fun a' w' => (ex.contains k = false → S w → S w') ∧ wpHeld P ops Q S ex π a' w') a w := by
 unfold evB at he;unfold wpHeld at h;unfold wpOp;cases h0 : ops[k]? with
 | none => rw [h0] at he; cases he
 | some o =>
  simp only [h0] at he h ⊢;rw [if_pos (by simpa using he)] at h
  by_cases hw : Region.wanted o (yielded ops a.tmps) = true
  ·rw [if_pos hw] at h ⊢; exact .inl h
  ·rw [if_neg hw] at h ⊢; exact h
theorem fB (hQ : ∀ c a w, ¬ Q (.panic c) a w) (hs : Region.noSelect ops = true) : ∀ (π : OT) (listed : Array Bool) (a : Act) (w : World),
 lexG ops ex π listed = true → wpHeld P ops Q S ex π a w → anyX P ops Q S ex π.len listed a w
 | .nil, _, _, _, hB, h => ⟨by simpa [lexG] using hB, h⟩
 | .alt2 (.cons h1 t1) (.cons h2 t2), listed, a, w, hB, h => by
  unfold wpHeld at h;simp only [lexG, Bool.and_eq_true] at hB;obtain ⟨⟨hr, ⟨e1, e2⟩, l2⟩, g1, g2⟩ := hB;have hr : Region.ready .any ops listed = [h1, h2] := by simpa using hr
  have l2 := Nat.eq_of_beq_eq_true l2
  show anyX P ops Q S ex (t1.len + 1) listed a w
  refine ⟨fun h => (by rw [h] at hr; cases hr), fun i hi => ?_⟩;rw [hr] at hi;rcases (by simpa using hi : i = h1 ∨ i = h2) with rfl | rfl
  ·exact wpOp_mono (fun a' w' h' => ⟨h'.1, fB hQ hs t1 _ a' w' g1 h'.2⟩) (jS e1 h.1)
  ·rw [l2];exact wpOp_mono (fun a' w' h' => ⟨h'.1, fB hQ hs t2 _ a' w' g2 h'.2⟩) (jS e2 h.2)
 | .alt3 (.cons h1 t1) (.cons h2 t2) (.cons h3 t3), listed, a, w, hB, h => by
  unfold wpHeld at h;simp only [lexG, Bool.and_eq_true] at hB;obtain ⟨⟨hr, ⟨⟨⟨e1, e2⟩, e3⟩, l2⟩, l3⟩, ⟨g1, g2⟩, g3⟩ := hB;have hr : Region.ready .any ops listed = [h1, h2, h3] := by simpa using hr
  have l2 := Nat.eq_of_beq_eq_true l2;have l3 := Nat.eq_of_beq_eq_true l3
  show anyX P ops Q S ex (t1.len + 1) listed a w
  refine ⟨fun h => (by rw [h] at hr; cases hr), fun i hi => ?_⟩;rw [hr] at hi;rcases (by simpa using hi : i = h1 ∨ i = h2 ∨ i = h3) with rfl | rfl | rfl
  ·exact wpOp_mono (fun a' w' h' => ⟨h'.1, fB hQ hs t1 _ a' w' g1 h'.2⟩) (jS e1 h.1)
  ·rw [l2];exact wpOp_mono (fun a' w' h' => ⟨h'.1, fB hQ hs t2 _ a' w' g2 h'.2⟩) (jS e2 h.2.1)
  ·rw [l3];exact wpOp_mono (fun a' w' h' => ⟨h'.1, fB hQ hs t3 _ a' w' g3 h'.2⟩) (jS e3 h.2.2)
 | .cons k π, listed, a, w, hB, h => by
  have h9 := h;cases h0 : ops[k]? with
  | none => simp [lexG, h0] at hB
  | some o =>
   simp only [lexG, h0, Bool.and_eq_true] at hB;obtain ⟨hB0, hB1⟩ := hB
   show anyX P ops Q S ex (π.len + 1) listed a w
   by_cases hc : cls [] o = 2
   ·rw [if_pos (by simpa using hc)] at hB0;have hr : Region.ready .any ops listed = [k] := by simpa using hB0
    refine ⟨fun h1 => (by rw [h1] at hr; cases hr), fun i hi => ?_⟩;rw [hr] at hi;have hik : i = k := by simpa using hi
    subst hik;exact wpOp_mono (fun a' w' h' => ⟨h'.1, fB hQ hs π _ a' w' hB1 h'.2⟩) (jS (by unfold evB; simp [h0, hc]) h9)
   ·unfold wpHeld at h;simp only [h0] at h;rw [if_neg hc] at h;rw [if_neg (by simpa using hc)] at hB0;simp only [Bool.and_eq_true] at hB0;obtain ⟨⟨hr, hf⟩, hx⟩ := hB0;obtain ⟨v, hy, hK⟩ := h
    by_cases hg : rigid o = true
    ·rw [if_pos hg] at hy;exact lT h0 (Region.noSelect_spec hs) (fun c a w hh => absurd hh (hQ c _ w)) _ listed a w (Region.free_spec h0 hf) (by simpa using hr) hy (fB hQ hs π _ _ w hB1 hK)
    ·rw [if_neg hg] at hy;rw [Bool.eq_false_iff.2 hg, Bool.false_or] at hx;exact nC h0 (Region.noSelect_spec hs) (fun c a w hh => absurd hh (hQ c _ w)) hx _ listed a w (Region.free_spec h0 hf) (by simpa using hr) hy.1 hy.2 (fB hQ hs π _ _ w hB1 hK)
 | .alt2 .nil _, _, _, _, hB, _ => by simp [lexG] at hB
 | .alt2 (.alt2 _ _) _, _, _, _, hB, _ => by simp [lexG] at hB
 | .alt2 (.alt3 _ _ _) _, _, _, _, hB, _ => by simp [lexG] at hB
 | .alt2 (.cons _ _) .nil, _, _, _, hB, _ => by simp [lexG] at hB
 | .alt2 (.cons _ _) (.alt2 _ _), _, _, _, hB, _ => by simp [lexG] at hB
 | .alt2 (.cons _ _) (.alt3 _ _ _), _, _, _, hB, _ => by simp [lexG] at hB
 | .alt3 .nil _ _, _, _, _, hB, _ => by simp [lexG] at hB
 | .alt3 (.alt2 _ _) _ _, _, _, _, hB, _ => by simp [lexG] at hB
 | .alt3 (.alt3 _ _ _) _ _, _, _, _, hB, _ => by simp [lexG] at hB
 | .alt3 (.cons _ _) .nil _, _, _, _, hB, _ => by simp [lexG] at hB
 | .alt3 (.cons _ _) (.alt2 _ _) _, _, _, _, hB, _ => by simp [lexG] at hB
 | .alt3 (.cons _ _) (.alt3 _ _ _) _, _, _, _, hB, _ => by simp [lexG] at hB
 | .alt3 (.cons _ _) (.cons _ _) .nil, _, _, _, hB, _ => by simp [lexG] at hB
 | .alt3 (.cons _ _) (.cons _ _) (.alt2 _ _), _, _, _, hB, _ => by simp [lexG] at hB
 | .alt3 (.cons _ _) (.cons _ _) (.alt3 _ _ _), _, _, _, hB, _ => by simp [lexG] at hB
theorem lU {id : Nat} {a : Act} {w : World} {l : List Oper} (ex : List Nat) (π : OT) (hm : P.follows .mixedOrders = true) (hB : heldB ex π l.toArray = true)
 (h : wpHeld P l.toArray (calm Q) S ex π a w.drew) : (Code.region id l.toArray true).wp P Q a w := by
 simp only [heldB, Bool.and_eq_true] at hB;have hl := Nat.eq_of_beq_eq_true hB.1.1;refine Code.wp_mono oZ (wp_region_any hm (qJ (S := S) (ex := ex) _ _ _ _ ?_));have := fB (P := P) (Q := calm Q) (S := S) (fun _ _ _ h => h) hB.1.2 π (Array.replicate l.toArray.size false) a w.drew hB.2 h;rw [hl] at this;exact this
end
end Go.Proofs.YtccicbpeajdjgaaGreatDoor.Mix
namespace Go.Proofs.YtccicbpeajdjgaaGreatDoor.Vm
open Go Mix
/-- the guard of an operation lets it be carried out -/
def Tk (ops : Array Oper) (l : Kn) (g : Option (Nat × Bool)) : Prop := g = none ∨ ∃ j want t, g = some (j, want) ∧ (ops[j]?).bind (·.dst) = some t ∧ look l t = some (.bool want)
theorem aH {ops : Array Oper} {l : Kn} : Tk ops l .none := .inl rfl
theorem cZ {ops : Array Oper} {l : Kn} {j t : Nat} {b want : Bool} (hj : (ops[j]?).bind (·.dst) = some t) (hb : look l t = some (.bool b)) (he : b = want) : Tk ops l (some (j, want)) := by
 subst he;exact .inr ⟨j, b, t, rfl, hj, hb⟩
theorem mH {ops : Array Oper} {l : Kn} {a : Act} {n j t : Nat} {ds : List Deferred} {b : Bool} (ha : Fr a n ds l) (hj : (ops[j]?).bind (·.dst) = some t) (hb : look l t = some (.bool b)) : yielded ops a.tmps j = some b := by
 have hg := ha.get t _ hb;rw [Array.getD_eq_getD_getElem?] at hg;unfold yielded;simp only [hj];cases hq : a.tmps[t]? with
 | none => rw [hq] at hg; cases hg
 | some u => rw [hq] at hg; simp only [Option.getD_some] at hg; subst hg; simp [hq]
theorem Tk.wanted {ops : Array Oper} {l : Kn} {g : Option (Nat × Bool)} {a : Act} {n ty : Nat} {ds : List Deferred} {dst : Option Tmp} {op : Op} {pos : String} {aft : Array Edge} (h : Tk ops l g) (ha : Fr a n ds l) : Region.wanted ⟨dst, op, ty, pos, aft, g⟩ (yielded ops a.tmps) = true := by
 rcases h with rfl | ⟨j, want, t, rfl, hj, hb⟩
 ·rfl
 ·unfold Region.wanted
  simp [mH ha hj hb]
/-- behind an event: S is kept, or the event is one of those listed -/
def KE (b : Bool) (S : World → Prop) (W : Bool → Prop) (w : World) : Prop := match b with
 | true => W false
 | false => S w ∧ W true
theorem aQ {b : Bool} {S : World → Prop} {W : Bool → Prop} {w : World} (hb : b = false) (hS : S w) (h : W true) : KE b S W w := by subst hb; exact ⟨hS, h⟩
theorem eM {b : Bool} {S : World → Prop} {W : Bool → Prop} {w : World} (hb : b = true) (h : W false) : KE b S W w := by subst hb; exact h
theorem KE.use {b : Bool} {S : World → Prop} {W : Bool → Prop} {w : World} (h : KE b S W w) : (b = false → S w) ∧ ∃ c, (c = true → S w) ∧ W c := by
 cases b with
 | true => exact ⟨nofun, false, nofun, h⟩
 | false => exact ⟨fun _ => h.1, true, fun _ => h.1, h.2⟩
def WF (X : Cx) (S : World → Prop) (ops : Array Oper) (ex : List Nat) (π : OT) (c : Bool) (ks : List KI) (ds : List Deferred) (l : Kn) (w : World) : Prop := ∀ a, Fr a X.n ds l → (c = true → S w) → wpHeld X.P ops (calm (post X.P X.B ks)) S ex π a w
section
variable {X : Cx} {S : World → Prop} {ops : Array Oper} {ex : List Nat} {π : OT} {c : Bool} {k : Nat} {ks : List KI} {ds : List Deferred} {l : Kn} {w : World} {d ty : Nat} {pos : String} {aft : Array Edge} {g : Option (Nat × Bool)} {v : Value} {op : Op}
theorem cX {id : Nat} {lo : List Oper} (S : World → Prop) (ex : List Nat) (π : OT) (hm : X.P.follows .mixedOrders = true) (hB : heldB ex π lo.toArray = true) (hS : S w.drew) (h : WF X S lo.toArray ex π true ks ds l w.drew) : WC X (.region id lo.toArray true) ks ds l w :=
 fun a ha => lU (S := S) ex π hm hB (h a ha fun _ => hS)
theorem dX {t1 t2 : OT} (h1 : WF X S ops ex t1 c ks ds l w) (h2 : WF X S ops ex t2 c ks ds l w) : WF X S ops ex (.alt2 t1 t2) c ks ds l w := fun a ha hS => ⟨h1 a ha hS, h2 a ha hS⟩
theorem jZ {t1 t2 t3 : OT} (h1 : WF X S ops ex t1 c ks ds l w) (h2 : WF X S ops ex t2 c ks ds l w) (h3 : WF X S ops ex t3 c ks ds l w) : WF X S ops ex (.alt3 t1 t2 t3) c ks ds l w := fun a ha hS => ⟨h1 a ha hS, h2 a ha hS, h3 a ha hS⟩
theorem cO (h : WN X ks ds l w) : WF X S ops ex .nil c ks ds l w := fun a ha _ => h a ha
theorem pI (ho : ops[k]? = some ⟨some d, op, ty, pos, aft, g⟩) (hg : Tk ops l g) (hc : (cls [] (bare op ty) == 2) = false) (hri : rigid (bare op ty) = false) (hd : Nat.blt d X.n = true) (hrun : ∀ a, Fr a X.n ds l → ∀ w, S w → (execOp a.eval (bare op ty)).run X.P w = .ok (.value v) w)
 (kk : WF X S ops ex π true ks ds ((d, v) :: l) w) : WF X S ops ex (.cons k π) true ks ds l w := fun a ha hS => by
 unfold wpHeld;simp only [ho];rw [if_neg (by simpa [cls] using hc)];refine ⟨v, ?_, kk _ (ha.put hd v) hS⟩
 split
 ·next hr => exact absurd hr (by simpa [rigid] using hri)
 ·exact ⟨.inl ⟨hg.wanted ha, fun w' hw => by rw [dN]; exact hrun a ha w' hw⟩, hS rfl⟩
theorem eJ (ho : ops[k]? = some ⟨some d, op, ty, pos, aft, g⟩) (hg : Tk ops l g) (hc : (cls [] (bare op ty) == 2) = false) (hri : rigid (bare op ty) = true) (hd : Nat.blt d X.n = true) (hrun : ∀ a, Fr a X.n ds l → ∀ w, (execOp a.eval (bare op ty)).run X.P w = .ok (.value v) w)
 (kk : WF X S ops ex π c ks ds ((d, v) :: l) w) : WF X S ops ex (.cons k π) c ks ds l w := fun a ha hS => by
 unfold wpHeld;simp only [ho];rw [if_neg (by simpa [cls] using hc)];refine ⟨v, ?_, kk _ (ha.put hd v) hS⟩;rw [if_pos (by simpa [rigid] using hri)];exact .inl ⟨hg.wanted ha, fun w' _ => by rw [dN]; exact hrun a ha w'⟩
/-- an operation whose guard is against it -/
theorem qL (ho : ops[k]? = some ⟨some d, op, ty, pos, aft, g⟩) (hd : Nat.blt d X.n = true) (hw : ∀ a, Fr a X.n ds l → Region.wanted ⟨some d, op, ty, pos, aft, g⟩ (yielded ops a.tmps) = false)
 (kk : WF X S ops ex π true ks ds ((d, undef) :: l) w) : WF X S ops ex (.cons k π) true ks ds l w := fun a ha hS => by
 unfold wpHeld;simp only [ho]
 split
 ·rw [hw a ha, if_neg (by simp)];exact ⟨fun _ h => h, kk _ (ha.put hd undef) hS⟩
 ·refine ⟨undef, ?_, kk _ (ha.put hd undef) hS⟩
  split
  ·exact .inr ⟨hw a ha, rfl⟩
  ·exact ⟨.inr ⟨hw a ha, rfl⟩, hS rfl⟩
theorem dB {j t : Nat} {b want : Bool} (ho : ops[k]? = some ⟨some d, op, ty, pos, aft, some (j, want)⟩) (hd : Nat.blt d X.n = true) (hj : (ops[j]?).bind (·.dst) = some t) (hb : look l t = some (.bool b)) (he : b = !want)
 (kk : WF X S ops ex π true ks ds ((d, undef) :: l) w) : WF X S ops ex (.cons k π) true ks ds l w := qL ho hd (fun a ha => by
 subst he;unfold Region.wanted
 simp [mH ha hj hb]) kk
theorem WF.passU {j t : Nat} {want : Bool} (ho : ops[k]? = some ⟨some d, op, ty, pos, aft, some (j, want)⟩) (hd : Nat.blt d X.n = true) (hj : (ops[j]?).bind (·.dst) = some t) (hb : look l t = some undef)
 (kk : WF X S ops ex π true ks ds ((d, undef) :: l) w) : WF X S ops ex (.cons k π) true ks ds l w := qL ho hd (fun a ha => by
 have hg := ha.get t _ hb;rw [Array.getD_eq_getD_getElem?] at hg;unfold Region.wanted yielded;simp only [hj];cases hq : a.tmps[t]? with
 | none => simp [hq]
 | some u => rw [hq] at hg; simp only [Option.getD_some] at hg; subst hg; simp [hq, undef]) kk
theorem pJ {f : FuncId} {vs : Array Value} {R : Value → World → Prop} (ho : ops[k]? = some ⟨some d, op, ty, pos, aft, g⟩) (hg : Tk ops l g) (hc : (cls [] (bare op ty) == 2) = true) (hd : Nat.blt d X.n = true) (hrun : ∀ a, Fr a X.n ds l → (execOp a.eval (bare op ty)).run X.P w = .ok (.enter f vs) w)
 (hcall : Ret X.P f vs w R) (kk : ∀ v w', R v w' → KE (ex.contains k) S (fun c => WF X S ops ex π c ks ds ((d, v) :: l) w') w') : WF X S ops ex (.cons k π) c ks ds l w := fun a ha _ => by
 unfold wpHeld;simp only [ho];rw [if_pos (by simpa [cls] using hc), if_pos (hg.wanted ha)];simp only [Oper.wp];rw [dN, hrun a ha];refine Calls.mono hcall fun e w' ⟨v, he, hv⟩ => ?_;subst he;obtain ⟨h1, c', h2, h3⟩ := (kk v w' hv).use;exact ⟨fun h _ => h1 h, h3 _ (ha.put hd v) h2⟩
theorem lF {w' : World} (ho : ops[k]? = some ⟨some d, op, ty, pos, aft, g⟩) (hg : Tk ops l g) (hc : (cls [] (bare op ty) == 2) = true) (hd : Nat.blt d X.n = true) (hrun : ∀ a, Fr a X.n ds l → (execOp a.eval (bare op ty)).run X.P w = .ok (.value v) w')
 (kk : KE (ex.contains k) S (fun c => WF X S ops ex π c ks ds ((d, v) :: l) w') w') : WF X S ops ex (.cons k π) c ks ds l w := fun a ha _ => by
 unfold wpHeld;simp only [ho];rw [if_pos (by simpa [cls] using hc), if_pos (hg.wanted ha)];simp only [Oper.wp];rw [dN, hrun a ha];obtain ⟨h1, c', h2, h3⟩ := kk.use;exact ⟨fun h _ => h1 h, h3 _ (ha.put hd v) h2⟩
theorem nZ {w' : World} (ho : ops[k]? = some ⟨none, op, ty, pos, aft, g⟩) (hg : Tk ops l g) (hc : (cls [] (bare op ty) == 2) = true) (hrun : ∀ a, Fr a X.n ds l → (execOp a.eval (bare op ty)).run X.P w = .ok .skip w')
 (kk : KE (ex.contains k) S (fun c => WF X S ops ex π c ks ds l w') w') : WF X S ops ex (.cons k π) c ks ds l w := fun a ha _ => by
 unfold wpHeld;simp only [ho];rw [if_pos (by simpa [cls] using hc), if_pos (hg.wanted ha)];simp only [Oper.wp];rw [dN, hrun a ha];obtain ⟨h1, c', h2, h3⟩ := kk.use;exact ⟨fun h _ => h1 h, h3 _ ha h2⟩
theorem bH {x : Operand} (ho : ops[k]? = some ⟨some d, .move x, ty, pos, aft, g⟩) (hg : Tk ops l g) (hx : ev l x = some v) (hd : Nat.blt d X.n = true) (kk : WF X S ops ex π c ks ds ((d, v) :: l) w) : WF X S ops ex (.cons k π) c ks ds l w :=
 eJ ho hg rfl rfl hd (fun a ha w => by simp only [execOp, ha.ev hx, Sem.run_pure]) kk
theorem dC {x : Operand} (ho : ops[k]? = some ⟨some d, .assign x, ty, pos, aft, g⟩) (hg : Tk ops l g) (hx : ev l x = some v) (hd : Nat.blt d X.n = true) (kk : WF X S ops ex π c ks ds ((d, v) :: l) w) : WF X S ops ex (.cons k π) c ks ds l w :=
 eJ ho hg rfl rfl hd (fun a ha w => by simp only [execOp, ha.ev hx, Sem.run_pure]) kk
theorem cD {x : Operand} {p : Addr} (ho : ops[k]? = some ⟨some d, .nilCheck x, ty, pos, aft, g⟩) (hg : Tk ops l g) (hx : ev l x = some (.pointer (some p))) (hd : Nat.blt d X.n = true) (kk : WF X S ops ex π c ks ds ((d, .pointer (some p)) :: l) w) : WF X S ops ex (.cons k π) c ks ds l w :=
 eJ ho hg rfl rfl hd (fun a ha w => by simp only [execOp, ha.ev hx, Sem.run_pure]) kk
theorem cF {s i : Nat} {x : Operand} {b o off : Nat} (ho : ops[k]? = some ⟨some d, .fieldAddr s x i, ty, pos, aft, g⟩) (hg : Tk ops l g) (hx : ev l x = some (.pointer (some ⟨b, o, none⟩)))
 (hf : ∀ (b o : Nat) (w : World), (Instr.fieldAt s (.pointer (some ⟨b, o, none⟩)) i).run X.P w = .ok (.pointer (some ⟨b, o + off, none⟩)) w) (hd : Nat.blt d X.n = true)
 (kk : WF X S ops ex π c ks ds ((d, .pointer (some ⟨b, o + off, none⟩)) :: l) w) : WF X S ops ex (.cons k π) c ks ds l w :=
 eJ ho hg rfl rfl hd (fun a ha w => by simp only [execOp, ha.ev hx, Sem.run_bind, hf, Result.andThen_ok, Sem.run_pure]) kk
theorem cN {t : TypeId} {x : Operand} {p : Addr} {D : TypeDesc} (ho : ops[k]? = some ⟨some d, .load t x, ty, pos, aft, g⟩) (hg : Tk ops l g) (hx : ev l x = some (.pointer (some p))) (hu : X.P.underlying t = some D) (hD : plainD D = true) (hc : ∀ w, S w → w.cell? p = some v) (hd : Nat.blt d X.n = true)
 (kk : WF X S ops ex π true ks ds ((d, v) :: l) w) : WF X S ops ex (.cons k π) true ks ds l w :=
 pI ho hg rfl rfl hd (fun a ha w hS => by
  simp only [execOp, ha.ev hx, Instr.loadAt, Instr.sureAddr, loadVar, Sem.run_bind, Sem.run_pure, Result.andThen_ok, iN hu hD]
  simp [hc w hS]) kk
theorem cG {t s : TypeId} {x : Operand} {b o : Nat} {D : TypeDesc} {f : Nat → Value} (ho : ops[k]? = some ⟨some d, .load t x, ty, pos, aft, g⟩) (hg : Tk ops l g) (hx : ev l x = some (.pointer (some ⟨b, o, none⟩))) (hu : X.P.underlying t = some D) (hD : plainD D = false) (hs : (X.P.info? t).map (·.size) = some s) (hc : ∀ w, S w → Rd w b o s f) (hd : Nat.blt d X.n = true)
 (kk : WF X S ops ex π true ks ds ((d, .agg ((List.range s).map f).toArray) :: l) w) : WF X S ops ex (.cons k π) true ks ds l w :=
 pI ho hg rfl rfl hd (fun a ha w hS => by
  have ha' : (isAgg t).run X.P w = .ok true w := by
   unfold isAgg;simp only [Sem.run_bind, run_underlying hu, Result.andThen_ok]
   cases D <;> first | rfl | cases hD
  have hl := run_loadCells_list (P := X.P) w ⟨b, o, none⟩ ((List.range s).map f) (fun j v hv => by
   rw [eR]
   have hj : j < s := by
    rcases Nat.lt_or_ge j s with h | h
    ·exact h
    ·simp [h] at hv
   rw [hc w hS j hj]
   simpa [hj] using hv)
  simp only [List.length_map, List.length_range] at hl;simp only [execOp, ha.ev hx, Instr.loadAt, Instr.sureAddr, loadVar, Sem.run_bind, Sem.run_pure, Result.andThen_ok, ha']
  simp [dP hs, hl]) kk
theorem dW {o : BinOp} {t t' : TypeId} {x y : Operand} {k' : IntKind} {a b : Int} (ho : ops[k]? = some ⟨some d, .binOp o t x y t', ty, pos, aft, g⟩) (hg : Tk ops l g) (hx : ev l x = some (.int k' a)) (hy : ev l y = some (.int k' b)) (hv : arith o k' a b = some v) (hd : Nat.blt d X.n = true)
    (kk : WF X S ops ex π c ks ds ((d, v) :: l) w) : WF X S ops ex (.cons k π) c ks ds l w :=
  eJ ho hg rfl rfl hd (fun c hc w => by
    simp only [execOp, hc.ev hx, hc.ev hy, Sem.run_bind]
    have hg : (eqGuard o t x y (.int k' a) (.int k' b)).run X.P w = .ok () w := by unfold eqGuard; cases o <;> rfl
    rw [hg]
    cases o <;> simp only [arith, Option.some.injEq, reduceCtorEq] at hv <;> first
      | (subst hv; simp [binOp, Op.intArith, Op.intBits, Op.intCmp]; done)
      | (split at hv
         · cases hv
         · rename_i hb
           simp only [Option.some.injEq] at hv
           subst hv
           simp [binOp, Op.intDiv, hb])) kk
theorem lE {t t' : TypeId} {x y : Operand} {a b : Bool} (ho : ops[k]? = some ⟨some d, .binOp .neq t x y t', ty, pos, aft, g⟩) (hg : Tk ops l g) (hx : ev l x = some (.bool a)) (hy : ev l y = some (.bool b)) (hu : X.P.underlying t = some .bool) (hd : Nat.blt d X.n = true)
 (kk : WF X S ops ex π c ks ds ((d, .bool (!(a == b))) :: l) w) : WF X S ops ex (.cons k π) c ks ds l w :=
 eJ ho hg rfl rfl hd (fun c hc w => by
  simp only [execOp, hc.ev hx, hc.ev hy, Sem.run_bind];have hg : (eqGuard .neq t x y (.bool a) (.bool b)).run X.P w = .ok () w := rfl;rw [hg]
  have he : (Op.equal t (.bool a) (.bool b)).run X.P w = .ok (a == b) w := by
   unfold Op.equal;rw [show Op.maxDepth = 9999 + 1 from rfl];unfold Op.equalIn
   simp [Sem.run_bind, run_underlying hu]
  simp [binOp, he]) kk
theorem xC {t : TypeId} {x : Operand} {b : Bool} (ho : ops[k]? = some ⟨some d, .unOp .not t x, ty, pos, aft, g⟩) (hg : Tk ops l g) (hx : ev l x = some (.bool b)) (hd : Nat.blt d X.n = true) (kk : WF X S ops ex π c ks ds ((d, .bool (!b)) :: l) w) : WF X S ops ex (.cons k π) c ks ds l w :=
 eJ ho hg rfl rfl hd (fun c hc w => by simp [execOp, hc.ev hx, Op.unary]) kk
theorem fV {x : Operand} {T : TypeId} {A : Option Addr} {n cc E : Nat} (ho : ops[k]? = some ⟨some d, .call ⟨.builtin .len, #[x], #[T]⟩, ty, pos, aft, g⟩) (hg : Tk ops l g) (hx : ev l x = some (.slice A n cc)) (hu : X.P.underlying T = some (.slice E)) (hd : Nat.blt d X.n = true) (kk : WF X S ops ex π c ks ds ((d, .int .i64 n) :: l) w) : WF X S ops ex (.cons k π) c ks ds l w :=
 eJ ho hg rfl rfl hd (fun a ha w => by
  simp only [execOp, resolve, Sem.run_bind, Sem.run_pure, Result.andThen_ok, Go.invoke, builtin, List.map_toArray, List.map_cons, List.map_nil, ha.ev hx]
  simp [Builtin.len_, goInt, run_underlying hu]) kk
theorem WF.conv {t t' : TypeId} {x : Operand} {k1 k2 : IntKind} {a : Int} {u : TypeDesc} {z : Int} (ho : ops[k]? = some ⟨some d, .convert t t' x, ty, pos, aft, g⟩) (hg : Tk ops l g) (hx : ev l x = some (.int k1 a)) (hr : ∀ w, (convert t t' (.int k1 a)).run X.P w = .ok (.int k2 z) w) (hd : Nat.blt d X.n = true)
 (kk : WF X S ops ex π c ks ds ((d, .int k2 z) :: l) w) : WF X S ops ex (.cons k π) c ks ds l w :=
 eJ ho hg rfl rfl hd (fun c hc w => by simp only [execOp, hc.ev hx, hr, Sem.run_bind, Result.andThen_ok, Sem.run_pure]) kk
theorem WF.eqlB {t t' : TypeId} {x y : Operand} {a b : Bool} (ho : ops[k]? = some ⟨some d, .binOp .eql t x y t', ty, pos, aft, g⟩) (hg : Tk ops l g) (hx : ev l x = some (.bool a)) (hy : ev l y = some (.bool b)) (hu : X.P.underlying t = some .bool) (hd : Nat.blt d X.n = true)
 (kk : WF X S ops ex π c ks ds ((d, .bool (a == b)) :: l) w) : WF X S ops ex (.cons k π) c ks ds l w :=
 eJ ho hg rfl rfl hd (fun c hc w => by
  simp only [execOp, hc.ev hx, hc.ev hy, Sem.run_bind];have hg : (eqGuard .eql t x y (.bool a) (.bool b)).run X.P w = .ok () w := rfl;rw [hg]
  have he : (Op.equal t (.bool a) (.bool b)).run X.P w = .ok (a == b) w := by
   unfold Op.equal;rw [show Op.maxDepth = 9999 + 1 from rfl];unfold Op.equalIn
   simp [Sem.run_bind, run_underlying hu]
  simp [binOp, he]) kk
theorem cB {x : Operand} {i : Nat} {vs : Array Value} {u : Value} (ho : ops[k]? = some ⟨some d, .extract x i, ty, pos, aft, g⟩) (hg : Tk ops l g) (hx : ev l x = some (.tuple vs)) (hv : vs[i]? = some u) (hd : Nat.blt d X.n = true) (kk : WF X S ops ex π c ks ds ((d, u) :: l) w) : WF X S ops ex (.cons k π) c ks ds l w :=
 eJ ho hg rfl rfl hd (fun c hc w => by simp [execOp, hc.ev hx, Instr.extract, hv]) kk
theorem fA {x y z : Operand} {b : Bool} {u : Value} (ho : ops[k]? = some ⟨some d, .pick x y z, ty, pos, aft, g⟩) (hg : Tk ops l g) (hc : ev l x = some (.bool b)) (he : b = true) (hu : ev l y = some u) (hd : Nat.blt d X.n = true) (kk : WF X S ops ex π c ks ds ((d, u) :: l) w) : WF X S ops ex (.cons k π) c ks ds l w :=
 eJ ho hg rfl rfl hd (fun c h9 w => by subst he; simp [execOp, h9.ev hc, h9.ev hu, asBool]) kk
theorem hC {x y z : Operand} {b : Bool} {u : Value} (ho : ops[k]? = some ⟨some d, .pick x y z, ty, pos, aft, g⟩) (hg : Tk ops l g) (hc : ev l x = some (.bool b)) (he : b = false) (hu : ev l z = some u) (hd : Nat.blt d X.n = true) (kk : WF X S ops ex π c ks ds ((d, u) :: l) w) : WF X S ops ex (.cons k π) c ks ds l w :=
 eJ ho hg rfl rfl hd (fun c h9 w => by subst he; simp [execOp, h9.ev hc, h9.ev hu, asBool]) kk
theorem xD {T E s : Nat} {x i : Operand} {b o len cap : Nat} {kd : IntKind} {j : Int} (ho : ops[k]? = some ⟨some d, .indexAddr T x i, ty, pos, aft, g⟩) (hg : Tk ops l g) (hx : ev l x = some (.slice (some ⟨b, o, none⟩) len cap)) (hi : ev l i = some (.int kd j)) (hu : X.P.underlying T = some (.slice E)) (hs : (X.P.info? E).map (·.size) = some s)
 (h0 : 0 ≤ j) (h1 : j < (len : Int)) (hd : Nat.blt d X.n = true) (kk : WF X S ops ex π c ks ds ((d, .pointer (some ⟨b, o + j.toNat * s, none⟩)) :: l) w) : WF X S ops ex (.cons k π) c ks ds l w :=
 eJ ho hg rfl rfl hd (fun a ha w => by
  simp only [execOp, ha.ev hx, ha.ev hi, Instr.indexAt, asIntOf, Sem.run_bind, Sem.run_pure, Result.andThen_ok, run_underlying hu];rw [if_pos ⟨h0, h1⟩]
  simp [dP hs, eR]) kk
theorem cR {t : TypeId} (ho : ops[k]? = some ⟨some d, .alloc t, ty, pos, aft, g⟩) (hg : Tk ops l g) (hz : ∀ w, (zeroValue t).run X.P w = .ok v w) (hc : (cls [] (bare (.alloc t) ty) == 2) = true) (hd : Nat.blt d X.n = true)
 (kk : ∀ w', w' = w.alloc (.cells v.cells t) → Same [] w w' → KE (ex.contains k) S (fun c => WF X S ops ex π c ks ds ((d, .pointer (some ⟨w.heap.size, 0, none⟩)) :: l) w') w') : WF X S ops ex (.cons k π) c ks ds l w :=
 lF ho hg hc hd (w' := w.alloc (.cells v.cells t)) (fun a ha => by
  simp only [execOp, Instr.alloc, Sem.run_bind, hz, Result.andThen_ok, iT, Sem.run_pure]) (kk _ rfl (Same.alloc w _))
theorem bW {f : FuncId} {args : Array Operand} {tys : Array TypeId} {as : List Operand} {vs : List Value} {R : Value → World → Prop} (ho : ops[k]? = some ⟨some d, .call ⟨.value (.func f), args, tys⟩, ty, pos, aft, g⟩) (hg : Tk ops l g) (has : args = as.toArray) (hv : evs l as = some vs) (hf : ∀ (us : Array Value) (w : World), (callFunc f us).run X.P w = .ok (.enter f us) w)
 (hc : (cls [] (bare (.call ⟨.value (.func f), args, tys⟩) ty) == 2) = true) (hd : Nat.blt d X.n = true) (hcall : Ret X.P f vs.toArray w R) (kk : ∀ v w', R v w' → KE (ex.contains k) S (fun c => WF X S ops ex π c ks ds ((d, v) :: l) w') w') : WF X S ops ex (.cons k π) c ks ds l w :=
 pJ ho hg hc hd (fun a ha => by
  have he := eX ha hv;subst has;simp only [execOp, resolve, Deferred.ofValue, Act.eval, Sem.run_bind, Sem.run_pure, Result.andThen_ok, invoke, List.map_toArray, he, Array.append_empty, Array.empty_append]
  exact hf _ _) hcall kk
theorem xE {f : FuncId} {o : Operand} {args : Array Operand} {tys : Array TypeId} {as : List Operand} {vs cs : List Value} {R : Value → World → Prop} (hop : ops[k]? = some ⟨some d, .call ⟨.value o, args, tys⟩, ty, pos, aft, g⟩) (hg : Tk ops l g) (ho : ev l o = some (.func (.func f) #[] cs.toArray)) (has : args = as.toArray) (hv : evs l as = some vs) (hf : ∀ (us : Array Value) (w : World), (callFunc f us).run X.P w = .ok (.enter f us) w)
 (hc : (cls [] (bare (.call ⟨.value o, args, tys⟩) ty) == 2) = true) (hd : Nat.blt d X.n = true) (hcall : Ret X.P f (vs ++ cs).toArray w R) (kk : ∀ v w', R v w' → KE (ex.contains k) S (fun c => WF X S ops ex π c ks ds ((d, v) :: l) w') w') : WF X S ops ex (.cons k π) c ks ds l w :=
 pJ hop hg hc hd (fun a ha => by
  have he := eX ha hv;subst has;simp only [execOp, resolve, Deferred.ofValue, ha.ev ho, Sem.run_bind, Sem.run_pure, Result.andThen_ok, List.map_toArray, he, Array.empty_append];have h2 := hf (vs.toArray ++ cs.toArray) w;simp only [List.append_toArray] at h2
  simpa [Go.invoke] using h2) hcall kk
theorem bA {t s b o n T : Nat} {x y : Operand} {f : Nat → Value} {cs : Array Value} (ho : ops[k]? = some ⟨none, .store t x y, ty, pos, aft, g⟩) (hg : Tk ops l g) (hx : ev l x = some (.pointer (some ⟨b, o, none⟩))) (hy : ev l y = some (.agg cs)) (hs : (X.P.info? t).map (·.size) = some s) (hsz : cs.size = s) (h1 : ∀ v ∈ cs.toList, v.oneCell' = true)
 (hb : Row w b T n f) (hfit : o + s ≤ n) (kk : ∀ w', Row w' b T n (ovr f o cs.toList) → Same [b] w w' → KE (ex.contains k) S (fun c => WF X S ops ex π c ks ds l w') w') : WF X S ops ex (.cons k π) c ks ds l w :=
 nZ ho hg rfl (w' := w.setCells b o cs.toList) (fun a ha => by
  have hr := run_storeCells_cells (P := X.P) b o cs.toList 0 w (fun j hj => by
   rw [hb.cell (by simp at hj; omega)]; rfl) (fun j _ => hb.fz _) h1
  simp only [Nat.add_zero] at hr;have hc : (Value.agg cs).cells = cs := rfl;simp only [execOp, ha.ev hx, ha.ev hy, Instr.storeAt, Instr.sureAddr, storeVar, Sem.run_bind, Sem.run_pure, Result.andThen_ok, dP hs, hc];rw [if_neg (by rw [hsz]; simp)]
  simp [hr]) (kk _ (hb.setCells _ _ _ _) (Same.setCells b _ o w))
end
end Go.Proofs.YtccicbpeajdjgaaGreatDoor.Vm
