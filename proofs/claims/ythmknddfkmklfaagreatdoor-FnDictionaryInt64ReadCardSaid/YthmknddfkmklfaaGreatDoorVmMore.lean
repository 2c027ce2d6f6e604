/- How code is walked: regions in text order, operations, memory, slices. -/
import Derived.Still
import Derived.Tactics
import Derived.KernelRfl
import Derived.Laws.World
import Derived.WalkKit
import Derived.Deep.LoopGhost
import Derived.WalkSpells
import Derived.WalkLawsBesides
import Derived.Laws.IdiomCopy
namespace Go.Proofs.YthmknddfkmklfaaGreatDoor.Mix
open Go

/-- how an operation is taken in a region that draws its order: 0 a bare move, 1 one that leaves the world alone, 2 any other (it must stand alone when its turn comes) -/
def cls (qs : List Nat) (o : Oper) : Nat :=
  match o.op with
  | .move _ | .assign _ => 0
  | .pick .. | .load .. | .nilCheck _ | .binOp .. | .unOp .. | .convert .. | .slice .. | .fieldAddr .. | .field .. | .indexAddr .. | .index .. | .extract .. | .makeInterface .. | .lookup .. | .typeAssert .. | .makeFunc .. => 1
  | .call c => match c.callee with
    | .builtin .len => 1
    | .builtin .cap => 1
    | .builtin .min => 1
    | .builtin .max => 1
    | .value (.func f) => if qs.contains f then 1 else 2
    | _ => 2
  | _ => 2

def wpMix (qs : List Nat) (P : Program) (ops : Array Oper) (Q : Exit → Act → World → Prop) : List Oper → Act → World → Prop
  | [], a, w => Q .normal a w
  | o :: rest, a, w =>
    if cls qs o = 2 then (if Region.wanted o (yielded ops a.tmps) then o.wp P a w (wpMix qs P ops Q rest) Q else wpMix qs P ops Q rest (a.put o.dst undef) w)
    else (if Region.wanted o (yielded ops a.tmps) then o.still P a w (fun a' => wpMix qs P ops Q rest a' w) else wpMix qs P ops Q rest (a.put o.dst undef) w)

section
variable {qs : List Nat} {P : Program} {ops : Array Oper} {Q : Exit → Act → World → Prop} {a : Act} {w : World} {rest : List Oper} {o : Oper}
theorem wpMix_nil (h : Q .normal a w) : wpMix qs P ops Q [] a w := h
theorem wpMix_still (hc : (cls qs o == 2) = false)
    (h : ∀ K : Act → Prop, (∀ a', wpMix qs P ops Q rest a' w → K a') → if Region.wanted o (yielded ops a.tmps) then o.still P a w K else K (a.put o.dst undef)) : wpMix qs P ops Q (o :: rest) a w := by
  unfold wpMix
  rw [if_neg (by simpa using hc)]
  exact h _ fun _ h => h
theorem wpMix_event (hc : (cls qs o == 2) = true)
    (h : ∀ K : Act → World → Prop, (∀ a' w', wpMix qs P ops Q rest a' w' → K a' w') → if Region.wanted o (yielded ops a.tmps) then o.wp P a w K Q else K (a.put o.dst undef) w) : wpMix qs P ops Q (o :: rest) a w := by
  unfold wpMix
  rw [if_pos (by simpa using hc)]
  exact h _ fun _ _ h => h
end

/-- panics and the rest are shut out -/
def calm (Q : Exit → Act → World → Prop) : Exit → Act → World → Prop
  | .panic _, _, _ => False
  | .outgrown, _, _ => False
  | e, a, w => Q e a w
theorem calm_le {Q : Exit → Act → World → Prop} : ∀ e a w, calm Q e a w → Q e a w
  | .normal, _, _, h => h
  | .exit _, _, _, h => h
  | .goto _, _, _, h => h
  | .ret, _, _, h => h

def isEv (qs : List Nat) (ops : Array Oper) (j : Nat) : Bool := match ops[j]? with | some o => cls qs o == 2 | none => false

/-- those that wait for k, one way or the other (one pass) -/
def blocked (ops : Array Oper) (k : Nat) : List Nat :=
  (List.range ops.size).foldl (fun B j => if j == k || ((ops[j]?).map (·.after.any fun e => Region.binds .any e && B.contains e.on)).getD false then j :: B else B) []
def blockOK (ops : Array Oper) (k : Nat) (B : List Nat) : Bool :=
  B.contains k && B.all fun j => j == k || ((ops[j]?).map (·.after.any fun e => Region.binds .any e && B.contains e.on)).getD false
def noOver (qs : List Nat) (ops : Array Oper) (listed : Array Bool) (k : Nat) : Bool :=
  let B := blocked ops k
  blockOK ops k B && B.all (fun j => !listed.getD j true) && (List.range ops.size).all fun j => listed.getD j true || B.contains j || !isEv qs ops j
def lexM (qs : List Nat) (ops : Array Oper) : Nat → Nat → Array Bool → Bool
  | 0, _, listed => (Region.ready .any ops listed).isEmpty
  | f + 1, k, listed => (match ops[k]? with
      | none => false
      | some o => if cls qs o == 2 then Region.ready .any ops listed == [k] else (Region.ready .any ops listed).contains k && Region.free .any ops listed k && (cls qs o == 0 || noOver qs ops listed k)) &&
    lexM qs ops f (k + 1) (listed.setIfInBounds k true)
def mixB (qs : List Nat) (ops : Array Oper) : Bool := Region.noSelect ops && lexM qs ops ops.size 0 (Array.replicate ops.size false)

section
variable {qs : List Nat} {P : Program} {ops : Array Oper} {Q : Exit → Act → World → Prop}

def opM (qs : List Nat) (P : Program) (ops : Array Oper) (Q : Exit → Act → World → Prop) (i : Nat) (K : Act → World → Prop) (a : Act) (w : World) : Prop :=
  if isEv qs ops i then wpOp P ops Q i K a w else stOp P ops w i (fun a' => K a' w) a
theorem opM_mono {i : Nat} {a : Act} {w : World} {K K' : Act → World → Prop} (h : ∀ a w, K a w → K' a w) (hh : opM qs P ops Q i K a w) : opM qs P ops Q i K' a w := by
  unfold opM at *
  split
  · rename_i hc; rw [if_pos hc] at hh; exact wpOp_mono h hh
  · rename_i hc; rw [if_neg hc] at hh; exact stOp_mono (fun a => h a w) hh
def anyM (qs : List Nat) (P : Program) (ops : Array Oper) (Q : Exit → Act → World → Prop) : Nat → Array Bool → Act → World → Prop
  | 0, listed, a, w => Region.ready .any ops listed = [] ∧ Q .normal a w
  | fuel + 1, listed, a, w =>
    (Region.ready .any ops listed = [] → Q .normal a w) ∧
    ∀ i ∈ Region.ready .any ops listed, opM qs P ops Q i (anyM qs P ops Q fuel (listed.setIfInBounds i true)) a w
theorem any_of_anyM : ∀ (fuel : Nat) (listed : Array Bool) (a : Act) (w : World), anyM qs P ops Q fuel listed a w → wpAny P .any ops Q fuel listed a w
  | 0, _, _, _, h => h
  | fuel + 1, listed, a, w, h => ⟨h.1, fun i hi => by
    have h1 := h.2 i hi
    unfold opM at h1
    split at h1
    · exact wpOp_mono (fun a w => any_of_anyM fuel _ a w) h1
    · exact wpOp_of_stOp (fun a' => any_of_anyM fuel _ a' w) h1⟩

theorem not_waits {i : Nat} {oj : Oper} {listed : Array Bool} (hr : i ∈ Region.ready .any ops listed)
    (hall : ∀ e ∈ oj.after, Region.binds .any e = true → listed.getD e.on false = true) : ∀ e ∈ oj.after, Region.binds .any e = true → e.on ≠ i := fun e he hb heq => by
  have h1 := hall e he hb
  have h0 := (mem_ready.1 hr).1
  rw [heq] at h1
  rcases Nat.lt_or_ge i listed.size with h' | h'
  · simp [h'] at h0 h1; rw [h0] at h1; cases h1
  · simp [Array.getElem?_eq_none h'] at h1

theorem free_after {i j : Nat} {oi : Oper} {listed : Array Bool}
    (hfree : ∀ j oj, ops[j]? = some oj → j ≠ i → listed.getD j true = false → (∀ e ∈ oj.after, Region.binds .any e = true → e.on ≠ i) → oi.apart ops oj = true)
    (hjun : listed.getD j true = false) : ∀ k ok, ops[k]? = some ok → k ≠ i → (listed.setIfInBounds j true).getD k true = false →
    (∀ e ∈ ok.after, Region.binds .any e = true → e.on ≠ i) → oi.apart ops ok = true := fun k ok hk hki hun hno => by
  refine hfree k ok hk hki ?_ hno
  by_cases hjk : j = k
  · subst hjk; exact hjun
  · rw [getD_set_ne true hjk] at hun; exact hun

/-- a bare move may be taken first -/
theorem anyM_pure {i : Nat} {oi : Oper} {v : Value} (hi : ops[i]? = some oi) (hev : isEv qs ops i = false) (hsel : ∀ (j : Nat) (o : Oper) cs b, ops[j]? = some o → o.op ≠ .select cs b)
    (hQ : ∀ c a w, Q (.panic c) (a.put oi.dst v) w → Q (.panic c) a w) :
    ∀ (fuel : Nat) (listed : Array Bool) (a : Act) (w : World),
      (∀ j oj, ops[j]? = some oj → j ≠ i → listed.getD j true = false → (∀ e ∈ oj.after, Region.binds .any e = true → e.on ≠ i) → oi.apart ops oj = true) →
      i ∈ Region.ready .any ops listed → Yields P ops oi v a →
      anyM qs P ops Q fuel (listed.setIfInBounds i true) (a.put oi.dst v) w → anyM qs P ops Q (fuel + 1) listed a w := by
  have at_ : ∀ (w : World) (a : Act), Yields P ops oi v a → YieldsAt P ops w oi v a := fun w a hy => by
    rcases hy with ⟨h1, h2⟩ | h
    · exact .inl ⟨h1, .inl (h2 w)⟩
    · exact .inr h
  intro fuel
  induction fuel with
  | zero =>
    intro listed a w _ hr hy H
    refine ⟨fun h => (by rw [h] at hr; cases hr), fun j hj => ?_⟩
    by_cases hji : j = i
    · subst hji; unfold opM; rw [hev, if_neg (by simp)]; exact (at_ w a hy).stOp hi H
    · have := ready_mono hj hji
      rw [H.1] at this
      cases this
  | succ fuel ih =>
    intro listed a w hfree hr hy H
    refine ⟨fun h => (by rw [h] at hr; cases hr), fun j hj => ?_⟩
    by_cases hji : j = i
    · subst hji; unfold opM; rw [hev, if_neg (by simp)]; exact (at_ w a hy).stOp hi H
    · have h1 := H.2 j (ready_mono hj hji)
      obtain ⟨hjun, oj, hoj, hall⟩ := mem_ready.1 hj
      have hap := hfree j oj hoj hji hjun (not_waits hr hall)
      have step : ∀ a' w', Yields P ops oi v a' → anyM qs P ops Q fuel ((listed.setIfInBounds i true).setIfInBounds j true) (a'.put oi.dst v) w' → anyM qs P ops Q (fuel + 1) (listed.setIfInBounds j true) a' w' := fun a' w' hy' H' =>
        ih (listed.setIfInBounds j true) a' w' (free_after hfree hjun) (ready_mono hr (Ne.symm hji)) hy' (by rw [Array.setIfInBounds_comm _ _ hji]; exact H')
      unfold opM at h1 ⊢
      split
      · rename_i hc
        rw [if_pos hc] at h1
        exact wpOp_mono (fun a' w' h3 => step a' w' h3.1 h3.2) (wpOp_put hoj hap (fun cs b => hsel i oi cs b hi) (fun cs b => hsel j oj cs b hoj) hQ hy h1)
      · rename_i hc
        rw [if_neg hc] at h1
        obtain ⟨_, _, h3⟩ := Oper.apart_spec hap
        have keep : ∀ u, Yields P ops oi v (a.put oj.dst u) := fun u => hy.of_same (execOp_put oi (fun cs b => hsel i oi cs b hi) a oj.dst u h3) (wanted_put oi a oj.dst u h3)
        obtain ⟨u, hyj, hK⟩ := yieldsAt_of_stOp hoj (stOp_put hoj hap (fun cs b => hsel i oi cs b hi) (fun cs b => hsel j oj cs b hoj) (at_ w a hy) h1)
        exact hyj.stOp hoj (step _ w (keep u) hK.2)

/-- one that leaves the world alone may be taken first, as long as none that turns it can come ahead of it -/
theorem anyM_read {i : Nat} {oi : Oper} {v : Value} {B : List Nat} (hi : ops[i]? = some oi) (hev : isEv qs ops i = false) (hsel : ∀ (j : Nat) (o : Oper) cs b, ops[j]? = some o → o.op ≠ .select cs b)
    (hB : blockOK ops i B = true) :
    ∀ (fuel : Nat) (listed : Array Bool) (a : Act) (w : World),
      (∀ j oj, ops[j]? = some oj → j ≠ i → listed.getD j true = false → (∀ e ∈ oj.after, Region.binds .any e = true → e.on ≠ i) → oi.apart ops oj = true) →
      (∀ j ∈ B, listed.getD j true = false) → (∀ j, listed.getD j true = false → j ∉ B → isEv qs ops j = false) →
      i ∈ Region.ready .any ops listed → YieldsAt P ops w oi v a →
      anyM qs P ops Q fuel (listed.setIfInBounds i true) (a.put oi.dst v) w → anyM qs P ops Q (fuel + 1) listed a w := by
  simp only [blockOK, Bool.and_eq_true, List.all_eq_true, List.contains_iff_mem, Bool.or_eq_true, beq_iff_eq] at hB
  obtain ⟨hiB, hall'⟩ := hB
  have notB : ∀ (listed : Array Bool) (j : Nat), (∀ j ∈ B, listed.getD j true = false) → j ≠ i → j ∈ Region.ready .any ops listed → j ∉ B := by
    intro listed j hun hji hj hjB
    obtain ⟨_, oj, hoj, hall⟩ := mem_ready.1 hj
    rcases hall' j hjB with h | h
    · exact hji h
    · simp only [hoj, Option.map_some, Option.getD_some, Array.any_eq_true', Bool.and_eq_true, List.contains_iff_mem] at h
      obtain ⟨e, he, hb, hin⟩ := h
      have h2 := hall e he hb
      have h3 := hun _ hin
      rcases Nat.lt_or_ge e.on listed.size with h' | h'
      · simp [h'] at h2 h3; rw [h2] at h3; cases h3
      · simp [Array.getElem?_eq_none h'] at h2
  intro fuel
  induction fuel with
  | zero =>
    intro listed a w _ _ _ hr hy H
    refine ⟨fun h => (by rw [h] at hr; cases hr), fun j hj => ?_⟩
    by_cases hji : j = i
    · subst hji; unfold opM; rw [hev, if_neg (by simp)]; exact hy.stOp hi H
    · have := ready_mono hj hji
      rw [H.1] at this
      cases this
  | succ fuel ih =>
    intro listed a w hfree hun hevs hr hy H
    refine ⟨fun h => (by rw [h] at hr; cases hr), fun j hj => ?_⟩
    by_cases hji : j = i
    · subst hji; unfold opM; rw [hev, if_neg (by simp)]; exact hy.stOp hi H
    · have h1 := H.2 j (ready_mono hj hji)
      obtain ⟨hjun, oj, hoj, hall⟩ := mem_ready.1 hj
      have hjB := notB listed j hun hji hj
      have hap := hfree j oj hoj hji hjun (not_waits hr hall)
      have hjev := hevs j hjun hjB
      unfold opM at h1 ⊢
      rw [hjev, if_neg (by simp)] at h1 ⊢
      have h2 := stOp_put hoj hap (fun cs b => hsel i oi cs b hi) (fun cs b => hsel j oj cs b hoj) hy h1
      refine stOp_mono (fun a' h3 => ih (listed.setIfInBounds j true) a' w (free_after hfree hjun) ?_ ?_ (ready_mono hr (Ne.symm hji)) h3.1 ?_) h2
      · intro x hx
        have hne : j ≠ x := fun e => hjB (by rw [e]; exact hx)
        rw [getD_set_ne true hne]; exact hun x hx
      · intro x hx hxB
        refine hevs x ?_ hxB
        by_cases hjx : j = x
        · subst hjx; exact hjun
        · rw [getD_set_ne true hjx] at hx; exact hx
      · rw [Array.setIfInBounds_comm _ _ hji]
        exact h3.2

theorem isEv_of {k : Nat} {o : Oper} (h : ops[k]? = some o) : isEv qs ops k = (cls qs o == 2) := by simp [isEv, h]

theorem yields_move {o : Oper} {a : Act} {w : World} {v : Value} (hc : cls qs o = 0) (hy : YieldsAt P ops w o v a) : Yields P ops o v a := by
  obtain ⟨dst, op, type, pos, after, guard⟩ := o
  have h0 : (∃ x, op = .move x) ∨ (∃ x, op = .assign x) := by
    revert hc
    unfold cls
    cases op <;> simp only [] <;> first
      | (intro _; exact .inl ⟨_, rfl⟩)
      | (intro _; exact .inr ⟨_, rfl⟩)
      | (intro h; cases h)
      | (intro h; exfalso; revert h; repeat' split
         all_goals (intro h; cases h))
  clear hc
  rcases hy with ⟨hw, h⟩ | h
  · refine .inl ⟨hw, ?_⟩
    rcases h0 with ⟨x, rfl⟩ | ⟨x, rfl⟩ <;>
      (simp only [execOp, Sem.run_pure, Result.ok.injEq, Next.value.injEq, and_true] at h ⊢
       intro _
       rcases h with h | ⟨h, _⟩ | ⟨_, _, h, _⟩ <;> first | exact h | cases h)
  · exact .inr h

theorem anyM_lex (hQ : ∀ c a w, ¬ Q (.panic c) a w) (hs : Region.noSelect ops = true) : ∀ (l : List Oper) (k : Nat) (listed : Array Bool) (a : Act) (w : World), (∀ j, l[j]? = ops[k + j]?) →
    lexM qs ops l.length k listed = true → wpMix qs P ops Q l a w → anyM qs P ops Q l.length listed a w
  | [], _, _, _, _, _, hB, h => ⟨by simpa [lexM] using hB, h⟩
  | o :: l, k, listed, a, w, hl, hB, h => by
    have h0 : ops[k]? = some o := by simpa using (hl 0).symm
    have hl' : ∀ j, l[j]? = ops[k + 1 + j]? := fun j => by have := hl (j + 1); simpa [Nat.add_assoc, Nat.add_comm 1 j] using this
    have hsel := Region.noSelect_spec hs
    have hcls := isEv_of (qs := qs) h0
    simp only [List.length_cons, lexM, h0, Bool.and_eq_true] at hB
    obtain ⟨hB0, hB1⟩ := hB
    unfold wpMix at h
    by_cases hc : cls qs o = 2
    · rw [if_pos hc] at h
      rw [if_pos (by simpa using hc)] at hB0
      have hr : Region.ready .any ops listed = [k] := by simpa using hB0
      refine ⟨fun h1 => (by rw [h1] at hr; cases hr), fun i hi => ?_⟩
      rw [hr] at hi
      have hik : i = k := by simpa using hi
      subst hik
      unfold opM
      rw [hcls, hc, if_pos (by simp)]
      have hw : wpOp P ops Q i (wpMix qs P ops Q l) a w := by
        unfold wpOp; simp only [h0]
        split
        · rename_i hw; rw [if_pos hw] at h; exact .inl h
        · rename_i hw; rw [if_neg hw] at h; exact h
      exact wpOp_mono (fun a' w' h' => anyM_lex hQ hs l (i + 1) _ a' w' hl' hB1 h') hw
    · rw [if_neg hc] at h
      rw [if_neg (by simpa using hc)] at hB0
      simp only [Bool.and_eq_true, Bool.or_eq_true, beq_iff_eq] at hB0
      obtain ⟨⟨hr, hf⟩, hno⟩ := hB0
      have hev : isEv qs ops k = false := by rw [hcls]; simpa using hc
      have hst : stOp P ops w k (fun a' => wpMix qs P ops Q l a' w) a := by unfold stOp; simp only [h0]; exact h
      obtain ⟨v, hy, hK⟩ := yieldsAt_of_stOp h0 hst
      have IH := anyM_lex hQ hs l (k + 1) _ _ w hl' hB1 hK
      rcases hno with hno | hno
      · exact anyM_pure h0 hev hsel (fun c a w hh => absurd hh (hQ c _ w)) l.length listed a w (Region.free_spec h0 hf) (by simpa using hr) (yields_move hno hy) IH
      · simp only [noOver, Bool.and_eq_true, List.all_eq_true, Bool.not_eq_true', List.mem_range, Bool.or_eq_true, List.contains_iff_mem] at hno
        obtain ⟨⟨hok, hun⟩, hevs⟩ := hno
        refine anyM_read h0 hev hsel hok l.length listed a w (Region.free_spec h0 hf) hun ?_ (by simpa using hr) hy IH
        intro j hj hjB
        rcases Nat.lt_or_ge j ops.size with hlt | hge
        · rcases hevs j hlt with (h1 | h1) | h1
          · rw [hj] at h1; cases h1
          · exact absurd h1 hjB
          · exact h1
        · simp [isEv, Array.getElem?_eq_none hge]

/-- A REGION THAT DRAWS ITS ORDER, WALKED IN THE ORDER OF ITS TEXT -/
theorem wp_region_mix {id : Nat} {Q : Exit → Act → World → Prop} {a : Act} {w : World} {l : List Oper} (qs : List Nat) (hm : P.follows .mixedOrders = true) (hB : mixB qs l.toArray = true)
    (h : wpMix qs P l.toArray (calm Q) l a w.drew) : (Code.region id l.toArray true).wp P Q a w := by
  simp only [mixB, Bool.and_eq_true] at hB
  refine Code.wp_mono calm_le (wp_region_any hm (any_of_anyM (qs := qs) _ _ _ _ ?_))
  change wpMix qs P l.toArray (calm Q) l a { w with drawn := w.drawn + 1 } at h
  have := anyM_lex (P := P) (Q := calm Q) (fun _ _ _ h => h) hB.1 l 0 (Array.replicate l.toArray.size false) a { w with drawn := w.drawn + 1 } (by simp) (by simpa using hB.2) h
  simpa using this
end
end Go.Proofs.YthmknddfkmklfaaGreatDoor.Mix
namespace Go.Proofs.YthmknddfkmklfaaGreatDoor.Mix
open Go
/-- an operation without its edges -/
def upS (P : Program) (dst : Option Tmp) (a : Act) (w : World) (next : Act → Prop) : Result Next → Prop
  | .ok (.value v) w' => w' = w ∧ next (a.put dst v)
  | .ok .skip w' => w' = w ∧ next (a.put dst undef)
  | .ok (.enter f args) w' => w' = w ∧ ∃ v, Calls P f args w (fun e w'' => e = .returned v ∧ w'' = w) ∧ next (a.put dst v)
  | _ => False
def upE (P : Program) (dst : Option Tmp) (a : Act) (next : Act → World → Prop) : Result Next → Prop
  | .ok (.value v) w' => next (a.put dst v) w'
  | .ok .skip w' => next (a.put dst undef) w'
  | .ok (.enter f args) w' => Calls P f args w' fun e w'' => match e with
      | .returned v => next (a.put dst v) w''
      | _ => False
  | _ => False
section
variable {qs : List Nat} {P : Program} {ops : Array Oper} {Q : Exit → Act → World → Prop} {a : Act} {w : World} {rest : List Oper}
variable {dst : Option Tmp} {op : Op} {ty : TypeId} {pos : String} {aft : Array Edge}
theorem wpMix_move {x : Operand} (h : wpMix qs P ops Q rest (a.put dst (a.eval x)) w) : wpMix qs P ops Q (⟨dst, .move x, ty, pos, aft, none⟩ :: rest) a w := by
  refine wpMix_still (by simp [cls]) fun K hK => ?_
  simp only [Region.wanted, if_true, Oper.still, execOp, Sem.run_pure, Oper.stillUpon]
  exact ⟨trivial, hK _ h⟩
theorem wpMix_assign {x : Operand} (h : wpMix qs P ops Q rest (a.put dst (a.eval x)) w) : wpMix qs P ops Q (⟨dst, .assign x, ty, pos, aft, none⟩ :: rest) a w := by
  refine wpMix_still (by simp [cls]) fun K hK => ?_
  simp only [Region.wanted, if_true, Oper.still, execOp, Sem.run_pure, Oper.stillUpon]
  exact ⟨trivial, hK _ h⟩
theorem execOp_bare (ρ : Operand → Value) (g : Option (Nat × Bool)) : execOp ρ ⟨dst, op, ty, pos, aft, g⟩ = execOp ρ ⟨none, op, ty, "", #[], none⟩ := by
  cases op <;> rfl
theorem wpMix_s (hc : (cls qs ⟨none, op, ty, "", #[], none⟩ == 2) = false)
    (h : ∀ K : Act → Prop, (∀ a', wpMix qs P ops Q rest a' w → K a') → upS P dst a w K ((execOp a.eval ⟨none, op, ty, "", #[], none⟩).run P w)) : wpMix qs P ops Q (⟨dst, op, ty, pos, aft, none⟩ :: rest) a w := by
  refine wpMix_still (o := ⟨dst, op, ty, pos, aft, none⟩) hc fun K hK => ?_
  have h1 := h K hK
  simp only [Region.wanted, if_true, Oper.still]
  rw [execOp_bare]
  revert h1
  generalize (execOp a.eval ⟨none, op, ty, "", #[], none⟩).run P w = r
  cases r with
  | ok n w' => cases n <;> exact fun h => h
  | halt x w' => exact fun h => h
theorem wpMix_e (hc : (cls qs ⟨none, op, ty, "", #[], none⟩ == 2) = true)
    (h : ∀ K : Act → World → Prop, (∀ a' w', wpMix qs P ops Q rest a' w' → K a' w') → upE P dst a K ((execOp a.eval ⟨none, op, ty, "", #[], none⟩).run P w)) : wpMix qs P ops Q (⟨dst, op, ty, pos, aft, none⟩ :: rest) a w := by
  refine wpMix_event (o := ⟨dst, op, ty, pos, aft, none⟩) hc fun K hK => ?_
  have h1 := h K hK
  simp only [Region.wanted, if_true, Oper.wp]
  rw [execOp_bare]
  revert h1
  generalize (execOp a.eval ⟨none, op, ty, "", #[], none⟩).run P w = r
  cases r with
  | ok n w' =>
    cases n <;> first
      | exact fun h => h
      | exact fun h => h.elim
      | exact fun h => Calls.mono h fun e w'' he => by cases e <;> first | exact he | exact he.elim
  | halt x w' => exact fun h => h.elim
end
attribute [go_sem] upS upE
end Go.Proofs.YthmknddfkmklfaaGreatDoor.Mix
/- A layer of our own over the rules of the walk: code is walked with a list of the slots that are known. Nothing is assumed. -/
namespace Go.Proofs.YthmknddfkmklfaaGreatDoor.Vm
open Go Mix

abbrev Kn := List (Nat × Value)
/-- what a slot is known to hold: the first entry counts -/
def look : Kn → Nat → Option Value
  | [], _ => none
  | (d, v) :: l, t => bif Nat.beq d t then some v else look l t
def ev (l : Kn) : Operand → Option Value
  | .tmp t => look l t
  | .const v => some v
  | .global g => some (.pointer (some ⟨g, 0, none⟩))
  | .func f => some (.func (.func f) #[] #[])
/-- a frame of n slots with these deferred calls holds what is listed -/
structure Fr (a : Act) (n : Nat) (ds : List Deferred) (l : Kn) : Prop where
  defers : a.defers = ds
  size : a.tmps.size = n
  get : ∀ t v, look l t = some v → a.tmps.getD t undef = v
def subK (l : Kn) : Kn → Prop
  | [] => True
  | (d, v) :: r => look l d = some v ∧ subK l r
theorem look_sub {l : Kn} : ∀ {r : Kn}, subK l r → ∀ t v, look r t = some v → look l t = some v
  | [], _, _, _, h => by cases h
  | (d, u) :: r, hs, t, v, h => by
    obtain ⟨h0, h1⟩ := hs
    unfold look at h
    cases hb : Nat.beq d t with
    | true =>
      rw [hb] at h
      have : d = t := Nat.eq_of_beq_eq_true hb
      subst this
      exact h0.trans h
    | false => rw [hb] at h; exact look_sub h1 t v h

section
variable {a : Act} {n : Nat} {ds : List Deferred} {l : Kn}
theorem Fr.sub {r : Kn} (h : Fr a n ds l) (hs : subK l r) : Fr a n ds r := ⟨h.defers, h.size, fun t v hv => h.get t v (look_sub hs t v hv)⟩
theorem Fr.ev (h : Fr a n ds l) {x : Operand} {v : Value} (hx : ev l x = some v) : a.eval x = v := by
  cases x with
  | tmp t => exact h.get t v hx
  | const u => exact Option.some.inj hx
  | global g => exact Option.some.inj hx
  | func f => exact Option.some.inj hx
theorem Fr.put (h : Fr a n ds l) {d : Nat} (hd : Nat.blt d n = true) (v : Value) : Fr (a.put (some d) v) n ds ((d, v) :: l) := by
  have hdn : d < a.tmps.size := by rw [h.size]; simpa using hd
  refine ⟨h.defers, by simp [Act.put, h.size], fun t u hu => ?_⟩
  unfold look at hu
  cases hb : Nat.beq d t with
  | true =>
    rw [hb] at hu
    have : d = t := Nat.eq_of_beq_eq_true hb
    subst this
    simp only [cond_true, Option.some.injEq] at hu
    subst hu
    simp [Act.put, hdn]
  | false =>
    rw [hb] at hu
    have hne : d ≠ t := fun e => by subst e; simp at hb
    have := h.get t u hu
    simpa [Act.put, Array.getElem?_setIfInBounds_ne hne] using this
end

/-- what stands behind the code that is walked -/
inductive KI where
  | seq (y : Code)
  | block (id : Nat)
  | loop (I : Nat → Act → World → Prop) (k : Nat)
def post (P : Program) (B : Exit → Act → World → Prop) : List KI → Exit → Act → World → Prop
  | [] => B
  | .seq y :: ks => Exit.then (fun a w => y.wp P (post P B ks) a w) (post P B ks)
  | .block id :: ks => Exit.inBlock id (post P B ks)
  | .loop I k :: ks => Exit.then (fun a w => ∃ k', k' < k ∧ I k' a w) (post P B ks)
def exitK (id : Nat) : List KI → Option (List KI)
  | [] => none
  | .block i :: ks => bif Nat.beq id i then some ks else exitK id ks
  | _ :: ks => exitK id ks
theorem post_exit {P : Program} {B : Exit → Act → World → Prop} {id : Nat} {ks' : List KI} {a : Act} {w : World} (h : post P B ks' .normal a w) :
    ∀ ks, exitK id ks = some ks' → post P B ks (.exit id) a w
  | [], h => by cases h
  | .seq _ :: ks, hk => post_exit h ks hk
  | .loop _ _ :: ks, hk => post_exit h ks hk
  | .block i :: ks, hk => by
    unfold exitK at hk
    cases hb : Nat.beq id i with
    | true =>
      rw [hb] at hk
      simp only [cond_true, Option.some.injEq] at hk
      subst hk
      simp only [post, Exit.inBlock, if_pos (Nat.eq_of_beq_eq_true hb)]
      exact h
    | false =>
      rw [hb] at hk
      have hne : id ≠ i := fun e => by subst e; simp at hb
      simp only [post, Exit.inBlock, if_neg hne]
      exact post_exit h ks hk
theorem post_ret {P : Program} {B : Exit → Act → World → Prop} {a : Act} {w : World} (h : B .ret a w) : ∀ ks, post P B ks .ret a w
  | [] => h
  | .seq _ :: ks => post_ret h ks
  | .loop _ _ :: ks => post_ret h ks
  | .block _ :: ks => post_ret h ks

structure Cx where
  P : Program
  n : Nat
  B : Exit → Act → World → Prop
def WC (X : Cx) (c : Code) (ks : List KI) (ds : List Deferred) (l : Kn) (w : World) : Prop := ∀ a, Fr a X.n ds l → c.wp X.P (post X.P X.B ks) a w
def WN (X : Cx) (ks : List KI) (ds : List Deferred) (l : Kn) (w : World) : Prop := ∀ a, Fr a X.n ds l → post X.P X.B ks .normal a w
def WR (X : Cx) (m : Option (List Nat)) (ops : Array Oper) (rest : List Oper) (ks : List KI) (ds : List Deferred) (l : Kn) (w : World) : Prop :=
  ∀ a, Fr a X.n ds l → match m with
    | none => wpList X.P ops (post X.P X.B ks) rest a w
    | some qs => wpMix qs X.P ops (calm (post X.P X.B ks)) rest a w
/-- a call that comes back -/
def Ret (P : Program) (f : FuncId) (args : Array Value) (w : World) (R : Value → World → Prop) : Prop := Calls P f args w fun e w' => ∃ v, e = .returned v ∧ R v w'
theorem Ret.mono {P : Program} {f : FuncId} {args : Array Value} {w : World} {R R' : Value → World → Prop} (h : Ret P f args w R) (hr : ∀ v w', R v w' → R' v w') : Ret P f args w R' :=
  Calls.mono h fun _ _ ⟨v, e, hv⟩ => ⟨v, e, hr v _ hv⟩

/-- the frame at a function's head -/
def args0 : Nat → List Value → Kn
  | _, [] => []
  | i, v :: vs => (i, v) :: args0 (i + 1) vs
theorem look_args0 : ∀ (vs : List Value) (i t : Nat) (v : Value), look (args0 i vs) t = some v → i ≤ t ∧ vs[t - i]? = some v
  | [], _, _, _, h => by cases h
  | u :: vs, i, t, v, h => by
    unfold args0 look at h
    cases hb : Nat.beq i t with
    | true =>
      rw [hb] at h
      have : i = t := Nat.eq_of_beq_eq_true hb
      subst this
      simpa using h
    | false =>
      rw [hb] at h
      obtain ⟨h1, h2⟩ := look_args0 vs (i + 1) t v h
      refine ⟨by omega, ?_⟩
      rw [show t - i = (t - (i + 1)) + 1 by omega]
      simpa using h2
theorem Fr.enter (n : Nat) (vs : List Value) (h : vs.length ≤ n) : Fr ⟨vs.toArray ++ Array.replicate (n - vs.toArray.size) undef, []⟩ n [] (args0 0 vs) := by
  refine ⟨rfl, by simp; omega, fun t v hv => ?_⟩
  obtain ⟨_, h2⟩ := look_args0 vs 0 t v hv
  have hlt : t < vs.length := by
    rcases Nat.lt_or_ge t vs.length with h | h
    · exact h
    · simp [h] at h2
  simp only [Nat.sub_zero] at h2
  rw [Array.getD_eq_getD_getElem?, Array.getElem?_append_left (by simpa using hlt)]
  simp [h2]
theorem Ret.enter {P : Program} {f : FuncId} {fn : Func} {n : Nat} {c : Code} {vs : List Value} {w : World} {R : Value → World → Prop} (hf : P.funcs[f]? = some fn) (hn : fn.ntmps = n) (hb : fn.body = some c)
    (hl : Nat.ble vs.length n = true) (h : WC ⟨P, n, bodyPost P fn fun e w' => ∃ v, e = .returned v ∧ R v w'⟩ c [] [] (args0 0 vs) w) : Ret P f vs.toArray w R := by
  refine calls_of_wp hf hb ?_
  rw [hn]
  exact h _ (Fr.enter n vs (by simpa using hl))

section
variable {X : Cx} {c x y : Code} {ks ks' : List KI} {ds : List Deferred} {l l' : Kn} {w : World} {id : Nat}
theorem WC.seq (h : WC X x (.seq y :: ks) ds l w) : WC X (.seq x y) ks ds l w := fun a ha => wp_seq (h a ha)
theorem WC.region {lo : List Oper} (h : WR X none lo.toArray lo ks ds l w) : WC X (.region id lo.toArray false) ks ds l w := fun a ha => wp_region_lit (h a ha)
theorem WC.mix {lo : List Oper} (qs : List Nat) (hm : X.P.follows .mixedOrders = true) (hB : mixB qs lo.toArray = true) (h : WR X (some qs) lo.toArray lo ks ds l w.drew) : WC X (.region id lo.toArray true) ks ds l w :=
  fun a ha => wp_region_mix qs hm hB (h a ha)
theorem WC.block (h : WC X c (.block id :: ks) ds l w) : WC X (.block id c) ks ds l w := fun a ha => wp_block (h a ha)
theorem WC.skip (h : WN X ks ds l w) : WC X .skip ks ds l w := fun a ha => wp_skip (h a ha)
theorem WC.exit (hk : exitK id ks = some ks') (h : WN X ks' ds l w) : WC X (.exit id) ks ds l w := fun a ha => wp_exit (post_exit (h a ha) ks hk)
theorem WC.ret (h : ∀ a, Fr a X.n ds l → X.B .ret a w) : WC X .ret ks ds l w := fun a ha => wp_ret (post_ret (h a ha) ks)
theorem WC.cond {o : Operand} {b : Bool} (hc : ev l o = some (.bool b)) (ht : b = true → WC X x ks ds l w) (hf : b = false → WC X y ks ds l w) : WC X (.cond o x y) ks ds l w :=
  fun a ha => wp_cond_split (ha.ev hc) (fun e => ht e a ha) (fun e => hf e a ha)
theorem WC.weak (l' : Kn) (hs : subK l l') (h : WC X c ks ds l' w) : WC X c ks ds l w := fun a ha => h a (ha.sub hs)
theorem WN.weak (l' : Kn) (hs : subK l l') (h : WN X ks ds l' w) : WN X ks ds l w := fun a ha => h a (ha.sub hs)
theorem WN.seq (h : WC X y ks ds l w) : WN X (.seq y :: ks) ds l w := fun a ha => h a ha
theorem WN.block (h : WN X ks ds l w) : WN X (.block id :: ks) ds l w := fun a ha => h a ha
theorem WR.nil {m : Option (List Nat)} {ops : Array Oper} (h : WN X ks ds l w) : WR X m ops [] ks ds l w := fun a ha => by
  cases m with
  | none => exact h a ha
  | some qs => exact h a ha
theorem WN.nil (h : ∀ a, Fr a X.n ds l → X.B .normal a w) : WN X [] ds l w := h

/-- a loop's relation: some known slots that hang on x, and what holds of x and the world -/
def rel {α : Type} (n : Nat) (ds : List Deferred) (L : α → Kn) (Inv : Nat → α → World → Prop) : Nat → Act → World → Prop := fun k a w => ∃ x, Fr a n ds (L x) ∧ Inv k x w
theorem WC.loop {α : Type} (L : α → Kn) (Inv : Nat → α → World → Prop) (k₀ : Nat) (x₀ : α) (hs : subK l (L x₀)) (h₀ : Inv k₀ x₀ w)
    (round : ∀ k x w, Inv k x w → WC X c (.loop (rel X.n ds L Inv) k :: ks) ds (L x) w) : WC X (.loop c) ks ds l w := fun _ ha =>
  wp_loop_ghost (rel X.n ds L Inv) k₀ ⟨x₀, ha.sub hs, h₀⟩ fun k _ w ⟨x, hx, hI⟩ => round k x w hI _ hx
theorem WN.loop {α : Type} {L : α → Kn} {Inv : Nat → α → World → Prop} {k : Nat} (k' : Nat) (x : α) (hlt : k' < k) (hs : subK l (L x)) (hI : Inv k' x w) : WN X (.loop (rel X.n ds L Inv) k :: ks) ds l w :=
  fun _ ha => ⟨k', hlt, x, ha.sub hs, hI⟩
/-- several ways come together: what follows is walked once -/
theorem WN.meet {α : Type} (L : α → Kn) (Inv : α → World → Prop) (hk : ∀ x w, Inv x w → WN X ks ds (L x) w) (x : α) (hs : subK l (L x)) (hI : Inv x w) : WN X ks ds l w :=
  fun a ha => hk x w hI a (ha.sub hs)
end

/-- results -/
def resK (l : Kn) : List ResultVar → Option (List Value)
  | [] => some []
  | .tmp t :: rs => match look l t, resK l rs with
    | some v, some vs => some (v :: vs)
    | _, _ => none
  | .cell .. :: _ => none
theorem run_resK {P : Program} {a : Act} {n : Nat} {ds : List Deferred} {l : Kn} {w : World} {g : ResultVar → Sem Value} (hg : ∀ t, g (.tmp t) = pure (a.tmps.getD t undef)) (ha : Fr a n ds l) :
    ∀ {rs : List ResultVar} {vs : List Value}, resK l rs = some vs → (rs.mapM g).run P w = .ok vs w
  | [], vs, h => by simp only [resK, Option.some.injEq] at h; subst h; rfl
  | .tmp t :: rs, vs, h => by
    unfold resK at h
    cases hl : look l t with
    | none => rw [hl] at h; cases h
    | some v =>
      cases hr : resK l rs with
      | none => rw [hl, hr] at h; cases h
      | some us =>
        rw [hl, hr] at h
        simp only [Option.some.injEq] at h
        subst h
        have := run_resK (P := P) (w := w) hg ha hr
        rw [List.mapM_cons, hg]
        simp only [Sem.run_bind, Sem.run_pure, Result.andThen_ok, this, ha.get t v hl]
  | .cell _ _ :: _, _, h => by cases h
def tupV : List Value → Value
  | [v] => v
  | vs => .tuple vs.toArray
theorem run_results {P : Program} {fn : Func} {a : Act} {n : Nat} {ds : List Deferred} {l : Kn} {w : World} {rs : List ResultVar} {vs : List Value} (hrs : fn.results = rs.toArray) (ha : Fr a n ds l) (hv : resK l rs = some vs) :
    (results fn a.tmps).run P w = .ok (tupV vs) w := by
  unfold results
  rw [hrs, List.mapM_toArray]
  simp only [map_eq_pure_bind, Sem.run_bind]
  rw [run_resK (P := P) (w := w) (fun _ => rfl) ha hv]
  simp only [Result.andThen_ok, Sem.run_pure]
  match vs with
  | [] => rfl
  | [v] => rfl
  | u :: v :: r => simp [tupV]
theorem ret_of {P : Program} {fn : Func} {R : Value → World → Prop} {n : Nat} {l : Kn} {w : World} {rs : List ResultVar} {vs : List Value} (hrs : fn.results = rs.toArray) (hv : resK l rs = some vs)
    (h : R (tupV vs) w) (a : Act) (ha : Fr a n [] l) : bodyPost P fn (fun e w' => ∃ v, e = .returned v ∧ R v w') .ret a w :=
  ⟨ha.defers, _, run_results hrs ha hv, _, rfl, h⟩
theorem end_of {P : Program} {fn : Func} {R : Value → World → Prop} {n : Nat} {l : Kn} {w : World} {rs : List ResultVar} {vs : List Value} (hrs : fn.results = rs.toArray) (hv : resK l rs = some vs)
    (h : R (tupV vs) w) (a : Act) (ha : Fr a n [] l) : bodyPost P fn (fun e w' => ∃ v, e = .returned v ∧ R v w') .normal a w :=
  ⟨ha.defers, _, run_results hrs ha hv, _, rfl, h⟩
theorem WC.retR {P : Program} {fn : Func} {R : Value → World → Prop} {n : Nat} {ks : List KI} {l : Kn} {w : World} {rs : List ResultVar} {vs : List Value} (hrs : fn.results = rs.toArray) (hv : resK l rs = some vs)
    (h : R (tupV vs) w) : WC ⟨P, n, bodyPost P fn fun e w' => ∃ v, e = .returned v ∧ R v w'⟩ .ret ks [] l w := WC.ret fun a ha => ret_of hrs hv h a ha
theorem WN.endR {P : Program} {fn : Func} {R : Value → World → Prop} {n : Nat} {l : Kn} {w : World} {rs : List ResultVar} {vs : List Value} (hrs : fn.results = rs.toArray) (hv : resK l rs = some vs)
    (h : R (tupV vs) w) : WN ⟨P, n, bodyPost P fn fun e w' => ∃ v, e = .returned v ∧ R v w'⟩ [] [] l w := fun a ha => end_of hrs hv h a ha
end Go.Proofs.YthmknddfkmklfaaGreatDoor.Vm
/- One lemma an operation, over the layer Vm. -/
namespace Go.Proofs.YthmknddfkmklfaaGreatDoor.Vm
open Go Mix

theorem kint {l : Kn} {t : Nat} {k : IntKind} {a b : Int} (h : look l t = some (.int k a)) (e : a = b) : look l t = some (.int k b) := by rw [h, e]
def stillOK (m : Option (List Nat)) (op : Op) (ty : TypeId) : Bool := match m with | none => true | some qs => cls qs ⟨none, op, ty, "", #[], none⟩ != 2
def eventOK (m : Option (List Nat)) (op : Op) (ty : TypeId) : Bool := match m with | none => true | some qs => cls qs ⟨none, op, ty, "", #[], none⟩ == 2
abbrev bare (op : Op) (ty : TypeId) : Oper := ⟨none, op, ty, "", #[], none⟩

section
variable {X : Cx} {m : Option (List Nat)} {ops : Array Oper} {rest : List Oper} {ks : List KI} {ds : List Deferred} {l : Kn} {w w' : World} {d ty : Nat} {op : Op} {pos : String} {aft : Array Edge} {v : Value}

theorem WR.weak (l' : Kn) (hs : subK l l') (h : WR X m ops rest ks ds l' w) : WR X m ops rest ks ds l w := fun a ha => h a (ha.sub hs)

theorem WR.still (hd : Nat.blt d X.n = true) (hc : stillOK m op ty = true) (hrun : ∀ a, Fr a X.n ds l → (execOp a.eval (bare op ty)).run X.P w = .ok (.value v) w)
    (k : WR X m ops rest ks ds ((d, v) :: l) w) : WR X m ops (⟨some d, op, ty, pos, aft, none⟩ :: rest) ks ds l w := by
  intro a ha
  have hk := k _ (ha.put hd v)
  have hr := hrun a ha
  cases m with
  | none =>
    refine wpList_plain rfl fun K hK => ?_
    unfold Oper.wp
    rw [execOp_bare, hr]
    exact hK _ _ hk
  | some qs =>
    refine wpMix_s (by simpa [stillOK] using hc) fun K hK => ?_
    rw [hr]
    exact ⟨rfl, hK _ hk⟩
theorem WR.event (hd : Nat.blt d X.n = true) (hc : eventOK m op ty = true) (hrun : ∀ a, Fr a X.n ds l → (execOp a.eval (bare op ty)).run X.P w = .ok (.value v) w')
    (k : WR X m ops rest ks ds ((d, v) :: l) w') : WR X m ops (⟨some d, op, ty, pos, aft, none⟩ :: rest) ks ds l w := by
  intro a ha
  have hk := k _ (ha.put hd v)
  have hr := hrun a ha
  cases m with
  | none =>
    refine wpList_plain rfl fun K hK => ?_
    unfold Oper.wp
    rw [execOp_bare, hr]
    exact hK _ _ hk
  | some qs =>
    refine wpMix_e (by simpa [eventOK] using hc) fun K hK => ?_
    rw [hr]
    exact hK _ _ hk
theorem WR.eventN (hc : eventOK m op ty = true) (hrun : ∀ a, Fr a X.n ds l → (execOp a.eval (bare op ty)).run X.P w = .ok .skip w')
    (k : WR X m ops rest ks ds l w') : WR X m ops (⟨none, op, ty, pos, aft, none⟩ :: rest) ks ds l w := by
  intro a ha
  have hk := k _ ha
  have hr := hrun a ha
  cases m with
  | none =>
    refine wpList_plain rfl fun K hK => ?_
    unfold Oper.wp
    rw [execOp_bare, hr]
    exact hK _ _ hk
  | some qs =>
    refine wpMix_e (by simpa [eventOK] using hc) fun K hK => ?_
    rw [hr]
    exact hK _ _ hk
theorem WR.call {f : FuncId} {vs : Array Value} {R : Value → World → Prop} (hd : Nat.blt d X.n = true) (hc : eventOK m op ty = true) (hrun : ∀ a, Fr a X.n ds l → (execOp a.eval (bare op ty)).run X.P w = .ok (.enter f vs) w)
    (hcall : Ret X.P f vs w R) (k : ∀ v w', R v w' → WR X m ops rest ks ds ((d, v) :: l) w') : WR X m ops (⟨some d, op, ty, pos, aft, none⟩ :: rest) ks ds l w := by
  intro a ha
  have hr := hrun a ha
  cases m with
  | none =>
    refine wpList_plain rfl fun K hK => ?_
    unfold Oper.wp
    rw [execOp_bare, hr]
    refine Calls.mono hcall fun e w' ⟨v, he, hv⟩ => ?_
    subst he
    exact hK _ _ (k v w' hv _ (ha.put hd v))
  | some qs =>
    refine wpMix_e (by simpa [eventOK] using hc) fun K hK => ?_
    rw [hr]
    refine Calls.mono hcall fun e w' ⟨v, he, hv⟩ => ?_
    subst he
    exact hK _ _ (k v w' hv _ (ha.put hd v))
/-- a call that leaves the world alone -/
theorem WR.callS {f : FuncId} {vs : Array Value} (hd : Nat.blt d X.n = true) (hc : stillOK m op ty = true) (hrun : ∀ a, Fr a X.n ds l → (execOp a.eval (bare op ty)).run X.P w = .ok (.enter f vs) w)
    (hcall : Ret X.P f vs w fun u w' => u = v ∧ w' = w) (k : WR X m ops rest ks ds ((d, v) :: l) w) : WR X m ops (⟨some d, op, ty, pos, aft, none⟩ :: rest) ks ds l w := by
  intro a ha
  have hr := hrun a ha
  have hk := k _ (ha.put hd v)
  cases m with
  | none =>
    refine wpList_plain rfl fun K hK => ?_
    unfold Oper.wp
    rw [execOp_bare, hr]
    refine Calls.mono hcall fun e w' ⟨u, he, hv, hw⟩ => ?_
    subst he; subst hv; subst hw
    exact hK _ _ hk
  | some qs =>
    refine wpMix_s (by simpa [stillOK] using hc) fun K hK => ?_
    rw [hr]
    exact ⟨rfl, v, Calls.mono hcall fun e w' ⟨u, he, hv, hw⟩ => ⟨by rw [he, hv], hw⟩, hK _ hk⟩
/-- a guarded operation: taken -/
theorem WR.take {dst : Option Tmp} {j t : Nat} {b want : Bool} (hj : (ops[j]?).bind (·.dst) = some t) (hb : look l t = some (.bool b)) (he : b = want)
    (k : WR X m ops (⟨dst, op, ty, pos, aft, none⟩ :: rest) ks ds l w) : WR X m ops (⟨dst, op, ty, pos, aft, some (j, want)⟩ :: rest) ks ds l w := by
  subst he
  intro a ha
  have hk := k a ha
  have hwt : Region.wanted ⟨dst, op, ty, pos, aft, some (j, b)⟩ (yielded ops a.tmps) = true := by
    have hg := ha.get t _ hb
    rw [Array.getD_eq_getD_getElem?] at hg
    unfold Region.wanted yielded
    simp only [hj]
    cases hq : a.tmps[t]? with
    | none => rw [hq] at hg; cases hg
    | some u => rw [hq] at hg; simp only [Option.getD_some] at hg; subst hg; simp [hq]
  cases m with
  | none =>
    show wpList _ _ _ _ _ _
    have hk' : wpList X.P ops (post X.P X.B ks) (⟨dst, op, ty, pos, aft, none⟩ :: rest) a w := hk
    unfold wpList at hk' ⊢
    rw [if_pos hwt]
    simp only [Region.wanted, if_true] at hk'
    refine hk'.imp (fun h => ?_) (fun h => ?_)
    · unfold Oper.wp at h ⊢
      rw [execOp_bare] at h ⊢
      revert h
      generalize (execOp a.eval ⟨none, op, ty, "", #[], none⟩).run X.P w = r
      cases r with
      | ok n w' => cases n <;> exact fun h => h
      | halt x w' => cases x <;> exact fun h => h
    · unfold Oper.asks at h ⊢
      rw [execOp_bare] at h ⊢
      exact h
  | some qs =>
    show wpMix _ _ _ _ _ _ _
    have hk' : wpMix qs X.P ops (calm (post X.P X.B ks)) (⟨dst, op, ty, pos, aft, none⟩ :: rest) a w := hk
    unfold wpMix at hk' ⊢
    have hcl : cls qs ⟨dst, op, ty, pos, aft, some (j, b)⟩ = cls qs ⟨dst, op, ty, pos, aft, none⟩ := rfl
    rw [hcl]
    by_cases hc : cls qs ⟨dst, op, ty, pos, aft, none⟩ = 2
    · rw [if_pos hc] at hk' ⊢
      rw [if_pos hwt]
      simp only [Region.wanted, if_true] at hk'
      unfold Oper.wp at hk' ⊢
      rw [execOp_bare] at hk' ⊢
      revert hk'
      generalize (execOp a.eval ⟨none, op, ty, "", #[], none⟩).run X.P w = r
      cases r with
      | ok n w' => cases n <;> exact fun h => h
      | halt x w' => cases x <;> exact fun h => h
    · rw [if_neg hc] at hk' ⊢
      rw [if_pos hwt]
      simp only [Region.wanted, if_true] at hk'
      unfold Oper.still at hk' ⊢
      rw [execOp_bare] at hk' ⊢
      revert hk'
      generalize (execOp a.eval ⟨none, op, ty, "", #[], none⟩).run X.P w = r
      cases r with
      | ok n w' => cases n <;> exact fun h => h
      | halt x w' => cases x <;> exact fun h => h
/-- a guarded operation: passed over -/
theorem WR.pass {j t : Nat} {b want : Bool} (hd : Nat.blt d X.n = true) (hj : (ops[j]?).bind (·.dst) = some t) (hb : look l t = some (.bool b)) (he : b = !want)
    (k : WR X m ops rest ks ds ((d, undef) :: l) w) : WR X m ops (⟨some d, op, ty, pos, aft, some (j, want)⟩ :: rest) ks ds l w := by
  subst he
  intro a ha
  have hk := k _ (ha.put hd undef)
  have hwt : Region.wanted ⟨some d, op, ty, pos, aft, some (j, want)⟩ (yielded ops a.tmps) = false := by
    have hg := ha.get t _ hb
    rw [Array.getD_eq_getD_getElem?] at hg
    unfold Region.wanted yielded
    simp only [hj]
    cases hq : a.tmps[t]? with
    | none => rw [hq] at hg; cases hg
    | some u => rw [hq] at hg; simp only [Option.getD_some] at hg; subst hg; simp [hq]
  cases m with
  | none =>
    show wpList _ _ _ _ _ _
    unfold wpList
    rw [hwt, if_neg (by simp)]
    exact hk
  | some qs =>
    show wpMix _ _ _ _ _ _ _
    unfold wpMix
    rw [hwt]
    split
    · rw [if_neg (by simp)]; exact hk
    · rw [if_neg (by simp)]; exact hk
theorem WR.passN {j t : Nat} {b want : Bool} (hj : (ops[j]?).bind (·.dst) = some t) (hb : look l t = some (.bool b)) (he : b = !want)
    (k : WR X m ops rest ks ds l w) : WR X m ops (⟨none, op, ty, pos, aft, some (j, want)⟩ :: rest) ks ds l w := by
  subst he
  intro a ha
  have hk := k _ ha
  have hwt : Region.wanted ⟨none, op, ty, pos, aft, some (j, want)⟩ (yielded ops a.tmps) = false := by
    have hg := ha.get t _ hb
    rw [Array.getD_eq_getD_getElem?] at hg
    unfold Region.wanted yielded
    simp only [hj]
    cases hq : a.tmps[t]? with
    | none => rw [hq] at hg; cases hg
    | some u => rw [hq] at hg; simp only [Option.getD_some] at hg; subst hg; simp [hq]
  cases m with
  | none =>
    show wpList _ _ _ _ _ _
    unfold wpList
    rw [hwt, if_neg (by simp)]
    exact hk
  | some qs =>
    show wpMix _ _ _ _ _ _ _
    unfold wpMix
    rw [hwt]
    split
    · rw [if_neg (by simp)]; exact hk
    · rw [if_neg (by simp)]; exact hk

/- the single operations -/
theorem WR.move {x : Operand} (hx : ev l x = some v) (hd : Nat.blt d X.n = true) (k : WR X m ops rest ks ds ((d, v) :: l) w) : WR X m ops (⟨some d, .move x, ty, pos, aft, none⟩ :: rest) ks ds l w :=
  WR.still hd (by cases m <;> rfl) (fun a ha => by simp only [execOp, Sem.run_pure, ha.ev hx]) k
theorem WR.assign {x : Operand} (hx : ev l x = some v) (hd : Nat.blt d X.n = true) (k : WR X m ops rest ks ds ((d, v) :: l) w) : WR X m ops (⟨some d, .assign x, ty, pos, aft, none⟩ :: rest) ks ds l w :=
  WR.still hd (by cases m <;> rfl) (fun a ha => by simp only [execOp, Sem.run_pure, ha.ev hx]) k
theorem WR.pick {c x y : Operand} {b : Bool} {u : Value} (hc : ev l c = some (.bool b)) (hu : ev l (bif b then x else y) = some u) (hd : Nat.blt d X.n = true) (k : WR X m ops rest ks ds ((d, u) :: l) w) :
    WR X m ops (⟨some d, .pick c x y, ty, pos, aft, none⟩ :: rest) ks ds l w :=
  WR.still hd (by cases m <;> rfl) (fun a ha => by
    have h1 := ha.ev hu
    simp only [execOp, ha.ev hc, asBool, Sem.run_bind, Sem.run_pure, Result.andThen_ok]
    cases b <;> simp_all) k
theorem WR.pickT {c x y : Operand} {b : Bool} {u : Value} (hc : ev l c = some (.bool b)) (he : b = true) (hu : ev l x = some u) (hd : Nat.blt d X.n = true) (k : WR X m ops rest ks ds ((d, u) :: l) w) :
    WR X m ops (⟨some d, .pick c x y, ty, pos, aft, none⟩ :: rest) ks ds l w := by subst he; exact WR.pick hc hu hd k
theorem WR.pickF {c x y : Operand} {b : Bool} {u : Value} (hc : ev l c = some (.bool b)) (he : b = false) (hu : ev l y = some u) (hd : Nat.blt d X.n = true) (k : WR X m ops rest ks ds ((d, u) :: l) w) :
    WR X m ops (⟨some d, .pick c x y, ty, pos, aft, none⟩ :: rest) ks ds l w := by subst he; exact WR.pick hc hu hd k
theorem WR.nilCheckP {x : Operand} {p : Addr} (hx : ev l x = some (.pointer (some p))) (hd : Nat.blt d X.n = true) (k : WR X m ops rest ks ds ((d, .pointer (some p)) :: l) w) : WR X m ops (⟨some d, .nilCheck x, ty, pos, aft, none⟩ :: rest) ks ds l w :=
  WR.still hd (by cases m <;> rfl) (fun a ha => by simp only [execOp, ha.ev hx, Sem.run_pure]) k
theorem WR.nilCheckI {x : Operand} {t : TypeId} {u : Value} (hx : ev l x = some (.iface t u)) (hd : Nat.blt d X.n = true) (k : WR X m ops rest ks ds ((d, .iface t u) :: l) w) : WR X m ops (⟨some d, .nilCheck x, ty, pos, aft, none⟩ :: rest) ks ds l w :=
  WR.still hd (by cases m <;> rfl) (fun a ha => by simp only [execOp, ha.ev hx, Sem.run_pure]) k

/-- what a binary operation on two integers gives -/
def arith (op : BinOp) (k : IntKind) (a b : Int) : Option Value :=
  match op with
  | .add => some (.int k (k.wrap (a + b)))
  | .sub => some (.int k (k.wrap (a - b)))
  | .mul => some (.int k (k.wrap (a * b)))
  | .quo => if b = 0 then none else some (.int k (k.wrap (a.tdiv b)))
  | .rem => if b = 0 then none else some (.int k (a.tmod b))
  | .and => some (.int k (k.wrap (BitVec.ofInt k.bits a &&& BitVec.ofInt k.bits b).toNat))
  | .or => some (.int k (k.wrap (BitVec.ofInt k.bits a ||| BitVec.ofInt k.bits b).toNat))
  | .xor => some (.int k (k.wrap (BitVec.ofInt k.bits a ^^^ BitVec.ofInt k.bits b).toNat))
  | .andNot => some (.int k (k.wrap (BitVec.ofInt k.bits a &&& ~~~BitVec.ofInt k.bits b).toNat))
  | .eql => some (.bool (a == b))
  | .neq => some (.bool (a != b))
  | .lss => some (.bool (decide (a < b)))
  | .leq => some (.bool (decide (a ≤ b)))
  | .gtr => some (.bool (decide (a > b)))
  | .geq => some (.bool (decide (a ≥ b)))
  | _ => none
theorem wrap_i64 {n : Int} (h0 : -9223372036854775808 ≤ n) (h1 : n ≤ 9223372036854775807) : IntKind.i64.wrap n = n := by simp [IntKind.wrap, IntKind.bits, IntKind.signed]; omega
theorem wrap_i32 {n : Int} (h0 : -2147483648 ≤ n) (h1 : n ≤ 2147483647) : IntKind.i32.wrap n = n := by simp [IntKind.wrap, IntKind.bits, IntKind.signed]; omega
theorem wrap_i16 {n : Int} (h0 : -32768 ≤ n) (h1 : n ≤ 32767) : IntKind.i16.wrap n = n := by simp [IntKind.wrap, IntKind.bits, IntKind.signed]; omega
theorem wrap_i8 {n : Int} (h0 : -128 ≤ n) (h1 : n ≤ 127) : IntKind.i8.wrap n = n := by simp [IntKind.wrap, IntKind.bits, IntKind.signed]; omega
theorem wrap_u64 {n : Int} (h0 : 0 ≤ n) (h1 : n ≤ 18446744073709551615) : IntKind.u64.wrap n = n := by simp [IntKind.wrap, IntKind.bits, IntKind.signed]; omega
theorem wrap_u32 {n : Int} (h0 : 0 ≤ n) (h1 : n ≤ 4294967295) : IntKind.u32.wrap n = n := by simp [IntKind.wrap, IntKind.bits, IntKind.signed]; omega
theorem wrap_u16 {n : Int} (h0 : 0 ≤ n) (h1 : n ≤ 65535) : IntKind.u16.wrap n = n := by simp [IntKind.wrap, IntKind.bits, IntKind.signed]; omega
theorem wrap_u8 {n : Int} (h0 : 0 ≤ n) (h1 : n ≤ 255) : IntKind.u8.wrap n = n := by simp [IntKind.wrap, IntKind.bits, IntKind.signed]; omega
theorem ar_add {k : IntKind} {a b z : Int} (h : k.wrap (a + b) = z) : arith .add k a b = some (.int k z) := by rw [← h]; rfl
theorem ar_sub {k : IntKind} {a b z : Int} (h : k.wrap (a - b) = z) : arith .sub k a b = some (.int k z) := by rw [← h]; rfl
theorem ar_mul {k : IntKind} {a b z : Int} (h : k.wrap (a * b) = z) : arith .mul k a b = some (.int k z) := by rw [← h]; rfl
theorem ar_quo {k : IntKind} {a b z : Int} (hb : b ≠ 0) (h : k.wrap (a.tdiv b) = z) : arith .quo k a b = some (.int k z) := by rw [← h]; simp [arith, hb]
theorem ar_rem {k : IntKind} {a b z : Int} (hb : b ≠ 0) (h : a.tmod b = z) : arith .rem k a b = some (.int k z) := by rw [← h]; simp [arith, hb]
theorem tdiv_pos {a b : Int} (h : 0 ≤ a) : a.tdiv b = a / b := Int.tdiv_eq_ediv_of_nonneg h
theorem tmod_pos {a b : Int} (h : 0 ≤ a) : a.tmod b = a % b := Int.tmod_eq_emod_of_nonneg h
theorem ofInt_toNat {n : Nat} {a : Int} (h0 : 0 ≤ a) (h1 : a < 2 ^ n) : (BitVec.ofInt n a).toNat = a.toNat := by
  rw [BitVec.toNat_ofInt]
  congr 1
  exact Int.emod_eq_of_lt h0 (by exact_mod_cast h1)
/-- 'or' of two numbers whose bits lie apart is their sum -/
theorem ar_or {a c D : Int} (k : Nat) (hD : D = ((2 ^ k : Nat) : Int)) (h0 : 0 ≤ a) (h1 : a < D) (hc : 0 ≤ c) (h2 : a + c * D < 18446744073709551616) : arith .or .u64 a (c * D) = some (.int .u64 (a + c * D)) := by
  have hcD : 0 ≤ c * D := Int.mul_nonneg hc (by rw [hD]; exact Int.natCast_nonneg _)
  obtain ⟨a', rfl⟩ := Int.eq_ofNat_of_zero_le h0
  obtain ⟨c', rfl⟩ := Int.eq_ofNat_of_zero_le hc
  have hlt : a' < 2 ^ k := by rw [hD] at h1; exact_mod_cast h1
  have e : (BitVec.ofInt IntKind.u64.bits (a' : Int) ||| BitVec.ofInt IntKind.u64.bits ((c' : Int) * D)).toNat = a' + c' * 2 ^ k := by
    have hmul : ((c' : Int) * D).toNat = c' * 2 ^ k := by rw [hD]; exact_mod_cast Int.toNat_natCast (c' * 2 ^ k)
    rw [BitVec.toNat_or, ofInt_toNat (by omega) (by show _ < (2 : Int) ^ 64; omega), ofInt_toNat hcD (by show _ < (2 : Int) ^ 64; omega), hmul, Int.toNat_natCast]
    have := Nat.two_pow_add_eq_or_of_lt hlt c'
    rw [Nat.or_comm, Nat.mul_comm c', ← this, Nat.add_comm]
  unfold arith
  simp only [e]
  congr 2
  rw [hD]
  have : ((a' + c' * 2 ^ k : Nat) : Int) = (a' : Int) + (c' : Int) * ((2 ^ k : Nat) : Int) := by push_cast; rfl
  rw [this, ← hD]
  exact wrap_u64 (by omega) (by omega)
theorem ar_or32 {a c D : Int} (k : Nat) (hD : D = ((2 ^ k : Nat) : Int)) (h0 : 0 ≤ a) (h1 : a < D) (hc : 0 ≤ c) (h2 : a + c * D < 4294967296) : arith .or .u32 a (c * D) = some (.int .u32 (a + c * D)) := by
  have hcD : 0 ≤ c * D := Int.mul_nonneg hc (by rw [hD]; exact Int.natCast_nonneg _)
  obtain ⟨a', rfl⟩ := Int.eq_ofNat_of_zero_le h0
  obtain ⟨c', rfl⟩ := Int.eq_ofNat_of_zero_le hc
  have hlt : a' < 2 ^ k := by rw [hD] at h1; exact_mod_cast h1
  have e : (BitVec.ofInt IntKind.u32.bits (a' : Int) ||| BitVec.ofInt IntKind.u32.bits ((c' : Int) * D)).toNat = a' + c' * 2 ^ k := by
    have hmul : ((c' : Int) * D).toNat = c' * 2 ^ k := by rw [hD]; exact_mod_cast Int.toNat_natCast (c' * 2 ^ k)
    rw [BitVec.toNat_or, ofInt_toNat (by omega) (by show _ < (2 : Int) ^ 32; omega), ofInt_toNat hcD (by show _ < (2 : Int) ^ 32; omega), hmul, Int.toNat_natCast]
    have := Nat.two_pow_add_eq_or_of_lt hlt c'
    rw [Nat.or_comm, Nat.mul_comm c', ← this, Nat.add_comm]
  unfold arith
  simp only [e]
  congr 2
  rw [hD]
  have : ((a' + c' * 2 ^ k : Nat) : Int) = (a' : Int) + (c' : Int) * ((2 ^ k : Nat) : Int) := by push_cast; rfl
  rw [this, ← hD]
  exact wrap_u32 (by omega) (by omega)
theorem cast_am (a b D : Nat) : ((a + b * D : Nat) : Int) = (a : Int) + (b : Int) * (D : Int) := by rw [Int.natCast_add, Int.natCast_mul]
theorem cast_am_lt {a b D : Nat} (h : a + b * D < 18446744073709551616) : (a : Int) + (b : Int) * (D : Int) < 18446744073709551616 := by rw [← cast_am]; omega
theorem fdiv_c {a p D : Int} (h : p = D) (hD : 0 ≤ D) : a.fdiv p = a / D := by subst h; exact Int.fdiv_eq_ediv_of_nonneg _ hD
theorem shl_c {k : IntKind} {a p D z : Int} (h : p = D) (hw : k.wrap (a * D) = z) : k.wrap (a * p) = z := by subst h; exact hw
theorem WR.bin {o : BinOp} {t t' : TypeId} {x y : Operand} {k : IntKind} {a b : Int} (hx : ev l x = some (.int k a)) (hy : ev l y = some (.int k b)) (hv : arith o k a b = some v) (hd : Nat.blt d X.n = true)
    (kk : WR X m ops rest ks ds ((d, v) :: l) w) : WR X m ops (⟨some d, .binOp o t x y t', ty, pos, aft, none⟩ :: rest) ks ds l w :=
  WR.still hd (by cases m <;> rfl) (fun c hc => by
    simp only [execOp, hc.ev hx, hc.ev hy, Sem.run_bind]
    have hg : (eqGuard o t x y (.int k a) (.int k b)).run X.P w = .ok () w := by unfold eqGuard; cases o <;> rfl
    rw [hg]
    cases o <;> simp only [arith, Option.some.injEq, reduceCtorEq] at hv <;> first
      | (subst hv; simp [binOp, Op.intArith, Op.intBits, Op.intCmp]; done)
      | (split at hv
         · cases hv
         · rename_i hb
           simp only [Option.some.injEq] at hv
           subst hv
           simp [binOp, Op.intDiv, hb])) kk
theorem WR.shl {t t' : TypeId} {x y : Operand} {k k' : IntKind} {a b : Int} (hx : ev l x = some (.int k a)) (hy : ev l y = some (.int k' b)) (hb : 0 ≤ b) {z : Int} (hz : k.wrap (a * 2 ^ min b.toNat k.bits) = z) (hd : Nat.blt d X.n = true)
    (kk : WR X m ops rest ks ds ((d, .int k z) :: l) w) : WR X m ops (⟨some d, .binOp .shl t x y t', ty, pos, aft, none⟩ :: rest) ks ds l w :=
  WR.still hd (by cases m <;> rfl) (fun c hc => by
    simp only [execOp, hc.ev hx, hc.ev hy, Sem.run_bind]
    have hg : (eqGuard .shl t x y (.int k a) (.int k' b)).run X.P w = .ok () w := rfl
    rw [hg]
    simp [binOp, Op.shift, Int.not_lt.2 hb, hz]) kk
theorem WR.shr {t t' : TypeId} {x y : Operand} {k k' : IntKind} {a b : Int} (hx : ev l x = some (.int k a)) (hy : ev l y = some (.int k' b)) (hb : 0 ≤ b) {z : Int} (hz : a.fdiv (2 ^ min b.toNat k.bits) = z) (hd : Nat.blt d X.n = true)
    (kk : WR X m ops rest ks ds ((d, .int k z) :: l) w) : WR X m ops (⟨some d, .binOp .shr t x y t', ty, pos, aft, none⟩ :: rest) ks ds l w :=
  WR.still hd (by cases m <;> rfl) (fun c hc => by
    simp only [execOp, hc.ev hx, hc.ev hy, Sem.run_bind]
    have hg : (eqGuard .shr t x y (.int k a) (.int k' b)).run X.P w = .ok () w := rfl
    rw [hg]
    simp [binOp, Op.shift, Int.not_lt.2 hb, hz]) kk
theorem WR.conv {t t' : TypeId} {x : Operand} {k k' : IntKind} {a : Int} {u : TypeDesc} (hx : ev l x = some (.int k a)) (hu' : X.P.underlying t = some u) (hu : X.P.underlying t' = some (.int k')) {z : Int} (hz : k'.wrap a = z) (hd : Nat.blt d X.n = true)
    (kk : WR X m ops rest ks ds ((d, .int k' z) :: l) w) : WR X m ops (⟨some d, .convert t t' x, ty, pos, aft, none⟩ :: rest) ks ds l w :=
  WR.still hd (by cases m <;> rfl) (fun c hc => by
    simp only [execOp, hc.ev hx, Sem.run_bind]
    simp [convert, run_underlying hu, run_underlying hu', Conv.intToInt, hz]) kk
theorem WR.extract {x : Operand} {i : Nat} {vs : Array Value} {u : Value} (hx : ev l x = some (.tuple vs)) (hv : vs[i]? = some u) (hd : Nat.blt d X.n = true) (kk : WR X m ops rest ks ds ((d, u) :: l) w) :
    WR X m ops (⟨some d, .extract x i, ty, pos, aft, none⟩ :: rest) ks ds l w :=
  WR.still hd (by cases m <;> rfl) (fun c hc => by simp [execOp, hc.ev hx, Instr.extract, hv]) kk
theorem WR.notOp {t : TypeId} {x : Operand} {b : Bool} (hx : ev l x = some (.bool b)) (hd : Nat.blt d X.n = true) (kk : WR X m ops rest ks ds ((d, .bool (!b)) :: l) w) :
    WR X m ops (⟨some d, .unOp .not t x, ty, pos, aft, none⟩ :: rest) ks ds l w :=
  WR.still hd (by cases m <;> rfl) (fun c hc => by simp [execOp, hc.ev hx, Op.unary]) kk
end
end Go.Proofs.YthmknddfkmklfaaGreatDoor.Vm
/- Memory, for the layer Vm: a block that is known whole; what a step leaves as it was; loads, stores, addresses, slices. -/
namespace Go.Proofs.YthmknddfkmklfaaGreatDoor.Vm
open Go Mix Go.RowKit

/-- block b is a row of n cells of type t, none of them frozen; cell i holds f i -/
def Row (w : World) (b : Nat) (t : TypeId) (n : Nat) (f : Nat → Value) : Prop := ∃ c : Array Value, w.heap[b]? = some (.cells c t (0, 0)) ∧ c.size = n ∧ ∀ i, i < n → c[i]? = some (f i)
def upd (f : Nat → Value) (i : Nat) (v : Value) : Nat → Value := fun j => if j = i then v else f j
/-- cells that are read alone -/
def Rd (w : World) (b o n : Nat) (f : Nat → Value) : Prop := ∀ i, i < n → w.cell? ⟨b, o + i, none⟩ = some (f i)
/-- all blocks of w but those of S are in w' as they were -/
structure Same (S : List Nat) (w w' : World) : Prop where
  size : w.heap.size ≤ w'.heap.size
  block : ∀ g, g < w.heap.size → g ∉ S → w'.heap[g]? = w.heap[g]?
  os : w'.os = w.os
  out : w'.output = w.output
  tape : w'.tape = w.tape

section
variable {w w' w1 w2 : World} {b o n t g : Nat} {f f' : Nat → Value} {S S' : List Nat} {v : Value}
theorem Row.lt (h : Row w b t n f) : b < w.heap.size := by
  obtain ⟨c, hc, _⟩ := h
  exact (Array.getElem?_eq_some_iff.1 hc).1
theorem Row.cell (h : Row w b t n f) {i : Nat} (hi : i < n) : w.cell? ⟨b, i, none⟩ = some (f i) := by
  obtain ⟨c, hc, _, hf⟩ := h
  simp [World.cell?, hc, hf i hi]
theorem Row.fz (h : Row w b t n f) (i : Nat) : w.frozen? ⟨b, i, none⟩ = false := by
  obtain ⟨c, hc, _, _⟩ := h
  simp [World.frozen?, hc]
theorem Row.same (h : Row w b t n f) (hs : Same S w w') (hb : b ∉ S) : Row w' b t n f := by
  have hlt := h.lt
  obtain ⟨c, hc, hn, hf⟩ := h
  exact ⟨c, (hs.block b hlt hb).trans hc, hn, hf⟩
theorem Row.congr (h : Row w b t n f) (he : ∀ i, i < n → f i = f' i) : Row w b t n f' := by
  obtain ⟨c, hc, hn, hf⟩ := h
  exact ⟨c, hc, hn, fun i hi => by rw [hf i hi, he i hi]⟩
theorem Row.set (h : Row w b t n f) (i : Nat) (v : Value) : Row (w.setCell ⟨b, i, none⟩ v) b t n (upd f i v) := by
  obtain ⟨c, hc, hn, hf⟩ := h
  refine ⟨c.setIfInBounds i v, by simp [World.setCell, Array.getElem?_modify, hc], by simp [hn], fun j hj => ?_⟩
  rw [Array.getElem?_setIfInBounds, upd]
  by_cases hji : i = j
  · subst hji; simp [hn, hj]
  · rw [if_neg hji, if_neg (fun e => hji e.symm)]; exact hf j hj
theorem Row.rd (h : Row w b t n f) (o k : Nat) (hk : o + k ≤ n) : Rd w b o k (fun i => f (o + i)) := fun _ hi => h.cell (by omega)
theorem Rd.same (h : Rd w b o n f) (hs : Same S w w') (hb : b ∉ S) (hlt : b < w.heap.size) : Rd w' b o n f := fun i hi => by
  have := h i hi
  unfold World.cell? at this ⊢
  rw [hs.block b hlt hb]
  exact this
theorem Rd.congr (h : Rd w b o n f) (he : ∀ i, i < n → f i = f' i) : Rd w b o n f' := fun i hi => by rw [h i hi, he i hi]

theorem Same.refl (S : List Nat) (w : World) : Same S w w := ⟨Nat.le_refl _, fun _ _ _ => rfl, rfl, rfl, rfl⟩
theorem Same.trans (h : Same S w w1) (h' : Same S' w1 w2) (hS : ∀ g, g ∈ S' → g ∈ S ∨ w.heap.size ≤ g) : Same S w w2 :=
  ⟨Nat.le_trans h.size h'.size, fun g hg hgS => by
    have hg' : g ∉ S' := fun hm => by
      rcases hS g hm with h1 | h1
      · exact hgS h1
      · omega
    rw [h'.block g (Nat.lt_of_lt_of_le hg h.size) hg', h.block g hg hgS], h'.os.trans h.os, h'.out.trans h.out, h'.tape.trans h.tape⟩
theorem Same.more (h : Same S w w') (hS : ∀ g, g ∈ S → g ∈ S' ∨ w.heap.size ≤ g) : Same S' w w' :=
  ⟨h.size, fun g hg hgS => h.block g hg fun hm => by
    rcases hS g hm with h1 | h1
    · exact hgS h1
    · omega, h.os, h.out, h.tape⟩
theorem Same.drew (w : World) : Same [] w w.drew := ⟨Nat.le_refl _, fun _ _ _ => rfl, rfl, rfl, rfl⟩
theorem Same.setCell (w : World) (p : Addr) (v : Value) : Same [p.block] w (w.setCell p v) :=
  ⟨by simp [World.setCell], fun g _ hgS => by
    have hne : p.block ≠ g := fun e => hgS (by simp [e])
    simp [World.setCell, Array.getElem?_modify, hne], rfl, rfl, rfl⟩
theorem Same.alloc (w : World) (o : Obj) : Same [] w (w.alloc o) :=
  ⟨by show w.heap.size ≤ (w.heap.push o).size; simp, fun g hg _ => by show (w.heap.push o)[g]? = _; simp [Array.getElem?_push, Nat.ne_of_lt hg], rfl, rfl, rfl⟩
theorem Row.alloc (w : World) (c : Array Value) (t : TypeId) : Row (w.alloc (.cells c t)) w.heap.size t c.size (fun i => c.getD i undef) := by
  exact ⟨c, by show (w.heap.push _)[w.heap.size]? = _; simp, rfl, fun i hi => by simp [hi]⟩
end

section
variable {X : Cx} {m : Option (List Nat)} {ops : Array Oper} {rest : List Oper} {ks : List KI} {ds : List Deferred} {l : Kn} {w : World} {d ty : Nat} {pos : String} {aft : Array Edge} {v : Value}

def plainD : TypeDesc → Bool
  | .struct _ | .array _ _ => false
  | _ => true
theorem run_isAgg {P : Program} {t : TypeId} {D : TypeDesc} (hu : P.underlying t = some D) (hD : plainD D = true) (w : World) : (isAgg t).run P w = .ok false w := by
  unfold isAgg
  simp only [Sem.run_bind, run_underlying hu, Result.andThen_ok]
  cases D <;> first | rfl | cases hD
/-- a load of one cell -/
theorem WR.load {t : TypeId} {x : Operand} {p : Addr} {D : TypeDesc} (hx : ev l x = some (.pointer (some p))) (hu : X.P.underlying t = some D) (hD : plainD D = true) (hc : w.cell? p = some v) (hd : Nat.blt d X.n = true)
    (k : WR X m ops rest ks ds ((d, v) :: l) w) : WR X m ops (⟨some d, .load t x, ty, pos, aft, none⟩ :: rest) ks ds l w :=
  WR.still hd (by cases m <;> rfl) (fun a ha => by
    simp only [execOp, ha.ev hx, Instr.loadAt, Instr.sureAddr, loadVar, Sem.run_bind, Sem.run_pure, Result.andThen_ok, run_isAgg hu hD]
    simp [hc]) k
theorem run_sizeOf {P : Program} {t s : Nat} (h : (P.info? t).map (·.size) = some s) (w : World) : (sizeOf t).run P w = .ok s w := by
  unfold sizeOf typeInfo
  cases hi : P.info? t with
  | none => rw [hi] at h; cases h
  | some i =>
    rw [hi] at h
    simp only [Option.map_some, Option.some.injEq] at h
    simp [Sem.run_bind, hi, h]
/-- a store of one cell -/
theorem WR.store {t : TypeId} {x y : Operand} {p : Addr} {old : Value} (hx : ev l x = some (.pointer (some p))) (hy : ev l y = some v) (h1 : v.oneCell' = true) (hs : (X.P.info? t).map (·.size) = some 1) (hc : w.cell? p = some old) (hf : w.frozen? p = false)
    (k : WR X m ops rest ks ds l (w.setCell p v)) : WR X m ops (⟨none, .store t x y, ty, pos, aft, none⟩ :: rest) ks ds l w :=
  WR.eventN (by cases m <;> rfl) (fun a ha => by
    have hv : v.cells = #[v] := by
      revert h1
      cases v <;> first | (intro _; rfl) | (intro h; cases h)
    have hcell : (storeCells p [v]).run X.P w = .ok () (w.setCell p v) := by
      unfold storeCells
      rw [show p.add 0 = p from by simp [Addr.add]]
      have h0 : (Go.store p v).run X.P w = .ok () (w.setCell p v) := by rw [run_store _ _ _ _ _ h1, hc]; simp [hf]
      simp only [Sem.run_bind, h0, Result.andThen_ok]
      rfl
    simp only [execOp, ha.ev hx, ha.ev hy, Instr.storeAt, Instr.sureAddr, storeVar, Sem.run_bind, Sem.run_pure, Result.andThen_ok, run_sizeOf hs]
    rw [hv]
    simp [hcell]) k
/-- the address of a field: a closed fact of the type says where it lies -/
theorem WR.field {s i : Nat} {x : Operand} {b o off : Nat} (hx : ev l x = some (.pointer (some ⟨b, o, none⟩)))
    (hf : ∀ (b o : Nat) (w : World), (Instr.fieldAt s (.pointer (some ⟨b, o, none⟩)) i).run X.P w = .ok (.pointer (some ⟨b, o + off, none⟩)) w) (hd : Nat.blt d X.n = true)
    (k : WR X m ops rest ks ds ((d, .pointer (some ⟨b, o + off, none⟩)) :: l) w) : WR X m ops (⟨some d, .fieldAddr s x i, ty, pos, aft, none⟩ :: rest) ks ds l w :=
  WR.still hd (by cases m <;> rfl) (fun a ha => by simp only [execOp, ha.ev hx, Sem.run_bind, hf, Result.andThen_ok, Sem.run_pure]) k
end
end Go.Proofs.YthmknddfkmklfaaGreatDoor.Vm
/- Addresses of elements, slices of slices, calls, lengths, for the layer Vm. -/
namespace Go.Proofs.YthmknddfkmklfaaGreatDoor.Vm
open Go Mix Go.RowKit

def evs (l : Kn) : List Operand → Option (List Value)
  | [] => some []
  | x :: xs => match ev l x, evs l xs with
    | some v, some vs => some (v :: vs)
    | _, _ => none
theorem evs_of {a : Act} {n : Nat} {ds : List Deferred} {l : Kn} (h : Fr a n ds l) : ∀ {xs : List Operand} {vs : List Value}, evs l xs = some vs → xs.map a.eval = vs
  | [], vs, he => by simp only [evs, Option.some.injEq] at he; subst he; rfl
  | x :: xs, vs, he => by
    unfold evs at he
    cases hx : ev l x with
    | none => rw [hx] at he; cases he
    | some v =>
      cases hr : evs l xs with
      | none => rw [hx, hr] at he; cases he
      | some us =>
        rw [hx, hr] at he
        simp only [Option.some.injEq] at he
        subst he
        rw [List.map_cons, h.ev hx, evs_of h hr]

section
variable {X : Cx} {m : Option (List Nat)} {ops : Array Oper} {rest : List Oper} {ks : List KI} {ds : List Deferred} {l : Kn} {w : World} {d ty : Nat} {pos : String} {aft : Array Edge} {v : Value}

theorem add_none (b o n : Nat) : (⟨b, o, none⟩ : Addr).add n = ⟨b, o + n, none⟩ := by
  unfold Addr.add
  split
  · subst n; rfl
  · rfl
/-- an element's address in a slice -/
theorem WR.idx {T E s : Nat} {x i : Operand} {b o len cap : Nat} {k : IntKind} {j : Int} (hx : ev l x = some (.slice (some ⟨b, o, none⟩) len cap)) (hi : ev l i = some (.int k j)) (hu : X.P.underlying T = some (.slice E)) (hs : (X.P.info? E).map (·.size) = some s)
    (h0 : 0 ≤ j) (h1 : j < (len : Int)) (hd : Nat.blt d X.n = true) (kk : WR X m ops rest ks ds ((d, .pointer (some ⟨b, o + j.toNat * s, none⟩)) :: l) w) : WR X m ops (⟨some d, .indexAddr T x i, ty, pos, aft, none⟩ :: rest) ks ds l w :=
  WR.still hd (by cases m <;> rfl) (fun a ha => by
    simp only [execOp, ha.ev hx, ha.ev hi, Instr.indexAt, asIntOf, Sem.run_bind, Sem.run_pure, Result.andThen_ok, run_underlying hu]
    rw [if_pos ⟨h0, h1⟩]
    simp [run_sizeOf hs, add_none]) kk
/-- .. in an array behind an address -/
theorem WR.idxA {T E s n : Nat} {x i : Operand} {b o : Nat} {k : IntKind} {j : Int} (hx : ev l x = some (.pointer (some ⟨b, o, none⟩))) (hi : ev l i = some (.int k j)) (hu : X.P.underlying T = some (.array n E)) (hs : (X.P.info? E).map (·.size) = some s)
    (h0 : 0 ≤ j) (h1 : j < (n : Int)) (hd : Nat.blt d X.n = true) (kk : WR X m ops rest ks ds ((d, .pointer (some ⟨b, o + j.toNat * s, none⟩)) :: l) w) : WR X m ops (⟨some d, .indexAddr T x i, ty, pos, aft, none⟩ :: rest) ks ds l w :=
  WR.still hd (by cases m <;> rfl) (fun a ha => by
    simp only [execOp, ha.ev hx, ha.ev hi, Instr.indexAt, asIntOf, Instr.sureAddr, Sem.run_bind, Sem.run_pure, Result.andThen_ok, run_underlying hu]
    rw [if_pos ⟨h0, h1⟩]
    simp [run_sizeOf hs, add_none]) kk

/-- a bound of a slice expression -/
def bnd (l : Kn) (dflt : Nat) : Option Operand → Option Nat
  | none => some dflt
  | some x => match ev l x with
    | some (.int _ j) => if 0 ≤ j then some j.toNat else none
    | _ => none
theorem run_bound {P : Program} {k : IntKind} {j : Int} {y : Nat} {c : BoundsCode} (h0 : 0 ≤ j) (h1 : j ≤ (y : Int)) (w : World) : (Instr.sliceBound (.int k j) y c).run P w = .ok j.toNat w := by
  simp [Instr.sliceBound, asIntOf, h0, h1]
theorem run_bounds {P : Program} {isS : Bool} {len cap lo hi : Nat} {L H : Option Value} {w : World}
    (hH : match H with | none => hi = len | some u => ∃ k j, u = .int k j ∧ 0 ≤ j ∧ j ≤ (cap : Int) ∧ hi = j.toNat) (hL : match L with | none => lo = 0 | some u => ∃ k j, u = .int k j ∧ 0 ≤ j ∧ j ≤ (hi : Int) ∧ lo = j.toNat) :
    (Instr.sliceBounds isS len cap L H none).run P w = .ok (lo, hi, cap) w := by
  cases H with
  | none =>
    subst hH
    cases L with
    | none => subst hL; simp [Instr.sliceBounds]
    | some u => obtain ⟨k, j, rfl, h0, h1, rfl⟩ := hL; simp [Instr.sliceBounds, run_bound h0 h1]
  | some u' =>
    obtain ⟨k', j', rfl, h0', h1', rfl⟩ := hH
    cases L with
    | none => subst hL; simp [Instr.sliceBounds, run_bound h0' h1']
    | some u => obtain ⟨k, j, rfl, h0, h1, rfl⟩ := hL; simp [Instr.sliceBounds, run_bound h0' h1', run_bound h0 h1]
def bndH (l : Kn) (len cap hi : Nat) : Option Operand → Prop
  | none => hi = len
  | some x => ∃ k j, ev l x = some (.int k j) ∧ 0 ≤ j ∧ j ≤ (cap : Int) ∧ hi = j.toNat
def bndL (l : Kn) (lo hi : Nat) : Option Operand → Prop
  | none => lo = 0
  | some x => ∃ k j, ev l x = some (.int k j) ∧ 0 ≤ j ∧ j ≤ (hi : Int) ∧ lo = j.toNat
theorem bndH_run {a : Act} {n : Nat} (ha : Fr a n ds l) {len cap hi : Nat} {H : Option Operand} (h : bndH l len cap hi H) : match H.map a.eval with | none => hi = len | some u => ∃ k j, u = .int k j ∧ 0 ≤ j ∧ j ≤ (cap : Int) ∧ hi = j.toNat := by
  cases H with
  | none => exact h
  | some x => obtain ⟨k, j, he, h1⟩ := h; exact ⟨k, j, ha.ev he, h1⟩
theorem bndL_run {a : Act} {n : Nat} (ha : Fr a n ds l) {lo hi : Nat} {L : Option Operand} (h : bndL l lo hi L) : match L.map a.eval with | none => lo = 0 | some u => ∃ k j, u = .int k j ∧ 0 ≤ j ∧ j ≤ (hi : Int) ∧ lo = j.toNat := by
  cases L with
  | none => exact h
  | some x => obtain ⟨k, j, he, h1⟩ := h; exact ⟨k, j, ha.ev he, h1⟩
/-- x[L:H] of a slice -/
theorem WR.slice {T E s : Nat} {x : Operand} {L H : Option Operand} {b o len cap lo hi : Nat} (hx : ev l x = some (.slice (some ⟨b, o, none⟩) len cap)) (hu : X.P.underlying T = some (.slice E)) (hs : (X.P.info? E).map (·.size) = some s)
    (hH : bndH l len cap hi H) (hL : bndL l lo hi L) (hd : Nat.blt d X.n = true)
    (kk : WR X m ops rest ks ds ((d, .slice (some ⟨b, if cap = lo then o else o + lo * s, none⟩) (hi - lo) (cap - lo)) :: l) w) : WR X m ops (⟨some d, .slice T x L H none, ty, pos, aft, none⟩ :: rest) ks ds l w :=
  WR.still hd (by cases m <;> rfl) (fun a ha => by
    simp only [execOp, ha.ev hx, Instr.sliceAt, Instr.slice, Option.map_none, Sem.run_bind, Sem.run_pure, Result.andThen_ok, run_underlying hu, run_bounds (bndH_run ha hH) (bndL_run ha hL), run_sizeOf hs]
    split <;> simp_all [add_none]) kk
/-- x[L:H] of an array behind an address -/
theorem WR.sliceA {T E s n : Nat} {x : Operand} {L H : Option Operand} {b o lo hi : Nat} (hx : ev l x = some (.pointer (some ⟨b, o, none⟩))) (hu : X.P.underlying T = some (.array n E)) (hs : (X.P.info? E).map (·.size) = some s)
    (hH : bndH l n n hi H) (hL : bndL l lo hi L) (hd : Nat.blt d X.n = true)
    (kk : WR X m ops rest ks ds ((d, .slice (some ⟨b, if n = lo then o else o + lo * s, none⟩) (hi - lo) (n - lo)) :: l) w) : WR X m ops (⟨some d, .slice T x L H none, ty, pos, aft, none⟩ :: rest) ks ds l w :=
  WR.still hd (by cases m <;> rfl) (fun a ha => by
    simp only [execOp, ha.ev hx, Instr.sliceAt, Instr.sureAddr, Option.map_none, Sem.run_bind, Sem.run_pure, Result.andThen_ok, run_underlying hu, run_bounds (bndH_run ha hH) (bndL_run ha hL), run_sizeOf hs]
    split <;> simp_all [add_none]) kk

/-- a call of a named function -/
theorem WR.callF {f : FuncId} {args : Array Operand} {tys : Array TypeId} {as : List Operand} {vs : List Value} {R : Value → World → Prop} (has : args = as.toArray) (hv : evs l as = some vs) (hf : ∀ (us : Array Value) (w : World), (callFunc f us).run X.P w = .ok (.enter f us) w)
    (hc : eventOK m (.call ⟨.value (.func f), args, tys⟩) ty = true) (hd : Nat.blt d X.n = true) (hcall : Ret X.P f vs.toArray w R) (k : ∀ v w', R v w' → WR X m ops rest ks ds ((d, v) :: l) w') :
    WR X m ops (⟨some d, .call ⟨.value (.func f), args, tys⟩, ty, pos, aft, none⟩ :: rest) ks ds l w :=
  WR.call hd hc (fun a ha => by
    have he := evs_of ha hv
    subst has
    simp only [execOp, resolve, Deferred.ofValue, Act.eval, Sem.run_bind, Sem.run_pure, Result.andThen_ok, invoke, List.map_toArray, he, Array.append_empty, Array.empty_append]
    exact hf _ _) hcall k
theorem WR.callFS {f : FuncId} {args : Array Operand} {tys : Array TypeId} {as : List Operand} {vs : List Value} {u : Value} (has : args = as.toArray) (hv : evs l as = some vs) (hf : ∀ (us : Array Value) (w : World), (callFunc f us).run X.P w = .ok (.enter f us) w)
    (hc : stillOK m (.call ⟨.value (.func f), args, tys⟩) ty = true) (hd : Nat.blt d X.n = true) (hcall : Ret X.P f vs.toArray w fun v w' => v = u ∧ w' = w) (k : WR X m ops rest ks ds ((d, u) :: l) w) :
    WR X m ops (⟨some d, .call ⟨.value (.func f), args, tys⟩, ty, pos, aft, none⟩ :: rest) ks ds l w :=
  WR.callS hd hc (fun a ha => by
    have he := evs_of ha hv
    subst has
    simp only [execOp, resolve, Deferred.ofValue, Act.eval, Sem.run_bind, Sem.run_pure, Result.andThen_ok, invoke, List.map_toArray, he, Array.append_empty, Array.empty_append]
    exact hf _ _) hcall k
/-- a call of a function's value that is known -/
theorem WR.callV {f : FuncId} {o : Operand} {args : Array Operand} {tys : Array TypeId} {as : List Operand} {vs : List Value} {R : Value → World → Prop} (ho : ev l o = some (.func (.func f) #[] #[])) (has : args = as.toArray) (hv : evs l as = some vs) (hf : ∀ (us : Array Value) (w : World), (callFunc f us).run X.P w = .ok (.enter f us) w)
    (hc : eventOK m (.call ⟨.value o, args, tys⟩) ty = true) (hd : Nat.blt d X.n = true) (hcall : Ret X.P f vs.toArray w R) (k : ∀ v w', R v w' → WR X m ops rest ks ds ((d, v) :: l) w') :
    WR X m ops (⟨some d, .call ⟨.value o, args, tys⟩, ty, pos, aft, none⟩ :: rest) ks ds l w :=
  WR.call hd hc (fun a ha => by
    have he := evs_of ha hv
    subst has
    simp only [execOp, resolve, Deferred.ofValue, ha.ev ho, Sem.run_bind, Sem.run_pure, Result.andThen_ok, invoke, List.map_toArray, he, Array.append_empty, Array.empty_append]
    exact hf _ _) hcall k
/-- a call through an interface whose dynamic type is known -/
theorem WR.invoke {f : FuncId} {o : Operand} {name : String} {T : TypeId} {p : Addr} {args : Array Operand} {tys : Array TypeId} {as : List Operand} {vs : List Value} {R : Value → World → Prop} (ho : ev l o = some (.iface T (.pointer (some p)))) (has : args = as.toArray) (hv : evs l as = some vs)
    (hm : ∀ (p : Addr) (w : World), (method (X.P.types.size + Made.depth) T (.pointer (some p)) name).run X.P w = .ok (f, .pointer (some p)) w) (hf : ∀ (us : Array Value) (w : World), (callFunc f us).run X.P w = .ok (.enter f us) w)
    (hc : eventOK m (.call ⟨.invoke o name, args, tys⟩) ty = true) (hd : Nat.blt d X.n = true) (hcall : Ret X.P f (Value.pointer (some p) :: vs).toArray w R) (k : ∀ v w', R v w' → WR X m ops rest ks ds ((d, v) :: l) w') :
    WR X m ops (⟨some d, .call ⟨.invoke o name, args, tys⟩, ty, pos, aft, none⟩ :: rest) ks ds l w :=
  WR.call hd hc (fun a ha => by
    have he := evs_of ha hv
    subst has
    simp only [execOp, resolve, ha.ev ho, Sem.run_bind, Sem.run_pure, Result.andThen_ok, Go.invoke, List.map_toArray, he]
    have hx : (#[Value.iface T (.pointer (some p))] ++ vs.toArray)[0]? = some (Value.iface T (.pointer (some p))) := by simp
    have hy : (#[Value.iface T (.pointer (some p))] ++ vs.toArray).extract 1 (#[Value.iface T (.pointer (some p))] ++ vs.toArray).size = vs.toArray := by simp
    rw [hx, hy]
    have hp : (program).run X.P w = .ok X.P w := rfl
    simp only [callMethod, Sem.run_bind, hp, Result.andThen_ok, hm]
    rw [show #[Value.pointer (some p)] ++ vs.toArray = (Value.pointer (some p) :: vs).toArray by simp]
    exact hf _ _) hcall k
/-- len, cap of a slice -/
theorem WR.lenS {x : Operand} {T : TypeId} {A : Option Addr} {n c E : Nat} (hx : ev l x = some (.slice A n c)) (hu : X.P.underlying T = some (.slice E)) (hd : Nat.blt d X.n = true) (k : WR X m ops rest ks ds ((d, .int .i64 n) :: l) w) :
    WR X m ops (⟨some d, .call ⟨.builtin .len, #[x], #[T]⟩, ty, pos, aft, none⟩ :: rest) ks ds l w :=
  WR.still hd (by cases m <;> rfl) (fun a ha => by
    simp only [execOp, resolve, Sem.run_bind, Sem.run_pure, Result.andThen_ok, Go.invoke, builtin, List.map_toArray, List.map_cons, List.map_nil, ha.ev hx]
    simp [Builtin.len_, goInt, run_underlying hu]) k
/-- min of two integers -/
theorem WR.min2 {x y : Operand} {tys : Array TypeId} {k : IntKind} {a b : Int} (hx : ev l x = some (.int k a)) (hy : ev l y = some (.int k b)) (hd : Nat.blt d X.n = true) (kk : WR X m ops rest ks ds ((d, .int k (if b < a then b else a)) :: l) w) :
    WR X m ops (⟨some d, .call ⟨.builtin .min, #[x, y], tys⟩, ty, pos, aft, none⟩ :: rest) ks ds l w :=
  WR.still hd (by cases m <;> rfl) (fun c hc => by
    simp only [execOp, resolve, Sem.run_bind, Sem.run_pure, Result.andThen_ok, Go.invoke, builtin, List.map_toArray, List.map_cons, List.map_nil, hc.ev hx, hc.ev hy]
    simp [Builtin.min_, Builtin.min2]) kk
end
end Go.Proofs.YthmknddfkmklfaaGreatDoor.Vm
/- More operations: stores with the world named, interfaces, whole structs, copy. -/
namespace Go.Proofs.YthmknddfkmklfaaGreatDoor.Vm
open Go Mix Go.RowKit

section
variable {w w' : World} {b t n i : Nat} {f : Nat → Value} {v : Value} {S : List Nat}
theorem Row.set' (h : Row w b t n f) {i : Nat} {v : Value} (hw : w' = w.setCell ⟨b, i, none⟩ v) : Row w' b t n (upd f i v) := by rw [hw]; exact h.set i v
theorem Row.drew (h : Row w b t n f) : Row w.drew b t n f := h
theorem Rd.drew {o : Nat} (h : Rd w b o n f) : Rd w.drew b o n f := h
end

section
variable {X : Cx} {m : Option (List Nat)} {ops : Array Oper} {rest : List Oper} {ks : List KI} {ds : List Deferred} {l : Kn} {w : World} {d ty : Nat} {pos : String} {aft : Array Edge} {v : Value}
theorem WR.storeK {t : TypeId} {x y : Operand} {p : Addr} {old : Value} (hx : ev l x = some (.pointer (some p))) (hy : ev l y = some v) (h1 : v.oneCell' = true) (hs : (X.P.info? t).map (·.size) = some 1) (hc : w.cell? p = some old) (hf : w.frozen? p = false)
    (k : ∀ w', w' = w.setCell p v → Same [p.block] w w' → WR X m ops rest ks ds l w') : WR X m ops (⟨none, .store t x y, ty, pos, aft, none⟩ :: rest) ks ds l w :=
  WR.store hx hy h1 hs hc hf (k _ rfl (Same.setCell w p v))

def notNil : Value → Option Bool
  | .nilIface => some false
  | .iface _ _ => some true
  | _ => none
theorem run_equal_nil {P : Program} {t : TypeId} {ms : Array (String × TypeId)} {u : Value} {c : Bool} (hu : P.underlying t = some (.interface ms)) (hn : notNil u = some c) (w : World) : (Op.equal t u .nilIface).run P w = .ok (!c) w := by
  unfold Op.equal
  rw [show Op.maxDepth = 9999 + 1 from rfl]
  unfold Op.equalIn
  simp only [Sem.run_bind, run_underlying hu, Result.andThen_ok]
  cases u <;> simp [notNil] at hn <;> subst hn <;> rfl
theorem WR.neqNil {t t' : TypeId} {x : Operand} {u : Value} {c : Bool} {ms : Array (String × TypeId)} (hx : ev l x = some u) (hn : notNil u = some c) (hu : X.P.underlying t = some (.interface ms)) (hd : Nat.blt d X.n = true)
    (kk : WR X m ops rest ks ds ((d, .bool c) :: l) w) : WR X m ops (⟨some d, .binOp .neq t x (.const .nilIface) t', ty, pos, aft, none⟩ :: rest) ks ds l w :=
  WR.still hd (by cases m <;> rfl) (fun a ha => by
    have hcn : a.eval (.const .nilIface) = .nilIface := rfl
    simp only [execOp, ha.ev hx, hcn, Sem.run_bind]
    have hg : (eqGuard .neq t x (.const .nilIface) u .nilIface).run X.P w = .ok () w := by
      unfold eqGuard
      cases u <;> simp [notNil] at hn <;> simp
    rw [hg]
    have he := run_equal_nil hu hn w
    cases u <;> simp [notNil] at hn <;> subst hn <;> simp [binOp, he]) kk
theorem WR.eqlNil {t t' : TypeId} {x : Operand} {u : Value} {c : Bool} {ms : Array (String × TypeId)} (hx : ev l x = some u) (hn : notNil u = some c) (hu : X.P.underlying t = some (.interface ms)) (hd : Nat.blt d X.n = true)
    (kk : WR X m ops rest ks ds ((d, .bool (!c)) :: l) w) : WR X m ops (⟨some d, .binOp .eql t x (.const .nilIface) t', ty, pos, aft, none⟩ :: rest) ks ds l w :=
  WR.still hd (by cases m <;> rfl) (fun a ha => by
    have hcn : a.eval (.const .nilIface) = .nilIface := rfl
    simp only [execOp, ha.ev hx, hcn, Sem.run_bind]
    have hg : (eqGuard .eql t x (.const .nilIface) u .nilIface).run X.P w = .ok () w := by
      unfold eqGuard
      cases u <;> simp [notNil] at hn <;> simp
    rw [hg]
    have he := run_equal_nil hu hn w
    cases u <;> simp [notNil] at hn <;> subst hn <;> simp [binOp, he]) kk
theorem run_equal_same {P : Program} {t T E s : Nat} {ms : Array (String × TypeId)} (hu : P.underlying t = some (.interface ms)) (hc : (P.info? T).map (·.comparable) = some true) (hT : P.underlying T = some (.pointer E)) (hs : (P.info? E).map (·.size) = some (s + 1)) (p : Addr) (w : World) :
    (Op.equal t (.iface T (.pointer (some p))) (.iface T (.pointer (some p)))).run P w = .ok true w := by
  unfold Op.equal
  rw [show Op.maxDepth = 9998 + 1 + 1 from rfl]
  unfold Op.equalIn
  cases hi : P.info? T with
  | none => rw [hi] at hc; cases hc
  | some i =>
    rw [hi] at hc
    simp only [Option.map_some, Option.some.injEq] at hc
    have hti : (typeInfo T).run P w = .ok i w := by unfold typeInfo; simp [Sem.run_bind, hi]
    simp only [Sem.run_bind, run_underlying hu, Result.andThen_ok, hti, hc, ne_eq, not_true_eq_false, if_false, Bool.not_true, Bool.false_eq_true]
    unfold Op.equalIn
    simp only [Sem.run_bind, run_underlying hT, Result.andThen_ok, run_sizeOf hs]
    simp [sameAddr]
/-- the same pointer behind two interface values: a closed fact of the type says that it is found the same -/
theorem WR.binI {o : BinOp} {t t' T T' : TypeId} {x y : Operand} {p q : Addr} {c : Bool} (hx : ev l x = some (.iface T (.pointer (some p)))) (hy : ev l y = some (.iface T' (.pointer (some q))))
    (ho : o = .eql ∨ o = .neq) (he : (Op.equal t (.iface T (.pointer (some p))) (.iface T' (.pointer (some q)))).run X.P w = .ok c w) (hd : Nat.blt d X.n = true)
    (kk : WR X m ops rest ks ds ((d, .bool (if o = .eql then c else !c)) :: l) w) : WR X m ops (⟨some d, .binOp o t x y t', ty, pos, aft, none⟩ :: rest) ks ds l w :=
  WR.still hd (by cases m <;> rfl) (fun a ha => by
    simp only [execOp, ha.ev hx, ha.ev hy, Sem.run_bind]
    rcases ho with rfl | rfl
    · have hg : (eqGuard .eql t x y (.iface T (.pointer (some p))) (.iface T' (.pointer (some q)))).run X.P w = .ok () w := rfl
      rw [hg]; simp [binOp, he]
    · have hg : (eqGuard .neq t x y (.iface T (.pointer (some p))) (.iface T' (.pointer (some q)))).run X.P w = .ok () w := rfl
      rw [hg]; simp [binOp, he]) kk
def isIfaceD : TypeDesc → Bool
  | .interface _ => true
  | _ => false
theorem WR.mkIface {t : TypeId} {x : Operand} {D : TypeDesc} (hx : ev l x = some v) (hu : X.P.underlying t = some D) (hD : isIfaceD D = false) (hd : Nat.blt d X.n = true) (kk : WR X m ops rest ks ds ((d, .iface t v) :: l) w) :
    WR X m ops (⟨some d, .makeInterface t x, ty, pos, aft, none⟩ :: rest) ks ds l w :=
  WR.still hd (by cases m <;> rfl) (fun a ha => by
    simp only [execOp, ha.ev hx, Instr.makeInterface, Sem.run_bind, run_underlying hu, Result.andThen_ok]
    cases D <;> first | rfl | cases hD) kk
theorem WR.mkMethod {name : String} {x : Operand} (hx : ev l x = some v) (hd : Nat.blt d X.n = true) (kk : WR X m ops rest ks ds ((d, .func (.method name) #[v] #[]) :: l) w) :
    WR X m ops (⟨some d, .makeFunc (.method name) #[x] #[], ty, pos, aft, none⟩ :: rest) ks ds l w :=
  WR.still hd (by cases m <;> rfl) (fun a ha => by simp [execOp, ha.ev hx, Instr.makeFunc]) kk
theorem WR.nilCheckF {x : Operand} {name : String} {T : TypeId} {p : Addr} (hx : ev l x = some (.func (.method name) #[.iface T (.pointer (some p))] #[]))
    (hn : ∀ (p : Addr) (w : World), (nilAhead (X.P.types.size + Made.depth) T (.pointer (some p)) name).run X.P w = .ok (some false) w) (hd : Nat.blt d X.n = true)
    (kk : WR X m ops rest ks ds ((d, .func (.method name) #[.iface T (.pointer (some p))] #[]) :: l) w) : WR X m ops (⟨some d, .nilCheck x, ty, pos, aft, none⟩ :: rest) ks ds l w :=
  WR.still hd (by cases m <;> rfl) (fun a ha => by
    have hp : (program).run X.P w = .ok X.P w := rfl
    simp only [execOp, ha.ev hx]
    simp [hp, hn]) kk

/-- a load of a whole struct or array -/
theorem WR.loadAgg {t s : TypeId} {x : Operand} {b o : Nat} {D : TypeDesc} {f : Nat → Value} (hx : ev l x = some (.pointer (some ⟨b, o, none⟩))) (hu : X.P.underlying t = some D) (hD : plainD D = false) (hs : (X.P.info? t).map (·.size) = some s)
    (hc : Rd w b o s f) (hd : Nat.blt d X.n = true) (k : WR X m ops rest ks ds ((d, .agg ((List.range s).map f).toArray) :: l) w) : WR X m ops (⟨some d, .load t x, ty, pos, aft, none⟩ :: rest) ks ds l w :=
  WR.still hd (by cases m <;> rfl) (fun a ha => by
    have ha' : (isAgg t).run X.P w = .ok true w := by
      unfold isAgg
      simp only [Sem.run_bind, run_underlying hu, Result.andThen_ok]
      cases D <;> first | rfl | cases hD
    have hl := run_loadCells_list (P := X.P) w ⟨b, o, none⟩ ((List.range s).map f) (fun j v hv => by
      rw [add_none]
      have hj : j < s := by
        rcases Nat.lt_or_ge j s with h | h
        · exact h
        · simp [h] at hv
      rw [hc j hj]
      simpa [hj] using hv)
    simp only [List.length_map, List.length_range] at hl
    simp only [execOp, ha.ev hx, Instr.loadAt, Instr.sureAddr, loadVar, Sem.run_bind, Sem.run_pure, Result.andThen_ok, ha']
    simp [run_sizeOf hs, hl]) k
end

/-- a function with a stretch written over -/
def ovr (f : Nat → Value) (o : Nat) (cs : List Value) : Nat → Value := fun i => if o ≤ i ∧ i < o + cs.length then cs.getD (i - o) undef else f i
theorem Row.setCells {b t n : Nat} : ∀ (cs : List Value) (o : Nat) (w : World) (f : Nat → Value), Row w b t n f → Row (w.setCells b o cs) b t n (ovr f o cs)
  | [], o, w, f, h => h.congr fun i _ => by unfold ovr; rw [if_neg (by simp)]
  | v :: vs, o, w, f, h => by
    have h1 := Row.setCells vs (o + 1) _ _ (h.set o v)
    refine Row.congr h1 fun i hi => ?_
    unfold ovr upd
    by_cases h0 : o + 1 ≤ i ∧ i < o + 1 + vs.length
    · rw [if_pos h0, if_pos (by simp; omega)]
      rw [show i - o = (i - (o + 1)) + 1 by omega]
      simp
    · rw [if_neg h0]
      by_cases hio : i = o
      · subst hio; simp
      · rw [if_neg hio, if_neg (by simp; omega)]
theorem Same.setCells (b : Nat) : ∀ (cs : List Value) (o : Nat) (w : World), Same [b] w (w.setCells b o cs)
  | [], _, w => Same.refl _ w
  | v :: vs, o, w => (Same.setCell w ⟨b, o, none⟩ v).trans (Same.setCells b vs (o + 1) _) (fun _ hg => .inl hg)
section
variable {X : Cx} {m : Option (List Nat)} {ops : Array Oper} {rest : List Oper} {ks : List KI} {ds : List Deferred} {l : Kn} {w : World} {d ty : Nat} {pos : String} {aft : Array Edge} {v : Value}
/-- copy between two slices that are not empty -/
theorem WR.copyK {x y : Operand} {dT sT E b o dLen dCap sLen sCap t n k b2 o2 : Nat} {f g : Nat → Value} (hx : ev l x = some (.slice (some ⟨b, o, none⟩) dLen dCap)) (hy : ev l y = some (.slice (some ⟨b2, o2, none⟩) sLen sCap))
    (hu : X.P.underlying dT = some (.slice E)) (hs : (X.P.info? E).map (·.size) = some 1) (hk : k = Nat.min sLen dLen) (hb : Row w b t n f) (hfit : o + k ≤ n) (hsrc : Rd w b2 o2 k g) (h1 : ∀ i, i < k → (g i).oneCell' = true)
    (hc : eventOK m (.call ⟨.builtin .copy, #[x, y], #[dT, sT]⟩) ty = true) (hd : Nat.blt d X.n = true)
    (kk : ∀ w', Row w' b t n (ovr f o ((List.range k).map g)) → Same [b] w w' → WR X m ops rest ks ds ((d, .int .i64 k) :: l) w') :
    WR X m ops (⟨some d, .call ⟨.builtin .copy, #[x, y], #[dT, sT]⟩, ty, pos, aft, none⟩ :: rest) ks ds l w :=
  WR.event hd hc (w' := w.setCells b o ((List.range k).map g)) (fun a ha => by
    have hr := run_copy_cells (P := X.P) w dT sT ty E b o dLen dCap ⟨b2, o2, none⟩ sLen sCap ((List.range k).map g) hu hs (by simp [hk]) (fun j u hj => by
      rw [add_none]
      have hjk : j < k := by
        rcases Nat.lt_or_ge j k with h | h
        · exact h
        · simp [h] at hj
      rw [hsrc j hjk]
      simpa [hjk] using hj) (fun j hj => by
      rw [hb.cell (by simp at hj; omega)]; rfl) (fun j _ => hb.fz _) (fun u hu' => by
      obtain ⟨i, hi, rfl⟩ := List.mem_map.1 hu'
      exact h1 i (List.mem_range.1 hi))
    simp only [execOp, resolve, Sem.run_bind, Sem.run_pure, Result.andThen_ok, Go.invoke, builtin, List.map_toArray, List.map_cons, List.map_nil, ha.ev hx, ha.ev hy]
    rw [hr]
    simp [goInt]) (kk _ (hb.setCells _ _ _ _) (Same.setCells b _ o w))
theorem run_newVar {P : Program} {t : TypeId} {u : Value} (w : World) : (newVar t u).run P w = .ok ⟨w.heap.size, 0, none⟩ (w.alloc (.cells u.cells t)) := by
  unfold newVar newRow newObj
  simp only [Sem.run_bind]
  rfl
/-- a new variable at its zero value -/
theorem WR.alloc {t : TypeId} (hz : ∀ w, (zeroValue t).run X.P w = .ok v w) (hc : eventOK m (.alloc t) ty = true) (hd : Nat.blt d X.n = true)
    (kk : ∀ w', w' = w.alloc (.cells v.cells t) → Same [] w w' → WR X m ops rest ks ds ((d, .pointer (some ⟨w.heap.size, 0, none⟩)) :: l) w') : WR X m ops (⟨some d, .alloc t, ty, pos, aft, none⟩ :: rest) ks ds l w :=
  WR.event hd hc (w' := w.alloc (.cells v.cells t)) (fun a ha => by
    simp only [execOp, Instr.alloc, Sem.run_bind, hz, Result.andThen_ok, run_newVar, Sem.run_pure]) (kk _ rfl (Same.alloc w _))
/-- a new variable that holds a value -/
theorem WR.box {t : TypeId} {x : Operand} (hx : ev l x = some v) (hc : eventOK m (.box t x) ty = true) (hd : Nat.blt d X.n = true)
    (kk : ∀ w', w' = w.alloc (.cells v.cells t) → Same [] w w' → WR X m ops rest ks ds ((d, .pointer (some ⟨w.heap.size, 0, none⟩)) :: l) w') : WR X m ops (⟨some d, .box t x, ty, pos, aft, none⟩ :: rest) ks ds l w :=
  WR.event hd hc (w' := w.alloc (.cells v.cells t)) (fun a ha => by
    simp only [execOp, ha.ev hx, Instr.box, Sem.run_bind, run_newVar, Result.andThen_ok, Sem.run_pure]) (kk _ rfl (Same.alloc w _))
def evps (l : Kn) : List (Nat × Operand) → Option (List (Nat × Value))
  | [] => some []
  | (i, x) :: xs => match ev l x, evps l xs with
    | some v, some vs => some ((i, v) :: vs)
    | _, _ => none
theorem evps_of {a : Act} {n : Nat} (h : Fr a n ds l) : ∀ {xs : List (Nat × Operand)} {vs : List (Nat × Value)}, evps l xs = some vs → xs.map (fun p => (p.1, a.eval p.2)) = vs
  | [], vs, he => by simp only [evps, Option.some.injEq] at he; subst he; rfl
  | (i, x) :: xs, vs, he => by
    unfold evps at he
    cases hx : ev l x with
    | none => rw [hx] at he; cases he
    | some v =>
      cases hr : evps l xs with
      | none => rw [hx, hr] at he; cases he
      | some us =>
        rw [hx, hr] at he
        simp only [Option.some.injEq] at he
        subst he
        rw [List.map_cons, h.ev hx, evps_of h hr]
/-- a struct or array put together: a closed fact of the type says what it is -/
theorem WR.build {t : TypeId} {parts : Array (Nat × Operand)} {ps : List (Nat × Operand)} {vs : List (Nat × Value)} (hp : parts = ps.toArray) (hv : evps l ps = some vs) (hrun : ∀ w, (Instr.build t vs.toArray).run X.P w = .ok v w) (hd : Nat.blt d X.n = true)
    (hc : eventOK m (.build t parts) ty = true) (kk : WR X m ops rest ks ds ((d, v) :: l) w) : WR X m ops (⟨some d, .build t parts, ty, pos, aft, none⟩ :: rest) ks ds l w :=
  WR.event hd hc (fun a ha => by
    have he := evps_of ha hv
    subst hp
    simp only [execOp, Sem.run_bind, List.map_toArray]
    rw [show (ps.map fun (x : Nat × Operand) => match x with | (i, x) => (i, a.eval x)) = vs from he]
    simp [hrun]) kk
end
/-- a piece of code whose ways come together behind it -/
theorem WC.cut {α : Type} {X : Cx} {c : Code} {ks : List KI} {ds : List Deferred} {l : Kn} {w : World} (L : α → Kn) (Inv : α → World → Prop)
    (h1 : WC X c (.loop (rel X.n ds L fun _ => Inv) 1 :: ks) ds l w) (h2 : ∀ x w', Inv x w' → WN X ks ds (L x) w') : WC X c ks ds l w := fun a ha => by
  refine Code.wp_mono (fun e a' w' hq => ?_) (h1 a ha)
  cases e with
  | normal =>
    obtain ⟨k', _, x, hx, hI⟩ := hq
    exact h2 x w' hI a' hx
  | _ => exact hq
end Go.Proofs.YthmknddfkmklfaaGreatDoor.Vm
