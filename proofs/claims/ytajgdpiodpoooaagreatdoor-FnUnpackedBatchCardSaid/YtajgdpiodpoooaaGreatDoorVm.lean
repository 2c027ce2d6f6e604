/- A layer of our own over the rules of the walk: code is walked with a list of the slots that are known. Nothing is assumed. -/
import Derived.Test.YtajgdpiodpoooaaGreatDoorMix
import Derived.WalkKit
import Derived.Deep.LoopGhost
namespace Go.Proofs.YtajgdpiodpoooaaGreatDoor.Vm
open Go Mix

abbrev Kn := List (Nat × Value)
/-- what a slot is known to hold: the first entry counts -/
def look : Kn → Nat → Option Value
  | [], _ => none
  | (d, v) :: l, t => bif Nat.beq d t then some v else look l t
def ev (l : Kn) : Operand → Option Value
  | .tmp t => look l t
  | .const v => some v
  | .global g => some (.pointer (some ⟨g, 0, none⟩))
  | .func f => some (.func (.func f) #[] #[])
/-- a frame of n slots with these deferred calls holds what is listed -/
structure Fr (a : Act) (n : Nat) (ds : List Deferred) (l : Kn) : Prop where
  defers : a.defers = ds
  size : a.tmps.size = n
  get : ∀ t v, look l t = some v → a.tmps.getD t undef = v
def subK (l : Kn) : Kn → Prop
  | [] => True
  | (d, v) :: r => look l d = some v ∧ subK l r
theorem look_sub {l : Kn} : ∀ {r : Kn}, subK l r → ∀ t v, look r t = some v → look l t = some v
  | [], _, _, _, h => by cases h
  | (d, u) :: r, hs, t, v, h => by
    obtain ⟨h0, h1⟩ := hs
    unfold look at h
    cases hb : Nat.beq d t with
    | true =>
      rw [hb] at h
      have : d = t := Nat.eq_of_beq_eq_true hb
      subst this
      exact h0.trans h
    | false => rw [hb] at h; exact look_sub h1 t v h

section
variable {a : Act} {n : Nat} {ds : List Deferred} {l : Kn}
theorem Fr.sub {r : Kn} (h : Fr a n ds l) (hs : subK l r) : Fr a n ds r := ⟨h.defers, h.size, fun t v hv => h.get t v (look_sub hs t v hv)⟩
theorem Fr.ev (h : Fr a n ds l) {x : Operand} {v : Value} (hx : ev l x = some v) : a.eval x = v := by
  cases x with
  | tmp t => exact h.get t v hx
  | const u => exact Option.some.inj hx
  | global g => exact Option.some.inj hx
  | func f => exact Option.some.inj hx
theorem Fr.put (h : Fr a n ds l) {d : Nat} (hd : Nat.blt d n = true) (v : Value) : Fr (a.put (some d) v) n ds ((d, v) :: l) := by
  have hdn : d < a.tmps.size := by rw [h.size]; simpa using hd
  refine ⟨h.defers, by simp [Act.put, h.size], fun t u hu => ?_⟩
  unfold look at hu
  cases hb : Nat.beq d t with
  | true =>
    rw [hb] at hu
    have : d = t := Nat.eq_of_beq_eq_true hb
    subst this
    simp only [cond_true, Option.some.injEq] at hu
    subst hu
    simp [Act.put, hdn]
  | false =>
    rw [hb] at hu
    have hne : d ≠ t := fun e => by subst e; simp at hb
    have := h.get t u hu
    simpa [Act.put, Array.getElem?_setIfInBounds_ne hne] using this
end

/-- what stands behind the code that is walked -/
inductive KI where
  | seq (y : Code)
  | block (id : Nat)
  | loop (I : Nat → Act → World → Prop) (k : Nat)
def post (P : Program) (B : Exit → Act → World → Prop) : List KI → Exit → Act → World → Prop
  | [] => B
  | .seq y :: ks => Exit.then (fun a w => y.wp P (post P B ks) a w) (post P B ks)
  | .block id :: ks => Exit.inBlock id (post P B ks)
  | .loop I k :: ks => Exit.then (fun a w => ∃ k', k' < k ∧ I k' a w) (post P B ks)
def exitK (id : Nat) : List KI → Option (List KI)
  | [] => none
  | .block i :: ks => bif Nat.beq id i then some ks else exitK id ks
  | _ :: ks => exitK id ks
theorem post_exit {P : Program} {B : Exit → Act → World → Prop} {id : Nat} {ks' : List KI} {a : Act} {w : World} (h : post P B ks' .normal a w) :
    ∀ ks, exitK id ks = some ks' → post P B ks (.exit id) a w
  | [], h => by cases h
  | .seq _ :: ks, hk => post_exit h ks hk
  | .loop _ _ :: ks, hk => post_exit h ks hk
  | .block i :: ks, hk => by
    unfold exitK at hk
    cases hb : Nat.beq id i with
    | true =>
      rw [hb] at hk
      simp only [cond_true, Option.some.injEq] at hk
      subst hk
      simp only [post, Exit.inBlock, if_pos (Nat.eq_of_beq_eq_true hb)]
      exact h
    | false =>
      rw [hb] at hk
      have hne : id ≠ i := fun e => by subst e; simp at hb
      simp only [post, Exit.inBlock, if_neg hne]
      exact post_exit h ks hk
theorem post_ret {P : Program} {B : Exit → Act → World → Prop} {a : Act} {w : World} (h : B .ret a w) : ∀ ks, post P B ks .ret a w
  | [] => h
  | .seq _ :: ks => post_ret h ks
  | .loop _ _ :: ks => post_ret h ks
  | .block _ :: ks => post_ret h ks

structure Cx where
  P : Program
  n : Nat
  B : Exit → Act → World → Prop
def WC (X : Cx) (c : Code) (ks : List KI) (ds : List Deferred) (l : Kn) (w : World) : Prop := ∀ a, Fr a X.n ds l → c.wp X.P (post X.P X.B ks) a w
def WN (X : Cx) (ks : List KI) (ds : List Deferred) (l : Kn) (w : World) : Prop := ∀ a, Fr a X.n ds l → post X.P X.B ks .normal a w
def WR (X : Cx) (m : Option (List Nat)) (ops : Array Oper) (rest : List Oper) (ks : List KI) (ds : List Deferred) (l : Kn) (w : World) : Prop :=
  ∀ a, Fr a X.n ds l → match m with
    | none => wpList X.P ops (post X.P X.B ks) rest a w
    | some qs => wpMix qs X.P ops (calm (post X.P X.B ks)) rest a w
/-- a call that comes back -/
def Ret (P : Program) (f : FuncId) (args : Array Value) (w : World) (R : Value → World → Prop) : Prop := Calls P f args w fun e w' => ∃ v, e = .returned v ∧ R v w'
theorem Ret.mono {P : Program} {f : FuncId} {args : Array Value} {w : World} {R R' : Value → World → Prop} (h : Ret P f args w R) (hr : ∀ v w', R v w' → R' v w') : Ret P f args w R' :=
  Calls.mono h fun _ _ ⟨v, e, hv⟩ => ⟨v, e, hr v _ hv⟩

/-- the frame at a function's head -/
def args0 : Nat → List Value → Kn
  | _, [] => []
  | i, v :: vs => (i, v) :: args0 (i + 1) vs
theorem look_args0 : ∀ (vs : List Value) (i t : Nat) (v : Value), look (args0 i vs) t = some v → i ≤ t ∧ vs[t - i]? = some v
  | [], _, _, _, h => by cases h
  | u :: vs, i, t, v, h => by
    unfold args0 look at h
    cases hb : Nat.beq i t with
    | true =>
      rw [hb] at h
      have : i = t := Nat.eq_of_beq_eq_true hb
      subst this
      simpa using h
    | false =>
      rw [hb] at h
      obtain ⟨h1, h2⟩ := look_args0 vs (i + 1) t v h
      refine ⟨by omega, ?_⟩
      rw [show t - i = (t - (i + 1)) + 1 by omega]
      simpa using h2
theorem Fr.enter (n : Nat) (vs : List Value) (h : vs.length ≤ n) : Fr ⟨vs.toArray ++ Array.replicate (n - vs.toArray.size) undef, []⟩ n [] (args0 0 vs) := by
  refine ⟨rfl, by simp; omega, fun t v hv => ?_⟩
  obtain ⟨_, h2⟩ := look_args0 vs 0 t v hv
  have hlt : t < vs.length := by
    rcases Nat.lt_or_ge t vs.length with h | h
    · exact h
    · simp [h] at h2
  simp only [Nat.sub_zero] at h2
  rw [Array.getD_eq_getD_getElem?, Array.getElem?_append_left (by simpa using hlt)]
  simp [h2]
theorem Ret.enter {P : Program} {f : FuncId} {fn : Func} {n : Nat} {c : Code} {vs : List Value} {w : World} {R : Value → World → Prop} (hf : P.funcs[f]? = some fn) (hn : fn.ntmps = n) (hb : fn.body = some c)
    (hl : Nat.ble vs.length n = true) (h : WC ⟨P, n, bodyPost P fn fun e w' => ∃ v, e = .returned v ∧ R v w'⟩ c [] [] (args0 0 vs) w) : Ret P f vs.toArray w R := by
  refine calls_of_wp hf hb ?_
  rw [hn]
  exact h _ (Fr.enter n vs (by simpa using hl))

section
variable {X : Cx} {c x y : Code} {ks ks' : List KI} {ds : List Deferred} {l l' : Kn} {w : World} {id : Nat}
theorem WC.seq (h : WC X x (.seq y :: ks) ds l w) : WC X (.seq x y) ks ds l w := fun a ha => wp_seq (h a ha)
theorem WC.region {lo : List Oper} (h : WR X none lo.toArray lo ks ds l w) : WC X (.region id lo.toArray false) ks ds l w := fun a ha => wp_region_lit (h a ha)
theorem WC.mix {lo : List Oper} (qs : List Nat) (hm : X.P.follows .mixedOrders = true) (hB : mixB qs lo.toArray = true) (h : WR X (some qs) lo.toArray lo ks ds l w.drew) : WC X (.region id lo.toArray true) ks ds l w :=
  fun a ha => wp_region_mix qs hm hB (h a ha)
theorem WC.block (h : WC X c (.block id :: ks) ds l w) : WC X (.block id c) ks ds l w := fun a ha => wp_block (h a ha)
theorem WC.skip (h : WN X ks ds l w) : WC X .skip ks ds l w := fun a ha => wp_skip (h a ha)
theorem WC.exit (hk : exitK id ks = some ks') (h : WN X ks' ds l w) : WC X (.exit id) ks ds l w := fun a ha => wp_exit (post_exit (h a ha) ks hk)
theorem WC.ret (h : ∀ a, Fr a X.n ds l → X.B .ret a w) : WC X .ret ks ds l w := fun a ha => wp_ret (post_ret (h a ha) ks)
theorem WC.cond {o : Operand} {b : Bool} (hc : ev l o = some (.bool b)) (ht : b = true → WC X x ks ds l w) (hf : b = false → WC X y ks ds l w) : WC X (.cond o x y) ks ds l w :=
  fun a ha => wp_cond_split (ha.ev hc) (fun e => ht e a ha) (fun e => hf e a ha)
theorem WC.weak (l' : Kn) (hs : subK l l') (h : WC X c ks ds l' w) : WC X c ks ds l w := fun a ha => h a (ha.sub hs)
theorem WN.weak (l' : Kn) (hs : subK l l') (h : WN X ks ds l' w) : WN X ks ds l w := fun a ha => h a (ha.sub hs)
theorem WN.seq (h : WC X y ks ds l w) : WN X (.seq y :: ks) ds l w := fun a ha => h a ha
theorem WN.block (h : WN X ks ds l w) : WN X (.block id :: ks) ds l w := fun a ha => h a ha
theorem WR.nil {m : Option (List Nat)} {ops : Array Oper} (h : WN X ks ds l w) : WR X m ops [] ks ds l w := fun a ha => by
  cases m with
  | none => exact h a ha
  | some qs => exact h a ha
theorem WN.nil (h : ∀ a, Fr a X.n ds l → X.B .normal a w) : WN X [] ds l w := h

/-- a loop's relation: some known slots that hang on x, and what holds of x and the world -/
def rel {α : Type} (n : Nat) (ds : List Deferred) (L : α → Kn) (Inv : Nat → α → World → Prop) : Nat → Act → World → Prop := fun k a w => ∃ x, Fr a n ds (L x) ∧ Inv k x w
theorem WC.loop {α : Type} (L : α → Kn) (Inv : Nat → α → World → Prop) (k₀ : Nat) (x₀ : α) (hs : subK l (L x₀)) (h₀ : Inv k₀ x₀ w)
    (round : ∀ k x w, Inv k x w → WC X c (.loop (rel X.n ds L Inv) k :: ks) ds (L x) w) : WC X (.loop c) ks ds l w := fun _ ha =>
  wp_loop_ghost (rel X.n ds L Inv) k₀ ⟨x₀, ha.sub hs, h₀⟩ fun k _ w ⟨x, hx, hI⟩ => round k x w hI _ hx
theorem WN.loop {α : Type} {L : α → Kn} {Inv : Nat → α → World → Prop} {k : Nat} (k' : Nat) (x : α) (hlt : k' < k) (hs : subK l (L x)) (hI : Inv k' x w) : WN X (.loop (rel X.n ds L Inv) k :: ks) ds l w :=
  fun _ ha => ⟨k', hlt, x, ha.sub hs, hI⟩
/-- several ways come together: what follows is walked once -/
theorem WN.meet {α : Type} (L : α → Kn) (Inv : α → World → Prop) (hk : ∀ x w, Inv x w → WN X ks ds (L x) w) (x : α) (hs : subK l (L x)) (hI : Inv x w) : WN X ks ds l w :=
  fun a ha => hk x w hI a (ha.sub hs)
end

/-- results -/
def resK (l : Kn) : List ResultVar → Option (List Value)
  | [] => some []
  | .tmp t :: rs => match look l t, resK l rs with
    | some v, some vs => some (v :: vs)
    | _, _ => none
  | .cell .. :: _ => none
theorem run_resK {P : Program} {a : Act} {n : Nat} {ds : List Deferred} {l : Kn} {w : World} {g : ResultVar → Sem Value} (hg : ∀ t, g (.tmp t) = pure (a.tmps.getD t undef)) (ha : Fr a n ds l) :
    ∀ {rs : List ResultVar} {vs : List Value}, resK l rs = some vs → (rs.mapM g).run P w = .ok vs w
  | [], vs, h => by simp only [resK, Option.some.injEq] at h; subst h; rfl
  | .tmp t :: rs, vs, h => by
    unfold resK at h
    cases hl : look l t with
    | none => rw [hl] at h; cases h
    | some v =>
      cases hr : resK l rs with
      | none => rw [hl, hr] at h; cases h
      | some us =>
        rw [hl, hr] at h
        simp only [Option.some.injEq] at h
        subst h
        have := run_resK (P := P) (w := w) hg ha hr
        rw [List.mapM_cons, hg]
        simp only [Sem.run_bind, Sem.run_pure, Result.andThen_ok, this, ha.get t v hl]
  | .cell _ _ :: _, _, h => by cases h
def tupV : List Value → Value
  | [v] => v
  | vs => .tuple vs.toArray
theorem run_results {P : Program} {fn : Func} {a : Act} {n : Nat} {ds : List Deferred} {l : Kn} {w : World} {rs : List ResultVar} {vs : List Value} (hrs : fn.results = rs.toArray) (ha : Fr a n ds l) (hv : resK l rs = some vs) :
    (results fn a.tmps).run P w = .ok (tupV vs) w := by
  unfold results
  rw [hrs, List.mapM_toArray]
  simp only [map_eq_pure_bind, Sem.run_bind]
  rw [run_resK (P := P) (w := w) (fun _ => rfl) ha hv]
  simp only [Result.andThen_ok, Sem.run_pure]
  match vs with
  | [] => rfl
  | [v] => rfl
  | u :: v :: r => simp [tupV]
theorem ret_of {P : Program} {fn : Func} {R : Value → World → Prop} {n : Nat} {l : Kn} {w : World} {rs : List ResultVar} {vs : List Value} (hrs : fn.results = rs.toArray) (hv : resK l rs = some vs)
    (h : R (tupV vs) w) (a : Act) (ha : Fr a n [] l) : bodyPost P fn (fun e w' => ∃ v, e = .returned v ∧ R v w') .ret a w :=
  ⟨ha.defers, _, run_results hrs ha hv, _, rfl, h⟩
theorem end_of {P : Program} {fn : Func} {R : Value → World → Prop} {n : Nat} {l : Kn} {w : World} {rs : List ResultVar} {vs : List Value} (hrs : fn.results = rs.toArray) (hv : resK l rs = some vs)
    (h : R (tupV vs) w) (a : Act) (ha : Fr a n [] l) : bodyPost P fn (fun e w' => ∃ v, e = .returned v ∧ R v w') .normal a w :=
  ⟨ha.defers, _, run_results hrs ha hv, _, rfl, h⟩
theorem WC.retR {P : Program} {fn : Func} {R : Value → World → Prop} {n : Nat} {ks : List KI} {l : Kn} {w : World} {rs : List ResultVar} {vs : List Value} (hrs : fn.results = rs.toArray) (hv : resK l rs = some vs)
    (h : R (tupV vs) w) : WC ⟨P, n, bodyPost P fn fun e w' => ∃ v, e = .returned v ∧ R v w'⟩ .ret ks [] l w := WC.ret fun a ha => ret_of hrs hv h a ha
theorem WN.endR {P : Program} {fn : Func} {R : Value → World → Prop} {n : Nat} {l : Kn} {w : World} {rs : List ResultVar} {vs : List Value} (hrs : fn.results = rs.toArray) (hv : resK l rs = some vs)
    (h : R (tupV vs) w) : WN ⟨P, n, bodyPost P fn fun e w' => ∃ v, e = .returned v ∧ R v w'⟩ [] [] l w := fun a ha => end_of hrs hv h a ha
end Go.Proofs.YtajgdpiodpoooaaGreatDoor.Vm
