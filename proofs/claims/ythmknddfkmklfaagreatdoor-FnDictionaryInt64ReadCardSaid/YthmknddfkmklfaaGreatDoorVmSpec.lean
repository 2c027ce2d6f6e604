/- What the law's reference speaks of: runs and values as they are given, and lists of them. -/
import Derived.Test.YthmknddfkmklfaaGreatDoorFnZe
namespace Go.Proofs.YthmknddfkmklfaaGreatDoor.Vm
open Go Mix Go.RowKit Num
/-- a run as it is given -/
structure RR where
  p : Bool
  c : Int
  A : Option Addr
  cap : Nat
  xs : List Nat
instance : Inhabited RR := ⟨⟨false, 0, none, 0, []⟩⟩
def rF (r : RR) : Nat → Value
  | 0 => .bool r.p
  | 1 => .int .i64 r.c
  | _ => .slice r.A r.xs.length r.cap
theorem rF_one (r : RR) {i : Nat} (h : i < 3) : (rF r i).oneCell' = true := by
  rcases (show i = 0 ∨ i = 1 ∨ i = 2 by omega) with rfl | rfl | rfl <;> rfl
def RR.run (r : RR) : Rl.Run := ⟨r.p, r.c.toNat, r.xs⟩
/-- the slice v reads as ys, in a block ahead of lim; an empty one may lie anywhere -/
def Lx (w : World) (lim : Nat) (v : Value) (ys : List Value) : Prop := Lu w lim v ys ∨ ys = [] ∧ ∃ a c, v = .slice (some a) 0 c
section
variable {w w' : World} {lim : Nat} {v : Value} {ys : List Value} {S : List Nat}
theorem Lx.same (h : Lx w lim v ys) (hs : Same S w w') (hS : ∀ g, g ∈ S → lim ≤ g) : Lx w' lim v ys := h.imp (fun h => h.same hs hS) id
theorem Lx.more (h : Lx w lim v ys) {l2 : Nat} (hl : lim ≤ l2) : Lx w l2 v ys := h.imp (fun h => h.more hl) id
theorem Lx.lit (h : Lx w lim v ys) (h0 : 0 < ys.length) : ∃ g o c, v = .slice (some ⟨g, o, none⟩) ys.length c ∧ g < lim ∧ g < w.heap.size ∧ Rd w g o ys.length (fun i => ys.getD i undef) := by
  rcases h with h | ⟨rfl, _⟩
  · exact h.lit h0
  · simp at h0
end
section
variable {X : Cx} {m : Option (List Nat)} {ops : Array Oper} {rest : List Oper} {ks : List KI} {ds : List Deferred} {l : Kn} {w : World} {d ty : Nat} {pos : String} {aft : Array Edge} {v : Value}
theorem WR.appendFx {t E by' : Nat} {x y : Operand} {base lim : Nat} {xs ys : List Value} {u z : Value} (hx : ev l x = some v) (hown : Own w base E v xs) (hy : ev l y = some u) (hls : Lx w lim u ys) (h1 : ∀ i, i < ys.length → (ys.getD i undef).oneCell' = true)
    (hu : X.P.underlying t = some (.slice E)) (hi : (X.P.info? E).map (fun i => (i.size, i.bytes, i.zero)) = some (1, by', some z)) (hz : z.cells = #[z]) (hby : by' ≤ 16) (hn : xs.length + ys.length ≤ 1099511627776) (hbase : base ≤ w.heap.size)
    (hc : eventOK m (.call ⟨.builtin .append, #[x, y], #[t, t]⟩) ty = true) (hd : Nat.blt d X.n = true)
    (kk : ∀ v' w', Own w' base E v' (xs ++ ys) → Same v.ownBlock.toList w w' → (∀ g', v'.ownBlock = some g' → v.ownBlock = some g' ∨ w.heap.size ≤ g') → WR X m ops rest ks ds ((d, v') :: l) w') :
    WR X m ops (⟨some d, .call ⟨.builtin .append, #[x, y], #[t, t]⟩, ty, pos, aft, none⟩ :: rest) ks ds l w := by
  rcases hls with hls | ⟨rfl, a, c, rfl⟩
  · exact WR.appendF hx hown hy hls.ls h1 hu hi hz hby hn hbase hc hd kk
  · cases hi' : X.P.info? E with
    | none => rw [hi'] at hi; cases hi
    | some i =>
      rw [hi'] at hi
      simp only [Option.map_some, Option.some.injEq, Prod.mk.injEq] at hi
      obtain ⟨hs, hb, hz'⟩ := hi
      have hn2 : xs.length ≤ 1099511627776 := by simpa using hn
      have hnb : (xs.length + 0) * by' ≤ 1099511627776 * 16 := Nat.mul_le_mul hn2 hby
      obtain ⟨v', w', hrun, ho, hg, hfr⟩ := own_fresh (P := X.P) w base t ty E i z by' hu hi' hz' hs hb (by rw [hz]; rfl) v xs.length xs hown a 0 c [] rfl (fun j u hj => by simp at hj) (fun u hu' => by simp at hu') (by simp only [maxLen]; omega) (by omega) hbase
      refine WR.event hd hc (w' := w') (fun b hb2 => ?_) (kk v' w' (by rw [List.append_nil] at ho ⊢; exact ho) ⟨hg.size, fun q hq hqS => hg.block q hq fun e => hqS (by rw [← e]; simp), hg.os, hg.output, hg.tape⟩ hfr)
      simp only [execOp, resolve, Sem.run_bind, Sem.run_pure, Result.andThen_ok, Go.invoke, builtin, List.map_toArray, List.map_cons, List.map_nil, hb2.ev hx, hb2.ev hy, hrun]
theorem WR.appendLx {t E by' : Nat} {x y : Operand} {base lim : Nat} {xs ys : List Value} {u z : Value} (hx : ev l x = some v) (hown : Own w base E v xs) (hy : ev l y = some u) (hls : Lx w lim u ys) (h1 : ∀ i, i < ys.length → (ys.getD i undef).oneCell' = true)
    (hu : X.P.underlying t = some (.slice E)) (hi : (X.P.info? E).map (fun i => (i.size, i.bytes, i.zero)) = some (1, by', some z)) (hz : z.cells = #[z]) (hby : by' ≤ 16) (hn : xs.length + ys.length ≤ 1099511627776) (hbase : base ≤ w.heap.size)
    (hc : eventOK m (.call ⟨.builtin .append, #[x, y], #[t, t]⟩) ty = true) (hd : Nat.blt d X.n = true)
    (kk : ∀ v' w' S, Own w' base E v' (xs ++ ys) → Same S w w' → (∀ g, g ∈ S → base ≤ g) → WR X m ops rest ks ds ((d, v') :: l) w') :
    WR X m ops (⟨some d, .call ⟨.builtin .append, #[x, y], #[t, t]⟩, ty, pos, aft, none⟩ :: rest) ks ds l w :=
  WR.appendFx hx hown hy hls h1 hu hi hz hby hn hbase hc hd fun v' w' h1 h2 _ => kk v' w' _ h1 h2 fun g hg => (World.ownsRow.lt hown g (by simpa using hg)).1
end
structure RR.OK (w : World) (lim : Nat) (r : RR) : Prop where
  ls : Lx w lim (.slice r.A r.xs.length r.cap) (u64s r.xs)
  c0 : -9223372036854775808 ≤ r.c
  c1 : r.c ≤ 9223372036854775807
  len : r.xs.length ≤ 9223372036854775807
  lt : ∀ x, x ∈ r.xs → x < 18446744073709551616
/-- the slice v reads as the runs rs, in a block ahead of lim -/
structure RS (w : World) (lim : Nat) (v : Value) (rs : List RR) : Prop where
  cells : v = .slice none 0 0 ∧ rs = [] ∨ ∃ g o c, v = .slice (some ⟨g, o, none⟩) rs.length c ∧ g < lim ∧ g < w.heap.size ∧ ∀ j, j < rs.length → Rd w g (o + j * 3) 3 (rF (rs.getD j default))
  ok : ∀ j, j < rs.length → (rs.getD j default).OK w lim
theorem RR.OK.same {w w' : World} {lim : Nat} {r : RR} {S : List Nat} (h : r.OK w lim) (hs : Same S w w') (hS : ∀ g, g ∈ S → lim ≤ g) : r.OK w' lim := ⟨h.ls.same hs hS, h.c0, h.c1, h.len, h.lt⟩
theorem RS.same {w w' : World} {lim : Nat} {v : Value} {rs : List RR} {S : List Nat} (h : RS w lim v rs) (hs : Same S w w') (hS : ∀ g, g ∈ S → lim ≤ g) : RS w' lim v rs := by
  refine ⟨?_, fun j hj => (h.ok j hj).same hs hS⟩
  rcases h.cells with h0 | ⟨g, o, c, h1, h2, h3, h4⟩
  · exact .inl h0
  · refine .inr ⟨g, o, c, h1, h2, Nat.lt_of_lt_of_le h3 hs.size, fun j hj => (h4 j hj).same hs (fun hm => ?_) h3⟩
    have := hS g hm; omega
theorem RS.shape {w : World} {lim : Nat} {v : Value} {rs : List RR} (h : RS w lim v rs) : ∃ A c, v = .slice A rs.length c := by
  rcases h.cells with ⟨h9, h8⟩ | ⟨g, o, c, h1, _⟩
  · exact ⟨none, 0, by rw [h9, h8]; rfl⟩
  · exact ⟨_, c, h1⟩
theorem RS.lit {w : World} {lim : Nat} {A : Option Addr} {n c : Nat} {rs : List RR} (h : RS w lim (.slice A n c) rs) (h0 : 0 < rs.length) : ∃ g o, A = some ⟨g, o, none⟩ ∧ g < lim ∧ g < w.heap.size ∧ ∀ j, j < rs.length → Rd w g (o + j * 3) 3 (rF (rs.getD j default)) := by
  rcases h.cells with ⟨_, rfl⟩ | ⟨g, o, c, h1, h2, h3, h4⟩
  · simp at h0
  · cases h1
    exact ⟨g, o, rfl, h2, h3, h4⟩
theorem Row.lsOne {w : World} {b E : Nat} {v : Value} (h : Row w b E (#[v] : Array Value).size (fun i => (#[v] : Array Value).getD i undef)) : Ls w 0 (.slice (some ⟨b, 0, none⟩) 1 1) [v] :=
  Row.ls (o := 0) h rfl (Nat.le_refl 1) (Nat.zero_le _) fun i hi => by
    obtain rfl : i = 0 := by omega
    rfl
/-- a loaded struct stored in a new place -/
theorem agg3 (f : Nat → Value) : ((List.range 3).map f).toArray = #[f 0, f 1, f 2] := rfl
theorem agg4 (f : Nat → Value) : ((List.range 4).map f).toArray = #[f 0, f 1, f 2, f 3] := rfl
end Go.Proofs.YthmknddfkmklfaaGreatDoor.Vm
namespace Go.Proofs.YthmknddfkmklfaaGreatDoor.Rl
open Num
theorem vlq_len {u : Nat} (h : u < 16384) : (vlq u).length ≤ 2 := by
  by_cases h1 : u < 128
  · rw [vlq_lt h1]; simp
  · rw [vlq_ge h1, vlq_lt (by omega)]; simp
theorem vlq_pos (u : Nat) : 0 < (vlq u).length := by
  by_cases h1 : u < 128
  · rw [vlq_lt h1]; simp
  · rw [vlq_ge h1]; simp
theorem vlq_byte {u : Nat} (h : u < 16384) : ∀ x, x ∈ vlq u → x < 256 := by
  intro x hx
  by_cases h1 : u < 128
  · rw [vlq_lt h1] at hx
    simp at hx; omega
  · rw [vlq_ge h1, vlq_lt (by omega)] at hx
    simp at hx; omega
theorem pk_byte (W : Nat) (l : List Nat) : ∀ x, x ∈ pk W l → x < 256 := by
  intro x hx
  obtain ⟨q, _, rfl⟩ := List.mem_map.1 hx
  exact bts_lt _ _ 8
theorem leb_byte (n v : Nat) : ∀ x, x ∈ leb n v → x < 256 := by
  intro x hx
  obtain ⟨q, _, rfl⟩ := List.mem_map.1 hx
  exact bts_lt _ _ 8
theorem encR_byte {W : Nat} {r : Run} (hf : Fit W r) : ∀ x, x ∈ encR W r → x < 256 := by
  intro x hx
  unfold encR at hx
  split at hx
  · rename_i hp
    have := hf.pk hp
    rcases List.mem_append.1 hx with h | h
    · exact vlq_byte (by omega) x h
    · exact pk_byte _ _ x h
  · rename_i hp
    have := hf.rp (by simpa using hp)
    rcases List.mem_append.1 hx with h | h
    · exact vlq_byte (by omega) x h
    · exact leb_byte _ _ x h
theorem encR_len {W : Nat} {r : Run} (hf : Fit W r) (hW : W ≤ 20) : (encR W r).length ≤ 500 := by
  unfold encR
  split
  · rename_i hp
    have h1 := hf.pk hp
    have h2 := vlq_len (u := 2 * r.count + 1) (by omega)
    have h3 := hf.padLen hp
    rw [List.length_append, pk_length, h3]
    have h4 : 8 * r.count * W ≤ 8 * 20 * 20 := Nat.mul_le_mul (by omega) hW
    omega
  · rename_i hp
    have h1 := hf.rp (by simpa using hp)
    have h2 := vlq_len (u := 2 * r.count) (by omega)
    rw [List.length_append, leb_length]
    omega
theorem expR_len {W : Nat} {r : Run} (hf : Fit W r) : 1 ≤ (expR r).length ∧ (expR r).length ≤ 300 := by
  have h0 := hf.one
  unfold expR
  split
  · rename_i hp
    have h1 := hf.pk hp
    rw [hf.padLen hp]; omega
  · rename_i hp
    have h1 := hf.rp (by simpa using hp)
    rw [List.length_replicate]; omega
theorem enc_byte {W : Nat} : ∀ {rs : List Run}, (∀ r, r ∈ rs → Fit W r) → ∀ x, x ∈ enc W rs → x < 256
  | [], _, x, hx => by simp [enc] at hx
  | r :: rs, hf, x, hx => by
    rw [enc_cons] at hx
    rcases List.mem_append.1 hx with h | h
    · exact encR_byte (hf r List.mem_cons_self) x h
    · exact enc_byte (fun y hy => hf y (List.mem_cons_of_mem _ hy)) x h
theorem enc_len {W : Nat} (hW : W ≤ 20) : ∀ {rs : List Run}, (∀ r, r ∈ rs → Fit W r) → (enc W rs).length ≤ 500 * rs.length
  | [], _ => by simp [enc]
  | r :: rs, hf => by
    have h1 := encR_len (hf r List.mem_cons_self) hW
    have h2 := enc_len hW (rs := rs) fun y hy => hf y (List.mem_cons_of_mem _ hy)
    rw [enc_cons, List.length_append, List.length_cons]
    omega
theorem exp_len {W : Nat} : ∀ {rs : List Run}, (∀ r, r ∈ rs → Fit W r) → (exp rs).length ≤ 300 * rs.length
  | [], _ => by simp [exp]
  | r :: rs, hf => by
    have h1 := expR_len (hf r List.mem_cons_self)
    have h2 := exp_len (rs := rs) fun y hy => hf y (List.mem_cons_of_mem _ hy)
    rw [exp_cons, List.length_append, List.length_cons]
    omega
theorem enc_pos {W : Nat} {r : Run} {rs : List Run} : 1 ≤ (enc W (r :: rs)).length := by
  rw [enc_cons, List.length_append]
  have : 1 ≤ (encR W r).length := by
    unfold encR
    split
    · have := vlq_pos (2 * r.count + 1)
      rw [List.length_append]; omega
    · have := vlq_pos (2 * r.count)
      rw [List.length_append]; omega
  omega
end Go.Proofs.YthmknddfkmklfaaGreatDoor.Rl
namespace Go.Proofs.YthmknddfkmklfaaGreatDoor.Vm
open Go
theorem f64from (n : Int) (w : World) : (callFunc 44 #[.int .u64 n]).run Tryz.prog w = .ok (.value (.float .f64 n.toNat)) w := by kernel_rfl
end Go.Proofs.YthmknddfkmklfaaGreatDoor.Vm
