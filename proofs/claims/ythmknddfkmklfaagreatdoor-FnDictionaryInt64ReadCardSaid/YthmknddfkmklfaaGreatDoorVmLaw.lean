/- The law's plain part: a dictionary's bytes give back its numbers; what is read is what is due. -/
import Derived.Test.YthmknddfkmklfaaGreatDoorFnZk
namespace Go.Proofs.YthmknddfkmklfaaGreatDoor.Vm
open Go Mix Go.RowKit Num
theorem pb_cons (x : VS) (ds : List VS) : pb (x :: ds) = Rl.leb 8 x.n ++ pb ds := rfl
theorem pb_getD : ∀ {ds : List VS} {j i : Nat}, j < ds.length → i < 8 → (pb ds).getD (8 * j + i) 0 = bts (ds.getD j default).n (8 * i) 8
  | [], j, _, hj, _ => absurd hj (Nat.not_lt_zero j)
  | x :: ds, 0, i, _, hi => by
    have h8 := Rl.leb_length 8 x.n
    rw [show 8 * 0 + i = i by omega, List.getD_eq_getElem?_getD, pb_cons, List.getElem?_append_left (by omega)]
    simp [Rl.leb, hi]
  | x :: ds, j + 1, i, hj, hi => by
    have h8 := Rl.leb_length 8 x.n
    have ih := pb_getD (ds := ds) (j := j) (i := i) (by simpa using hj) hi
    rw [List.getD_eq_getElem?_getD] at ih ⊢
    rw [pb_cons, List.getElem?_append_right (by omega), h8, show 8 * (j + 1) + i - 8 = 8 * j + i by omega, ih]
    rfl
theorem pb_byte (ds : List VS) (i : Nat) : (pb ds).getD i 0 < 256 := by
  rcases Nat.lt_or_ge i (pb ds).length with h | h
  · rw [pb_len] at h
    have := pb_getD (ds := ds) (j := i / 8) (i := i % 8) (by omega) (by omega)
    rw [show 8 * (i / 8) + i % 8 = i by omega] at this
    rw [this]
    exact bts_lt _ _ 8
  · simp [List.getElem?_eq_none h]
theorem n8_pb {ds : List VS} {j : Nat} (hj : j < ds.length) (h : (ds.getD j default).n < 18446744073709551616) : n8 (fun i => (pb ds).getD i 0) j = (ds.getD j default).n := by
  unfold n8
  rw [Rl.num_of (P := (ds.getD j default).n) 8 fun q hq => pb_getD hj hq]
  exact Nat.mod_eq_of_lt h
/-- what is read, as values -/
def gotV (ds : List VS) (E : List Nat) (z : Nat → Int) (m : Nat) : List VS := (tout (fun j => E.getD j 0) z m).map fun x => VS.num (n8 (fun i => (pb ds).getD i 0) x)
/-- what stands in the list that the numbers make -/
def allV (ds : List VS) (E : List Nat) : List VS := E.map fun k => ds.getD k default
/-- what is due of a list -/
def dueV (al : List VS) (z : Nat → Int) (m : Nat) : List VS := (tout (fun k => k) z m).map fun k => al.getD k default
theorem gotV_vC (ds : List VS) (E : List Nat) (z : Nat → Int) (m : Nat) : (tout (fun j => E.getD j 0) z m).map (fun x => vF (n8 (fun i => (pb ds).getD i 0) x)) = (gotV ds E z m).map vC := by
  unfold gotV
  rw [List.map_map]
  exact List.map_congr_left fun x _ => (vC_num _).symm
theorem allV_vC (ds : List VS) (E : List Nat) : E.map (fun k => vC (ds.getD k default)) = (allV ds E).map vC := by
  unfold allV
  rw [List.map_map]; rfl
theorem dueV_vC (al : List VS) (z : Nat → Int) (m : Nat) : (tout (fun k => k) z m).map (fun k => vC (al.getD k default)) = (dueV al z m).map vC := by
  unfold dueV
  rw [List.map_map]; rfl
theorem allV_len (ds : List VS) (E : List Nat) : (allV ds E).length = E.length := by simp [allV]
theorem got_due_len (ds : List VS) (E : List Nat) (z : Nat → Int) (m : Nat) : (gotV ds E z m).length = (dueV (allV ds E) z m).length := by
  unfold gotV dueV
  rw [tout_map, List.length_map, List.length_map, List.length_map]
theorem got_due {ds : List VS} {E : List Nat} {z : Nat → Int} {m j : Nat} (hok : ∀ j, j < ds.length → (ds.getD j default).OK) (hE : ∀ j, j < E.length → E.getD j 0 < ds.length) (ht : tpos z m ≤ E.length)
    (hp : ∀ j, j < ds.length → (ds.getD j default).b = false ∧ (ds.getD j default).k = 0 ∧ (ds.getD j default).s.toList = emp) (hj : j < (dueV (allV ds E) z m).length) :
    ((gotV ds E z m).getD j default).b = false ∧ ((dueV (allV ds E) z m).getD j default).b = false ∧ ((gotV ds E z m).getD j default).n = ((dueV (allV ds E) z m).getD j default).n ∧
      ((gotV ds E z m).getD j default).s.toList = ((dueV (allV ds E) z m).getD j default).s.toList ∧ ((gotV ds E z m).getD j default).k = 0 ∧ ((dueV (allV ds E) z m).getD j default).k = 0 := by
  have hl : j < (tout (fun k => k) z m).length := by simpa [dueV] using hj
  obtain ⟨k, hk⟩ : ∃ k, k = (tout (fun k => k) z m)[j] := ⟨_, rfl⟩
  have hkl : k < E.length := by
    have := tout_lt (z := z) (i := m) k (by rw [hk]; exact List.getElem_mem hl)
    omega
  have hx := hE k hkl
  have h1 : (gotV ds E z m).getD j default = VS.num (n8 (fun i => (pb ds).getD i 0) (E.getD k 0)) := by
    unfold gotV
    rw [tout_map]
    simp [hl, ← hk]
  have h2 : (dueV (allV ds E) z m).getD j default = ds.getD (E.getD k 0) default := by
    unfold dueV
    have : (allV ds E).getD k default = ds.getD (E.getD k 0) default := by simp [allV, hkl]
    rw [← this]
    simp [hl, ← hk]
  obtain ⟨p1, p2, p3⟩ := hp _ hx
  rw [h1, h2, n8_pb hx (hok _ hx).lt]
  exact ⟨rfl, p1, rfl, p3.symm, rfl, p2⟩
/-- the run that the law tries first -/
theorem enc_try : Rl.enc 1 [⟨false, 1, [0]⟩] = [2, 0] := by
  have h2 : Rl.vlq 2 = [2] := Rl.vlq_lt (by decide)
  have h3 : Rl.leb 1 0 = [0] := by
    unfold Rl.leb bts
    simp
  simp [Rl.enc, Rl.encR, h2, h3]
theorem exp_try : Rl.exp [⟨false, 1, [0]⟩] = [0] := rfl
theorem fit_try : ∀ r, r ∈ [(⟨false, 1, [0]⟩ : Rl.Run)] → Rl.Fit 1 r := by
  intro r hr
  obtain rfl : r = ⟨false, 1, [0]⟩ := by simpa using hr
  refine ⟨by decide, fun h => (by cases h), fun _ => ⟨by decide, rfl⟩, fun v hv => ?_⟩
  have : v = 0 := by simpa using hv
  subst this; decide
theorem enc_some {W : Nat} {l : List Rl.Run} (h : (Rl.exp l).length ≠ 0) : 1 ≤ (Rl.enc W l).length := by
  cases l with
  | nil => exact absurd rfl h
  | cons r l => exact Rl.enc_pos
theorem dat_byte {W : Nat} {l : List Rl.Run} (hW : W ≤ 20) (hf : ∀ r, r ∈ l → Rl.Fit W r) (i : Nat) : (W :: Rl.enc W l).getD i 0 < 256 := by
  rcases i with _ | i
  · show W < 256
    omega
  · show (Rl.enc W l).getD i 0 < 256
    rcases Nat.lt_or_ge i (Rl.enc W l).length with h | h
    · rw [List.getD_eq_getElem?_getD, List.getElem?_eq_getElem h]
      exact Rl.enc_byte hf _ (List.getElem_mem h)
    · simp [List.getElem?_eq_none h]
end Go.Proofs.YthmknddfkmklfaaGreatDoor.Vm
