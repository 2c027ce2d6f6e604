/- An append whose new block is told: the old one, or a fresh one. -/
import Derived.Test.YthmknddfkmklfaaGreatDoorVmCall
namespace Go.Proofs.YthmknddfkmklfaaGreatDoor.Vm
open Go Mix Go.RowKit
theorem own_fresh {P : Program} (w : World) (base t ty e : Nat) (i : TypeInfo) (z : Value) (bytes : Nat) (ht : P.underlying t = some (.slice e)) (hi : P.info? e = some i) (hz : i.zero = some z)
    (hsize : i.size = 1) (hby : i.bytes = bytes) (hzs : z.cells.size = 1)
    (v : Value) (n : Nat) (xs : List Value) (hown : w.ownsRow base e 1 v n xs)
    (a : Addr) (m c : Nat) (news : List Value) (hl : news.length = m * 1) (hnews : ∀ j u, news[j]? = some u → w.cell? (a.add j) = some u) (h1 : ∀ u ∈ news, u.oneCell' = true)
    (h63 : n + m ≤ maxLen) (hbytes : (n + m) * bytes ≤ 140737488355328) (hbase : base ≤ w.heap.size) :
    ∃ v' w', (Builtin.append_ #[t, t] ty #[v, .slice (some a) m c]).run P w = .ok v' w' ∧ w'.ownsRow base e 1 v' (n + m) (xs ++ news) ∧ w.grownBy w' v.ownBlock ∧
      ∀ g', v'.ownBlock = some g' → v.ownBlock = some g' ∨ w.heap.size ≤ g' := by
  obtain ⟨v', w', hrun, ho, hg, _⟩ := run_append_own (P := P) w base t ty e i z 1 bytes ht hi hz hsize hby hzs (by decide) v n xs hown a m c news hl hnews h1 h63 hbytes hbase
  refine ⟨v', w', hrun, ho, hg, fun g' hg' => ?_⟩
  rcases hown.2 with ⟨rfl, rfl⟩ | ⟨g, cap, cur, rfl, hbg, hgc, hnc, hcm, hcs, htake⟩
  · have hx : xs = [] := List.eq_nil_of_length_eq_zero (by simpa using hown.1)
    subst hx
    obtain ⟨v2, w2, hrun2, ho2, _, _⟩ := run_append_own (P := P) w w.heap.size t ty e i z 1 bytes ht hi hz hsize hby hzs (by decide) (.slice none 0 0) 0 [] (World.ownsRow_nil w _ e 1) a m c news hl hnews h1 h63 hbytes (Nat.le_refl _)
    rw [hrun] at hrun2
    obtain ⟨rfl, rfl⟩ : v' = v2 ∧ w' = w2 := by injection hrun2 with h1 h2; exact ⟨h1, h2⟩
    exact .inr (World.ownsRow.lt ho2 g' hg').1
  · by_cases hroom : n + m ≤ cap
    · obtain ⟨w2, hrun2, _, _⟩ := run_append_fits (P := P) w base t ty e i 1 ht hi hsize g n cap xs hown a m c news hl hnews h1 hroom
      rw [hrun] at hrun2
      obtain ⟨rfl, rfl⟩ : v' = .slice (some ⟨g, 0, none⟩) (n + m) cap ∧ w' = w2 := by injection hrun2 with h1 h2; exact ⟨h1, h2⟩
      exact .inl hg'
    · have holds : ∀ j u, xs[j]? = some u → w.cell? ((⟨g, 0, none⟩ : Addr).add j) = some u := hown.cells (g := g) rfl
      have hsmall : n + m ≤ 9223372036854775807 := by simp only [maxLen] at h63; omega
      have hrun2 := run_append_grow (P := P) w t ty e i z ht hi hz ⟨g, 0, none⟩ n cap xs (by rw [hsize]; exact hown.1) holds a m c news (by rw [hsize]; exact hl) hnews (by omega) (by omega) (growslice_fits (by omega) (by rw [hby]; exact hbytes))
      rw [hrun] at hrun2
      injection hrun2 with h1 h2
      subst h1
      simp only [Value.ownBlock, Option.some.injEq] at hg'
      exact .inr (Nat.le_of_eq hg')
section
variable {X : Cx} {m : Option (List Nat)} {ops : Array Oper} {rest : List Oper} {ks : List KI} {ds : List Deferred} {l : Kn} {w : World} {d ty : Nat} {pos : String} {aft : Array Edge} {v : Value}
theorem WR.appendF {t E by' : Nat} {x y : Operand} {base base2 : Nat} {xs ys : List Value} {u z : Value} (hx : ev l x = some v) (hown : Own w base E v xs) (hy : ev l y = some u) (hls : Ls w base2 u ys) (h1 : ∀ i, i < ys.length → (ys.getD i undef).oneCell' = true)
    (hu : X.P.underlying t = some (.slice E)) (hi : (X.P.info? E).map (fun i => (i.size, i.bytes, i.zero)) = some (1, by', some z)) (hz : z.cells = #[z]) (hby : by' ≤ 16) (hn : xs.length + ys.length ≤ 1099511627776) (hbase : base ≤ w.heap.size)
    (hc : eventOK m (.call ⟨.builtin .append, #[x, y], #[t, t]⟩) ty = true) (hd : Nat.blt d X.n = true)
    (kk : ∀ v' w', Own w' base E v' (xs ++ ys) → Same v.ownBlock.toList w w' → (∀ g', v'.ownBlock = some g' → v.ownBlock = some g' ∨ w.heap.size ≤ g') → WR X m ops rest ks ds ((d, v') :: l) w') :
    WR X m ops (⟨some d, .call ⟨.builtin .append, #[x, y], #[t, t]⟩, ty, pos, aft, none⟩ :: rest) ks ds l w := by
  rcases hls with ⟨rfl, rfl⟩ | ⟨g, o, c, rfl, _, hlt, hrd⟩
  · cases hi' : X.P.info? E with
    | none => rw [hi'] at hi; cases hi
    | some i =>
      have hk := kk v w (by rw [List.append_nil]; exact hown) (Same.refl _ w) (fun g' h => .inl h)
      refine WR.event hd hc (w' := w) (fun a ha => ?_) hk
      have hr := run_append_owned_none (P := X.P) w base t ty E i 1 hu hi' v xs.length xs hown
      simp only [execOp, resolve, Sem.run_bind, Sem.run_pure, Result.andThen_ok, Go.invoke, builtin, List.map_toArray, List.map_cons, List.map_nil, ha.ev hx, ha.ev hy, hr]
  · cases hi' : X.P.info? E with
    | none => rw [hi'] at hi; cases hi
    | some i =>
      rw [hi'] at hi
      simp only [Option.map_some, Option.some.injEq, Prod.mk.injEq] at hi
      obtain ⟨hs, hb, hz'⟩ := hi
      have hnb : (xs.length + ys.length) * by' ≤ 1099511627776 * 16 := Nat.mul_le_mul hn hby
      obtain ⟨v', w', hrun, ho, hg, hfr⟩ := own_fresh (P := X.P) w base t ty E i z by' hu hi' hz' hs hb (by rw [hz]; rfl) v xs.length xs hown ⟨g, o, none⟩ ys.length c ys (by simp)
        (fun j u hj => by
          have hj2 : j < ys.length := (List.getElem?_eq_some_iff.1 hj).1
          rw [Addr.add_lit, hrd j hj2]
          simp only [List.getD_eq_getElem?_getD, hj, Option.getD_some])
        (fun u hu' => by
          obtain ⟨j, hj, rfl⟩ := List.getElem_of_mem hu'
          have := h1 j hj
          simpa [hj] using this)
        (by simp only [maxLen]; omega) (by omega) hbase
      refine WR.event hd hc (w' := w') (fun a ha => ?_) (kk v' w' ?_ ⟨hg.size, fun q hq hqS => hg.block q hq fun e => hqS (by rw [← e]; simp), hg.os, hg.output, hg.tape⟩ hfr)
      · simp only [execOp, resolve, Sem.run_bind, Sem.run_pure, Result.andThen_ok, Go.invoke, builtin, List.map_toArray, List.map_cons, List.map_nil, ha.ev hx, ha.ev hy, hrun]
      · unfold Own
        rw [List.length_append]
        exact ho
end
end Go.Proofs.YthmknddfkmklfaaGreatDoor.Vm
