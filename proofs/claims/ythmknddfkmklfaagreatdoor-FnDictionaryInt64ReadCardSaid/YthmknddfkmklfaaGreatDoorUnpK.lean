/- One region of an unpack function at a time: fields taken whole, taken at a word's top, taken over two words; a word read. -/
import Derived.Test.YthmknddfkmklfaaGreatDoorFnE
namespace Go.Proofs.YthmknddfkmklfaaGreatDoor.Vm
open Go Mix Go.RowKit Num
set_option maxRecDepth 20000
set_option linter.unusedSimpArgs false

theorem look_hit (l : Kn) (t : Nat) (v : Value) : look ((t, v) :: l) t = some v := by simp [look]
theorem look_miss {l : Kn} {d t : Nat} {v : Value} (h : d ≠ t) : look ((d, v) :: l) t = look l t := by
  have : Nat.beq d t = false := by
    rw [Bool.eq_false_iff]
    exact fun e => h (Nat.eq_of_beq_eq_true e)
  show (bif Nat.beq d t then some v else look l t) = look l t
  rw [this]
  rfl

structure UP where
  rb : RB
  db : Nat
  dO : Nat
  len : Nat
  cap : Nat
  g : Nat
  o : Nat
  t : Nat
  n : Nat
  dl : Nat
  dc : Nat
  d : Nat → Nat
  f : Nat → Value
def UP.E (p : UP) : Nat := num p.d p.len
/-- K fields of N bits lie in the target, of the next one c bits; the reader stands at Q; the word is W -/
structure US (p : UP) (N : Nat) (w0 : World) (b : Nat) (w : World) (K Q W c : Nat) : Prop where
  ne : p.g ≠ p.rb.blk ∧ p.g ≠ p.db ∧ p.rb.blk ≠ p.db ∧ b ≠ p.g ∧ b ≠ p.rb.blk ∧ b ≠ p.db
  fit : p.o + 32 ≤ p.n ∧ 32 ≤ p.dl ∧ p.dl ≤ p.dc ∧ p.len = 4 * N ∧ 6 ≤ w.heap.size ∧ w0.heap.size ≤ b
  hr : ∃ r, RD w p.rb p.db p.dO p.len p.cap (Q : Nat) r
  hd : Src2 w p.rb p.db p.dO p.len p.cap p.d
  row : ∃ F, Row w p.g p.t p.n F ∧ (∀ j, j < K → F (p.o + j) = .int .u32 (bts p.E (N * j) N : Nat)) ∧ (0 < c → F (p.o + K) = .int .u32 (bts p.E (N * K) c : Nat)) ∧ (∀ i, i < p.o ∨ p.o + 32 ≤ i → F i = p.f i)
  word : Row w b 109 1 (fun _ => .int .u32 (W : Nat))
  same : Same [p.g, p.rb.blk] w0 w
section
variable {p : UP} {N : Nat} {w0 w w' : World} {b K Q W c : Nat}
theorem US.set {c' : Nat} {v : Value} (h : US p N w0 b w K Q W c) (hw : w' = w.setCell ⟨p.g, p.o + K, none⟩ v) (hv : v = .int .u32 (bts p.E (N * K) c' : Nat)) (hK : K < 32) : US p N w0 b w' K Q W c' := by
  obtain ⟨h1, h2, ⟨r, hr⟩, hd, ⟨F, hF, hd1, hd2, hd3⟩, hx, hs⟩ := h
  have hS : Same [p.g] w w' := by rw [hw]; exact Same.setCell w ⟨p.g, p.o + K, none⟩ v
  subst hv
  refine ⟨h1, ⟨h2.1, h2.2.1, h2.2.2.1, h2.2.2.2.1, Nat.le_trans h2.2.2.2.2.1 hS.size, h2.2.2.2.2.2⟩, ⟨r, hr.same hS (by simp [Ne.symm h1.1])⟩, hd.same hS (by simp [Ne.symm h1.2.1]), ⟨_, hF.set' hw, ?_, ?_, ?_⟩, hx.same hS (by simp [h1.2.2.2.1]), hs.trans hS (by simp)⟩
  · intro j hj
    unfold upd
    rw [if_neg (by omega)]
    exact hd1 j hj
  · intro _
    unfold upd
    rw [if_pos rfl]
  · intro i hi
    unfold upd
    rw [if_neg (by omega)]
    exact hd3 i hi
theorem US.next (h : US p N w0 b w K Q W N) (hN : 0 < N) : US p N w0 b w (K + 1) Q W 0 := by
  obtain ⟨h1, h2, hr, hd, ⟨F, hF, hd1, hd2, hd3⟩, hx, hs⟩ := h
  refine ⟨h1, h2, hr, hd, ⟨F, hF, fun j hj => ?_, fun h0 => by omega, hd3⟩, hx, hs⟩
  rcases Nat.lt_succ_iff_lt_or_eq.1 hj with hj | rfl
  · exact hd1 j hj
  · exact hd2 hN
theorem US.drew (h : US p N w0 b w K Q W c) : US p N w0 b w.drew K Q W c := by
  obtain ⟨h1, h2, ⟨r, hr⟩, hd, ⟨F, hF, hrow⟩, hx, hs⟩ := h
  have hS := Same.drew w
  exact ⟨h1, h2, ⟨r, hr.same hS (by simp)⟩, hd.same hS (by simp), ⟨F, hF.same hS (by simp), hrow⟩, hx.same hS (by simp), hs.trans hS (by simp)⟩
theorem US.read (h : US p N w0 b w K Q W c) (hQ : Q + 4 ≤ 4 * N) :
    Ret Tryz.prog 119 #[.iface 120 (.pointer (some ⟨p.rb, p.rb.off, none⟩)), .pointer (some ⟨b, 0, none⟩)] w fun v w' => v = .tuple #[] ∧ US p N w0 b w' K (Q + 4) (bts p.E (8 * Q) 32) c := by
  obtain ⟨h1, h2, ⟨r, hr⟩, hd, ⟨F, hF, hrow⟩, hx, hs⟩ := h
  refine (readLittle p.rb p.db p.dO p.len p.cap b 0 _ 1 Q r p.d _ hr hd hx (by decide) (by omega) h1.2.2.2.2.1 h1.2.2.2.2.2 h1.2.2.1 h2.2.2.2.2.1).mono ?_
  rintro v w' ⟨rfl, hr, hx, hS⟩
  refine ⟨rfl, h1, ⟨h2.1, h2.2.1, h2.2.2.1, h2.2.2.2.1, Nat.le_trans h2.2.2.2.2.1 hS.size, h2.2.2.2.2.2⟩, ⟨_, hr⟩, hd.same hS (by simp [Ne.symm h1.2.2.2.2.2, Ne.symm h1.2.2.1]), ⟨F, hF.same hS (by simp [Ne.symm h1.2.2.2.1, h1.1]), hrow⟩, hx.congr (fun i hi => ?_), hs.trans hS (by simp [h2.2.2.2.2.2])⟩
  have : i = 0 := by omega
  subst this
  simp [upd, UP.E]
/-- what an unpack function is given -/
structure UIn (p : UP) (N : Nat) (w0 : World) : Prop where
  hr : ∃ r, RD w0 p.rb p.db p.dO p.len p.cap (0 : Nat) r
  hd : Src2 w0 p.rb p.db p.dO p.len p.cap p.d
  hb : Row w0 p.g p.t p.n p.f
  fit : p.o + 32 ≤ p.n ∧ 32 ≤ p.dl ∧ p.dl ≤ p.dc ∧ p.len = 4 * N ∧ 6 ≤ w0.heap.size
  ne : p.g ≠ p.rb.blk ∧ p.g ≠ p.db ∧ p.rb.blk ≠ p.db
theorem US.start (h : UIn p N w0) (hw : w' = w0.alloc (.cells #[.int .u32 0] 109)) : US p N w0 w0.heap.size w' 0 0 0 0 := by
  obtain ⟨⟨r, hr⟩, hd, hb, hf, h1⟩ := h
  have hS : Same [] w0 w' := by rw [hw]; exact Same.alloc _ _
  refine ⟨⟨h1.1, h1.2.1, h1.2.2, Nat.ne_of_gt hb.lt, Nat.ne_of_gt hr.lt, Nat.ne_of_gt hd.lt⟩, ⟨hf.1, hf.2.1, hf.2.2.1, hf.2.2.2.1, Nat.le_trans hf.2.2.2.2 hS.size, Nat.le_refl _⟩, ⟨r, hr.same hS (by simp)⟩, hd.same hS (by simp), ⟨p.f, hb.same hS (by simp), fun j hj => by omega, fun h => by omega, fun _ _ => rfl⟩, ?_, hS.more (by simp)⟩
  rw [hw]
  exact (Row.alloc w0 #[.int .u32 0] 109).congr fun i hi => by
    have : i = 0 := by simp at hi; omega
    subst this
    rfl
theorem zvU (w : World) : (zeroValue 109).run Tryz.prog w = .ok (.int .u32 0) w := by kernel_rfl
/-- what the function hands back, in the caller's words -/
def unpR (p : UP) (N : Nat) (w0 : World) (v : Value) (w' : World) : Prop := v = .tuple #[] ∧ ∃ F, Row w' p.g p.t p.n F ∧ (∀ j, j < 32 → F (p.o + j) = .int .u32 (bts p.E (N * j) N : Nat)) ∧ (∀ i, i < p.o ∨ p.o + 32 ≤ i → F i = p.f i) ∧ Same [p.g, p.rb.blk] w0 w'
theorem US.done (h : US p N w0 b w 32 Q W 0) : unpR p N w0 (.tuple #[]) w := by
  obtain ⟨h1, h2, hr, hd, ⟨F, hF, hd1, hd2, hd3⟩, hx, hs⟩ := h
  exact ⟨rfl, F, hF, hd1, hd3, hs⟩
def L3 (p : UP) (b : Nat) : Kn := [(0, .iface 120 (.pointer (some ⟨p.rb, p.rb.off, none⟩))), (1, .slice (some ⟨p.g, p.o, none⟩) p.dl p.dc), (4, .pointer (some ⟨b, 0, none⟩))]
theorem u_shr {B P s : Nat} (h : s ≤ 32) : bts B P 32 / 2 ^ s = bts B (P + s) (32 - s) := by
  unfold bts
  rw [show (32 : Nat) = s + (32 - s) by omega, mod_div, bts, Nat.div_div_eq_div_mul, ← Nat.pow_add, show s + (32 - s) - s = 32 - s by omega]
theorem u_mid {B P s N : Nat} (h : s + N ≤ 32) : bts B P 32 / 2 ^ s % 2 ^ N = bts B (P + s) N := by
  rw [u_shr (by omega), bts_mod (by omega)]
theorem i_shr (a D : Nat) : (a : Int) / ((D : Nat) : Int) = ((a / D : Nat) : Int) := rfl
theorem i_rem (a D : Nat) : (a : Int) % ((D : Nat) : Int) = ((a % D : Nat) : Int) := rfl
theorem shr32 {a : Nat} {S : Int} {s : Nat} (hS : S = (s : Nat)) (hs : s ≤ 32) : (a : Int).fdiv (2 ^ min S.toNat IntKind.u32.bits) = ((a / 2 ^ s : Nat) : Int) := by
  subst hS
  have : min ((s : Nat) : Int).toNat IntKind.u32.bits = s := by simp [IntKind.bits]; omega
  rw [this, Int.fdiv_eq_ediv_of_nonneg _ (by exact Int.le_of_lt (Int.pow_pos (by decide)))]
  simp
end
section
variable {p : UP} {N : Nat} {w0 w w' : World} {b K Q P c n : Nat} {B : Exit → Act → World → Prop} {ks : List KI} {ds : List Deferred} {id a y0 y1 y2 y3 y4 y5 y6 y7 y8 : Nat} {p0 p1 p2 p3 p4 p5 p6 p7 p8 : String} {a0 a1 a2 a3 a4 a5 a6 a7 a8 : Array Edge} {S M I : Int} {tS tM : Nat} {kS : IntKind}
theorem L3_sub {l : Kn} (h0 : look l 0 = some (.iface 120 (.pointer (some ⟨p.rb, p.rb.off, none⟩)))) (h1 : look l 1 = some (.slice (some ⟨p.g, p.o, none⟩) p.dl p.dc)) (h4 : look l 4 = some (.pointer (some ⟨b, 0, none⟩))) : subK l (L3 p b) := ⟨h0, h1, h4, trivial⟩
theorem unpA (s : Nat) (h : US p N w0 b w K Q (bts p.E P 32) c) (hS : S = (s : Nat)) (hM : M = ((2 ^ N : Nat) : Int)) (hI : I = (K : Nat)) (hs : s + N ≤ 32) (hP : P + s = N * K) (hK : K < 32) (hN : 0 < N) (ha : Nat.blt 4 a = true) (hn : Nat.blt (a + 4) n = true)
    (hk : ∀ w', US p N w0 b w' (K + 1) Q (bts p.E P 32) 0 → WN ⟨Tryz.prog, n, B⟩ ks ds (L3 p b) w') :
    WC ⟨Tryz.prog, n, B⟩ (.region id #[⟨some a, .move (.tmp 1), y0, p0, a0, none⟩, ⟨some (a + 1), .load 109 (.tmp 4), y1, p1, a1, none⟩,
      ⟨some (a + 2), .binOp .shr 109 (.tmp (a + 1)) (.const (.int kS S)) tS, y2, p2, a2, none⟩, ⟨some (a + 3), .binOp .rem 109 (.tmp (a + 2)) (.const (.int .u32 M)) tM, y3, p3, a3, none⟩,
      ⟨some (a + 4), .indexAddr 156 (.tmp a) (.const (.int .i64 I)), y4, p4, a4, none⟩, ⟨none, .store 109 (.tmp (a + 4)) (.tmp (a + 3)), y5, p5, a5, none⟩] false) ks ds (L3 p b) w := by
  have ha' : 4 < a := by simpa using ha
  have hn' : a + 4 < n := by simpa using hn
  obtain ⟨F, hF, -⟩ := h.row
  refine WC.region ?_
  refine WR.move (x := .tmp 1) rfl (by simp; omega) ?_
  refine WR.load (v := .int .u32 (bts p.E P 32 : Nat)) (p := ⟨b, 0, none⟩) (by simp only [ev]; rw [look_miss (by omega)]; rfl) Tryz.underlying109 rfl (h.word.cell (i := 0) (by decide)) (by simp; omega) ?_
  refine WR.shr (k := .u32) (a := (bts p.E P 32 : Nat)) (z := ((bts p.E P 32 / 2 ^ s : Nat) : Int)) (by simp only [ev]; exact look_hit _ _ _) rfl (by omega) (shr32 hS (by omega)) (by simp; omega) ?_
  refine WR.bin (by simp only [ev]; exact look_hit _ _ _) rfl (ar_rem (z := ((bts p.E (N * K) N : Nat) : Int)) (by rw [hM]; exact Int.ne_of_gt (by exact_mod_cast Nat.pow_pos (by decide))) ?_) (by simp; omega) ?_
  · rw [tmod_pos (Int.natCast_nonneg _), hM, i_rem, u_mid hs, hP]
  refine WR.idx (j := I) (by simp only [ev]; rw [look_miss (by omega), look_miss (by omega), look_miss (by omega)]; exact look_hit _ _ _) rfl Tryz.underlying156 sz109 (by omega) (by have := h.fit; omega) (by simp; omega) ?_
  have hj : p.o + I.toNat * 1 = p.o + K := by rw [hI]; simp
  rw [hj]
  refine WR.storeK (by simp only [ev]; exact look_hit _ _ _) (by simp only [ev]; rw [look_miss (by omega)]; exact look_hit _ _ _) rfl sz109 (hF.cell (by have := h.fit; omega)) (hF.fz _) ?_
  intro w' hw _
  refine WR.nil ?_
  refine WN.weak (L3 p b) (L3_sub ?_ ?_ ?_) (hk w' (US.next (h.set hw rfl hK) hN)) <;> (repeat rw [look_miss (by omega)]) <;> rfl
theorem unpE (s c' : Nat) (h : US p N w0 b w K Q (bts p.E P 32) c) (hS : S = (s : Nat)) (hM : M = ((2 ^ N : Nat) : Int)) (hI : I = (K : Nat)) (hs : s ≤ 32) (hc : c' = 32 - s) (hcN : c' ≤ N) (hP : P + s = N * K) (hK : K < 32) (ha : Nat.blt 4 a = true) (hn : Nat.blt (a + 4) n = true)
    (hk : ∀ w', US p N w0 b w' K Q (bts p.E P 32) c' → WN ⟨Tryz.prog, n, B⟩ ks ds (L3 p b) w') :
    WC ⟨Tryz.prog, n, B⟩ (.region id #[⟨some a, .move (.tmp 1), y0, p0, a0, none⟩, ⟨some (a + 1), .load 109 (.tmp 4), y1, p1, a1, none⟩,
      ⟨some (a + 2), .binOp .shr 109 (.tmp (a + 1)) (.const (.int kS S)) tS, y2, p2, a2, none⟩, ⟨some (a + 3), .binOp .rem 109 (.tmp (a + 2)) (.const (.int .u32 M)) tM, y3, p3, a3, none⟩,
      ⟨some (a + 4), .indexAddr 156 (.tmp a) (.const (.int .i64 I)), y4, p4, a4, none⟩, ⟨none, .store 109 (.tmp (a + 4)) (.tmp (a + 3)), y5, p5, a5, none⟩] false) ks ds (L3 p b) w := by
  have ha' : 4 < a := by simpa using ha
  have hn' : a + 4 < n := by simpa using hn
  obtain ⟨F, hF, -⟩ := h.row
  refine WC.region ?_
  refine WR.move (x := .tmp 1) rfl (by simp; omega) ?_
  refine WR.load (v := .int .u32 (bts p.E P 32 : Nat)) (p := ⟨b, 0, none⟩) (by simp only [ev]; rw [look_miss (by omega)]; rfl) Tryz.underlying109 rfl (h.word.cell (i := 0) (by decide)) (by simp; omega) ?_
  refine WR.shr (k := .u32) (a := (bts p.E P 32 : Nat)) (z := ((bts p.E P 32 / 2 ^ s : Nat) : Int)) (by simp only [ev]; exact look_hit _ _ _) rfl (by omega) (shr32 hS (by omega)) (by simp; omega) ?_
  refine WR.bin (by simp only [ev]; exact look_hit _ _ _) rfl (ar_rem (z := ((bts p.E (N * K) c' : Nat) : Int)) (by rw [hM]; exact Int.ne_of_gt (by exact_mod_cast Nat.pow_pos (by decide))) ?_) (by simp; omega) ?_
  · rw [tmod_pos (Int.natCast_nonneg _), hM, i_rem, u_shr hs, hP, ← hc, Nat.mod_eq_of_lt (Nat.lt_of_lt_of_le (bts_lt _ _ _) (Nat.pow_le_pow_right (by decide) hcN))]
  refine WR.idx (j := I) (by simp only [ev]; rw [look_miss (by omega), look_miss (by omega), look_miss (by omega)]; exact look_hit _ _ _) rfl Tryz.underlying156 sz109 (by omega) (by have := h.fit; omega) (by simp; omega) ?_
  have hj : p.o + I.toNat * 1 = p.o + K := by rw [hI]; simp
  rw [hj]
  refine WR.storeK (by simp only [ev]; exact look_hit _ _ _) (by simp only [ev]; rw [look_miss (by omega)]; exact look_hit _ _ _) rfl sz109 (hF.cell (by have := h.fit; omega)) (hF.fz _) ?_
  intro w' hw _
  refine WR.nil ?_
  refine WN.weak (L3 p b) (L3_sub ?_ ?_ ?_) (hk w' (h.set hw rfl hK)) <;> (repeat rw [look_miss (by omega)]) <;> rfl
theorem unpB (s c' : Nat) (h : US p N w0 b w K Q (bts p.E P 32) c) (hS : S = (s : Nat)) (hI : I = (K : Nat)) (hs : s ≤ 32) (hc : c' = 32 - s) (hP : P + s = N * K) (hK : K < 32) (ha : Nat.blt 4 a = true) (hn : Nat.blt (a + 3) n = true)
    (hk : ∀ w', US p N w0 b w' K Q (bts p.E P 32) c' → WN ⟨Tryz.prog, n, B⟩ ks ds (L3 p b) w') :
    WC ⟨Tryz.prog, n, B⟩ (.region id #[⟨some a, .move (.tmp 1), y0, p0, a0, none⟩, ⟨some (a + 1), .load 109 (.tmp 4), y1, p1, a1, none⟩,
      ⟨some (a + 2), .binOp .shr 109 (.tmp (a + 1)) (.const (.int kS S)) tS, y2, p2, a2, none⟩,
      ⟨some (a + 3), .indexAddr 156 (.tmp a) (.const (.int .i64 I)), y4, p4, a4, none⟩, ⟨none, .store 109 (.tmp (a + 3)) (.tmp (a + 2)), y5, p5, a5, none⟩] false) ks ds (L3 p b) w := by
  have ha' : 4 < a := by simpa using ha
  have hn' : a + 3 < n := by simpa using hn
  obtain ⟨F, hF, -⟩ := h.row
  refine WC.region ?_
  refine WR.move (x := .tmp 1) rfl (by simp; omega) ?_
  refine WR.load (v := .int .u32 (bts p.E P 32 : Nat)) (p := ⟨b, 0, none⟩) (by simp only [ev]; rw [look_miss (by omega)]; rfl) Tryz.underlying109 rfl (h.word.cell (i := 0) (by decide)) (by simp; omega) ?_
  refine WR.shr (k := .u32) (a := (bts p.E P 32 : Nat)) (z := ((bts p.E (N * K) c' : Nat) : Int)) (by simp only [ev]; exact look_hit _ _ _) rfl (by omega) ?_ (by simp; omega) ?_
  · rw [shr32 hS (by omega), u_shr hs, hP, hc]
  refine WR.idx (j := I) (by simp only [ev]; rw [look_miss (by omega), look_miss (by omega)]; exact look_hit _ _ _) rfl Tryz.underlying156 sz109 (by omega) (by have := h.fit; omega) (by simp; omega) ?_
  have hj : p.o + I.toNat * 1 = p.o + K := by rw [hI]; simp
  rw [hj]
  refine WR.storeK (by simp only [ev]; exact look_hit _ _ _) (by simp only [ev]; rw [look_miss (by omega)]; exact look_hit _ _ _) rfl sz109 (hF.cell (by have := h.fit; omega)) (hF.fz _) ?_
  intro w' hw _
  refine WR.nil ?_
  refine WN.weak (L3 p b) (L3_sub ?_ ?_ ?_) (hk w' (h.set hw rfl hK)) <;> (repeat rw [look_miss (by omega)]) <;> rfl
theorem unpC (m : Nat) (hm : mixB [] #[⟨some a, .move (.tmp 1), y0, p0, a0, none⟩, ⟨some (a + 1), .indexAddr 156 (.tmp a) (.const (.int .i64 I)), y1, p1, a1, none⟩, ⟨some (a + 2), .load 109 (.tmp (a + 1)), y2, p2, a2, none⟩,
      ⟨some (a + 3), .load 109 (.tmp 4), y3, p3, a3, none⟩, ⟨some (a + 4), .binOp .rem 109 (.tmp (a + 3)) (.const (.int .u32 M)) tM, y4, p4, a4, none⟩, ⟨some (a + 5), .binOp .shl 109 (.tmp (a + 4)) (.const (.int kS S)) tS, y5, p5, a5, none⟩,
      ⟨some (a + 6), .binOp .or 109 (.tmp (a + 2)) (.tmp (a + 5)) 109, y6, p6, a6, none⟩, ⟨some (a + 7), .indexAddr 156 (.tmp a) (.const (.int .i64 I)), y7, p7, a7, none⟩, ⟨none, .store 109 (.tmp (a + 7)) (.tmp (a + 6)), y8, p8, a8, none⟩] = true)
    (h : US p N w0 b w K Q (bts p.E P 32) c) (hS : S = (c : Nat)) (hM : M = ((2 ^ m : Nat) : Int)) (hI : I = (K : Nat)) (hc : c + m = N) (hN : N ≤ 32) (h0 : 0 < c) (hP : N * K + c = P) (hK : K < 32) (ha : Nat.blt 4 a = true) (hn : Nat.blt (a + 7) n = true)
    (hk : ∀ w', US p N w0 b w' (K + 1) Q (bts p.E P 32) 0 → WN ⟨Tryz.prog, n, B⟩ ks ds (L3 p b) w') :
    WC ⟨Tryz.prog, n, B⟩ (.region id #[⟨some a, .move (.tmp 1), y0, p0, a0, none⟩, ⟨some (a + 1), .indexAddr 156 (.tmp a) (.const (.int .i64 I)), y1, p1, a1, none⟩, ⟨some (a + 2), .load 109 (.tmp (a + 1)), y2, p2, a2, none⟩,
      ⟨some (a + 3), .load 109 (.tmp 4), y3, p3, a3, none⟩, ⟨some (a + 4), .binOp .rem 109 (.tmp (a + 3)) (.const (.int .u32 M)) tM, y4, p4, a4, none⟩, ⟨some (a + 5), .binOp .shl 109 (.tmp (a + 4)) (.const (.int kS S)) tS, y5, p5, a5, none⟩,
      ⟨some (a + 6), .binOp .or 109 (.tmp (a + 2)) (.tmp (a + 5)) 109, y6, p6, a6, none⟩, ⟨some (a + 7), .indexAddr 156 (.tmp a) (.const (.int .i64 I)), y7, p7, a7, none⟩, ⟨none, .store 109 (.tmp (a + 7)) (.tmp (a + 6)), y8, p8, a8, none⟩] true) ks ds (L3 p b) w := by
  have ha' : 4 < a := by simpa using ha
  have hn' : a + 7 < n := by simpa using hn
  refine WC.mix [] mixed hm ?_
  replace h := h.drew
  obtain ⟨F, hF, -, hc2, -⟩ := h.row
  have hj : p.o + I.toNat * 1 = p.o + K := by rw [hI]; simp
  refine WR.move (x := .tmp 1) rfl (by simp; omega) ?_
  refine WR.idx (j := I) (by simp only [ev]; exact look_hit _ _ _) rfl Tryz.underlying156 sz109 (by omega) (by have := h.fit; omega) (by simp; omega) ?_
  rw [hj]
  refine WR.load (v := .int .u32 (bts p.E (N * K) c : Nat)) (by simp only [ev]; exact look_hit _ _ _) Tryz.underlying109 rfl (by rw [hF.cell (by have := h.fit; omega), hc2 h0]) (by simp; omega) ?_
  refine WR.load (v := .int .u32 (bts p.E P 32 : Nat)) (p := ⟨b, 0, none⟩) (by simp only [ev]; (repeat rw [look_miss (by omega)]); rfl) Tryz.underlying109 rfl (h.word.cell (i := 0) (by decide)) (by simp; omega) ?_
  refine WR.bin (by simp only [ev]; exact look_hit _ _ _) rfl (ar_rem (z := ((bts p.E P m : Nat) : Int)) (by rw [hM]; exact Int.ne_of_gt (by exact_mod_cast Nat.pow_pos (by decide))) ?_) (by simp; omega) ?_
  · rw [tmod_pos (Int.natCast_nonneg _), hM, i_rem, bts_mod (by omega)]
  have hlt : bts p.E (N * K) c + bts p.E P m * 2 ^ c < 2 ^ 32 := by
    rw [← hP, ← bts_add, hc]
    exact Nat.lt_of_lt_of_le (bts_lt _ _ _) (Nat.pow_le_pow_right (by decide) hN)
  refine WR.shl (k := .u32) (a := (bts p.E P m : Nat)) (z := ((bts p.E P m : Nat) : Int) * ((2 ^ c : Nat) : Int)) (by simp only [ev]; exact look_hit _ _ _) rfl (by omega) ?_ (by simp; omega) ?_
  · have : min S.toNat IntKind.u32.bits = c := by rw [hS]; simp [IntKind.bits]; omega
    rw [this, show (2 : Int) ^ c = ((2 ^ c : Nat) : Int) by simp, ← Int.natCast_mul]
    exact wrap_u32 (by omega) (by omega)
  refine WR.bin (v := .int .u32 (bts p.E (N * K) N : Nat)) (by simp only [ev]; rw [look_miss (by omega), look_miss (by omega), look_miss (by omega)]; exact look_hit _ _ _) (by simp only [ev]; exact look_hit _ _ _) ?_ (by simp; omega) ?_
  · rw [ar_or32 c rfl (by omega) (by have := bts_lt p.E (N * K) c; omega) (by omega) (by rw [← Int.natCast_mul, ← Int.natCast_add]; omega), ← Int.natCast_mul, ← Int.natCast_add, ← hP, ← bts_add, hc]
  refine WR.idx (j := I) (by simp only [ev]; (repeat rw [look_miss (by omega)]); exact look_hit _ _ _) rfl Tryz.underlying156 sz109 (by omega) (by have := h.fit; omega) (by simp; omega) ?_
  rw [hj]
  refine WR.storeK (by simp only [ev]; exact look_hit _ _ _) (by simp only [ev]; rw [look_miss (by omega)]; exact look_hit _ _ _) rfl sz109 (hF.cell (by have := h.fit; omega)) (hF.fz _) ?_
  intro w' hw _
  refine WR.nil ?_
  refine WN.weak (L3 p b) (L3_sub ?_ ?_ ?_) (hk w' (US.next (h.set hw rfl hK) (by omega))) <;> (repeat rw [look_miss (by omega)]) <;> rfl
theorem unpD {W : Nat} (P' Q' : Nat) (h : US p N w0 b w K Q W c) (hQ : Q + 4 ≤ 4 * N) (hP : P' = 8 * Q) (hQ' : Q' = Q + 4) (ha : Nat.blt 4 a = true) (hn : Nat.blt (a + 1) n = true)
    (hk : ∀ w', US p N w0 b w' K Q' (bts p.E P' 32) c → WN ⟨Tryz.prog, n, B⟩ ks ds (L3 p b) w') :
    WC ⟨Tryz.prog, n, B⟩ (.region id #[⟨some a, .move (.tmp 0), y0, p0, a0, none⟩, ⟨some (a + 1), .call ⟨.value (.func 119), #[.tmp a, .tmp 4], #[tS, tM]⟩, y1, p1, a1, none⟩] false) ks ds (L3 p b) w := by
  have ha' : 4 < a := by simpa using ha
  have hn' : a + 1 < n := by simpa using hn
  subst hP hQ'
  refine WC.region ?_
  refine WR.move (x := .tmp 0) rfl (by simp; omega) ?_
  refine WR.callF (rfl : (#[.tmp a, .tmp 4] : Array Operand) = [Operand.tmp a, .tmp 4].toArray) ?_ cf119 rfl hn (h.read hQ) ?_
  · simp only [evs, ev]
    rw [look_hit, look_miss (by omega)]
    rfl
  rintro _ w' ⟨rfl, h'⟩
  refine WR.nil ?_
  refine WN.weak (L3 p b) (L3_sub ?_ ?_ ?_) (hk w' h') <;> (repeat rw [look_miss (by omega)]) <;> rfl
end
end Go.Proofs.YthmknddfkmklfaaGreatDoor.Vm
