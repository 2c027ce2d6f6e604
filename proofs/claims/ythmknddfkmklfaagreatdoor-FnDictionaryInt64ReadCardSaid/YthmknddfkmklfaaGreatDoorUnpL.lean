/- What the unpack functions with loops need besides. -/
import Derived.Test.YthmknddfkmklfaaGreatDoorUnpK
namespace Go.Proofs.YthmknddfkmklfaaGreatDoor.Vm
open Go Mix Go.RowKit Num
set_option maxRecDepth 20000
set_option linter.unusedSimpArgs false
theorem WR.idxK {X : Cx} {m : Option (List Nat)} {ops : Array Oper} {rest : List Oper} {ks : List KI} {ds : List Deferred} {l : Kn} {w : World} {d ty : Nat} {pos : String} {aft : Array Edge} {T E : Nat} {x i : Operand} {b o len cap : Nat} {k : IntKind} {j : Int} (K : Nat)
    (hx : ev l x = some (.slice (some ⟨b, o, none⟩) len cap)) (hi : ev l i = some (.int k j)) (hu : X.P.underlying T = some (.slice E)) (hs : (X.P.info? E).map (·.size) = some 1) (hj : j = (K : Nat)) (hlt : K < len) (hd : Nat.blt d X.n = true)
    (kk : WR X m ops rest ks ds ((d, .pointer (some ⟨b, o + K, none⟩)) :: l) w) : WR X m ops (⟨some d, .indexAddr T x i, ty, pos, aft, none⟩ :: rest) ks ds l w := by
  subst hj
  refine WR.idx hx hi hu hs (by omega) (by omega) hd ?_
  simpa using kk
section
variable {B P N K s m c : Nat} {M S : Int}
theorem u_val (hM : M = ((2 ^ N : Nat) : Int)) (hs : s + N ≤ 32) (hP : P + s = N * K) : ((bts B P 32 / 2 ^ s : Nat) : Int).tmod M = ((bts B (N * K) N : Nat) : Int) := by
  rw [tmod_pos (Int.natCast_nonneg _), hM, i_rem, u_mid hs, hP]
theorem u_top (hS : S = (s : Nat)) (hs : s + c = 32) (hP : P + s = N * K) : ((bts B P 32 : Nat) : Int).fdiv (2 ^ min S.toNat IntKind.u32.bits) = ((bts B (N * K) c : Nat) : Int) := by
  rw [shr32 hS (by omega), u_shr (by omega), hP, show 32 - s = c by omega]
theorem u_rem (hM : M = ((2 ^ m : Nat) : Int)) (hm : m ≤ 32) : ((bts B P 32 : Nat) : Int).tmod M = ((bts B P m : Nat) : Int) := by
  rw [tmod_pos (Int.natCast_nonneg _), hM, i_rem, bts_mod hm]
theorem u_lt (hc : c + m ≤ 32) : bts B K c + bts B (K + c) m * 2 ^ c < 4294967296 := by
  rw [← bts_add]
  exact Nat.lt_of_lt_of_le (bts_lt _ _ _) (Nat.pow_le_pow_right (by decide) hc)
theorem u_shl (hS : S = (c : Nat)) (hc : c + m ≤ 32) : IntKind.u32.wrap (((bts B P m : Nat) : Int) * 2 ^ min S.toNat IntKind.u32.bits) = ((bts B P m : Nat) : Int) * ((2 ^ c : Nat) : Int) := by
  have : min S.toNat IntKind.u32.bits = c := by rw [hS]; simp [IntKind.bits]; omega
  rw [this, show (2 : Int) ^ c = ((2 ^ c : Nat) : Int) by simp, ← Int.natCast_mul]
  have h1 := bts_lt B P m
  have h2 : bts B P m * 2 ^ c < 2 ^ m * 2 ^ c := Nat.mul_lt_mul_of_pos_right h1 (Nat.pow_pos (by decide))
  rw [← Nat.pow_add] at h2
  have h3 : 2 ^ (m + c) ≤ 2 ^ 32 := Nat.pow_le_pow_right (by decide) (by omega)
  exact wrap_u32 (by omega) (by omega)
theorem u_or {q : Nat} (hP : q + c = P) (hm : c + m = N) (hN : N ≤ 32) : arith .or .u32 ((bts B q c : Nat) : Int) (((bts B P m : Nat) : Int) * ((2 ^ c : Nat) : Int)) = some (.int .u32 ((bts B q N : Nat) : Int)) := by
  subst hP hm
  have h1 := u_lt (B := B) (K := q) hN
  rw [ar_or32 c rfl (by omega) (by have := bts_lt B q c; omega) (by omega) (by rw [← Int.natCast_mul, ← Int.natCast_add]; omega), ← Int.natCast_mul, ← Int.natCast_add, ← bts_add]
theorem u_and1 {a : Nat} (h : a < 4294967296) : arith .and .u32 (a : Int) 1 = some (.int .u32 ((a % 2 : Nat) : Int)) := by
  have e : (BitVec.ofInt IntKind.u32.bits (a : Int) &&& BitVec.ofInt IntKind.u32.bits 1).toNat = a % 2 := by
    rw [BitVec.toNat_and, ofInt_toNat (by omega) (by show _ < (2 : Int) ^ 32; omega), ofInt_toNat (by omega) (by show _ < (2 : Int) ^ 32; omega), Int.toNat_natCast]
    exact Nat.and_one_is_mod a
  unfold arith
  simp only [e]
  congr 2
  exact wrap_u32 (by omega) (by omega)
end
end Go.Proofs.YthmknddfkmklfaaGreatDoor.Vm
