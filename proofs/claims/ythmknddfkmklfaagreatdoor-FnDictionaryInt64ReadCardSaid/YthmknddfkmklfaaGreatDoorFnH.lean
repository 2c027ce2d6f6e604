/- A new reader; the unpack loop over its blocks. -/
import Derived.Test.YthmknddfkmklfaaGreatDoorFnF
import Derived.Test.YthmknddfkmklfaaGreatDoorFnG
import Derived.Test.YthmknddfkmklfaaGreatDoorPerm
namespace Go.Proofs.YthmknddfkmklfaaGreatDoor.Vm
open Go Mix Go.RowKit Num
set_option maxRecDepth 20000
set_option linter.unusedSimpArgs false
theorem newReader {w : World} (db o len cap : Nat) :
    Ret Tryz.prog 117 #[.slice (ad db o) len cap] w fun v w' => ∃ rb2 : RB, w.heap.size ≤ rb2.blk ∧ v = .pointer (some ⟨rb2, rb2.off, none⟩) ∧ RD w' rb2 db o len cap 0 (-1) ∧ Same [] w w' := by
  refine Ret.enter (vs := [.slice (ad db o) len cap]) Tryz.func117 Tryz.ntmps117 rfl rfl ?_
  refine WC.seq (WC.region ?_)
  refine WR.assign rfl rfl ?_
  refine WR.nil (WN.seq ?_)
  refine WC.seq (WC.region ?_)
  refine WR.move rfl rfl ?_
  refine WR.build rfl rfl (v := .agg #[.slice (ad db o) len cap, .int .i64 0, .int .i64 (-1)]) (fun w => (by kernel_rfl)) rfl rfl ?_
  refine WR.box rfl rfl rfl ?_
  intro w1 hn hs
  have hx : RD w1 ⟨w.heap.size, 0, 73, 3, fun _ => undef⟩ db o len cap 0 (-1) := by
    rw [hn]
    refine ⟨?_, Nat.le_refl _⟩
    exact (Row.alloc w #[.slice (ad db o) len cap, .int .i64 0, .int .i64 (-1)] 73).congr fun i hi => by
      have : i = 0 ∨ i = 1 ∨ i = 2 := by simp at hi; omega
      rcases this with rfl | rfl | rfl <;> rfl
  have hS := hs
  clear hn hs
  refine WR.assign rfl rfl ?_
  refine WR.nil (WN.seq ?_)
  refine WC.retR rfl rfl ?_
  exact ⟨⟨w.heap.size, 0, 73, 3, fun _ => undef⟩, Nat.le_refl _, rfl, hx, hS⟩

theorem zv128 (w : World) : (zeroValue 192).run Tryz.prog w = .ok (.agg (Array.replicate 128 (.int .u8 0))) w := by kernel_rfl
theorem sz128 : (Value.agg (Array.replicate 128 (.int .u8 0))).cells.size = 128 := by kernel_rfl
/-- a function that unpacks 32 fields of N bits -/
def UnpOK (fid N : Nat) : Prop := (∀ (us : Array Value) (w : World), (callFunc fid us).run Tryz.prog w = .ok (.enter fid us) w) ∧
  ∀ (p : UP) (w : World), UIn p N w → Ret Tryz.prog fid #[.iface 120 (.pointer (some ⟨p.rb, p.rb.off, none⟩)), .slice (some ⟨p.g, p.o, none⟩) p.dl p.dc] w (unpR p N w)
theorem blk_bits {d : Nat → Nat} {len q N i j : Nat} (hs : ∀ i, i < len → d i < 256) (hm : q + 4 * N * i + (4 * N - 0) ≤ len) (hj : j < 32) :
    bts (num (fun k => d (q + 4 * N * i + k)) (4 * N - 0)) (N * j) N = bts (num d len) (8 * q + N * (32 * i + j)) N := by
  rw [num_bts hs hm, bts_bts]
  · congr 1
    have h1 : N * (32 * i) = 32 * (N * i) := by rw [Nat.mul_left_comm]
    have h2 : 4 * N * i = 4 * (N * i) := Nat.mul_assoc ..
    rw [Nat.mul_add N, h1, h2]
    omega
  · have h1 : N * (j + 1) ≤ N * 32 := Nat.mul_le_mul_left _ hj
    rw [Nat.mul_add_one] at h1
    omega

set_option maxHeartbeats 1000000 in
theorem unpackDefault {w : World} (rb : RB) (db dO len cap g o dl dc t n q N nb : Nat) (r : Int) (d : Nat → Nat) (f : Nat → Value) (hr : RD w rb db dO len cap q r) (hd : Src2 w rb db dO len cap d) (hF : Row w g t n f) (hfit : o + dl ≤ n) (hdc : dl ≤ dc) (hN0 : 1 ≤ N) (hN : N ≤ 32) (hnb : nb = dl / 32) (hall : q + 4 * N * nb ≤ len) (hne : g ≠ rb.blk) (hnd : g ≠ db) (hrd : rb.blk ≠ db) (hgl : 6 ≤ w.heap.size) (hdl : dl ≤ 1099511627776) :
    Ret Tryz.prog 76 #[.iface 120 (.pointer (some ⟨rb, rb.off, none⟩)), .slice (some ⟨g, o, none⟩) dl dc, .int .i64 N] w fun v w' => v = .tuple #[.int .i64 (32 * nb : Nat), .nilIface] ∧ (∃ r, RD w' rb db dO len cap (q + 4 * N * nb : Nat) r) ∧ (∃ F, Row w' g t n F ∧ (∀ j, j < 32 * nb → F (o + j) = .int .u32 (bts (num d len) (8 * q + N * j) N : Nat)) ∧ (∀ j, j < o ∨ o + 32 * nb ≤ j → F j = f j)) ∧ Same [g, rb.blk] w w' := by
  have hS := Same.refl [g, rb.blk] w
  obtain ⟨bR, hbR⟩ : ∃ b, b = w.heap.size := ⟨_, rfl⟩
  have hrl := hr.lt
  have hfl := hF.lt
  have hdl2 := hd.lt
  have hlen := hd.len_
  have hcap := hd.cap_
  refine Ret.enter (vs := [.iface 120 (.pointer (some ⟨rb, rb.off, none⟩)), .slice (some ⟨g, o, none⟩) dl dc, .int .i64 N]) Tryz.func76 Tryz.ntmps76 rfl rfl ?_
  refine WC.seq (WC.region ?_)
  refine WR.assign rfl rfl ?_
  refine WR.assign rfl rfl ?_
  refine WR.nil (WN.seq ?_)
  refine WC.seq (WC.region ?_)
  refine WR.move rfl rfl ?_
  refine WR.lenS rfl Tryz.underlying156 rfl ?_
  (refine WR.bin rfl rfl (ar_quo ?_ ((congrArg _ (tdiv_pos ?_)).trans (wrap_i64 ?_ ?_))) rfl ?_; (omega); (omega); (omega); (omega))
  (refine WR.bin rfl rfl (ar_mul (wrap_i64 ?_ ?_)) rfl ?_; (omega); (omega))
  refine WR.assign rfl rfl ?_
  refine WR.nil (WN.seq ?_)
  refine WC.seq (WC.region ?_)
  refine WR.move rfl rfl ?_
  (refine WR.bin rfl rfl (ar_quo ?_ ((congrArg _ (tdiv_pos ?_)).trans (wrap_i64 ?_ ?_))) rfl ?_; (omega); (omega); (omega); (omega))
  refine WR.assign rfl rfl ?_
  refine WR.nil (WN.seq ?_)
  refine WC.seq (WC.region ?_)
  refine WR.assign rfl rfl ?_
  refine WR.nil (WN.seq (WC.seq ?_))
  refine WC.cut (fun fid : Nat => [(0, .iface 120 (.pointer (some ⟨rb, rb.off, none⟩))), (1, .slice (some ⟨g, o, none⟩) dl dc), (2, .int .i64 N), (8, .int .i64 (32 * nb : Nat)), (9, .int .i64 nb), (10, .func (.func fid) #[] #[])]) (fun fid w' => w' = w ∧ UnpOK fid N) ?_ ?_
  · skip
    refine WC.seq (WC.region ?_)
    refine WR.move rfl rfl ?_
    refine WR.nil (WN.seq ?_)
    refine WC.block (WC.seq (WC.region ?_))
    refine WR.bin rfl rfl rfl rfl ?_
    refine WR.assign rfl rfl ?_
    refine WR.nil (WN.seq ?_)
    refine WC.cond rfl (fun h1880 => ?_) (fun h1880 => ?_)
    · skip
      simp only [beq_iff_eq] at h1880
      omega
    · skip
      simp only [beq_eq_false_iff_ne, ne_eq] at h1880
      refine WC.seq (WC.region ?_)
      refine WR.bin rfl rfl rfl rfl ?_
      refine WR.assign rfl rfl ?_
      refine WR.nil (WN.seq ?_)
      refine WC.cond rfl (fun h1882 => ?_) (fun h1882 => ?_)
      · skip
        simp only [beq_iff_eq] at h1882
        obtain rfl : N = 1 := by omega
        refine WC.region ?_
        refine WR.assign rfl rfl ?_
        refine WR.nil (WN.block ?_)
        exact WN.loop 0 84 (by decide) ⟨rfl, rfl, rfl, kint rfl (by omega), kint rfl (by omega), rfl, trivial⟩ ⟨rfl, cf84, fun p w h => unpk1 p h⟩
      · skip
        simp only [beq_eq_false_iff_ne, ne_eq] at h1882
        refine WC.seq (WC.region ?_)
        refine WR.bin rfl rfl rfl rfl ?_
        refine WR.assign rfl rfl ?_
        refine WR.nil (WN.seq ?_)
        refine WC.cond rfl (fun h1884 => ?_) (fun h1884 => ?_)
        · skip
          simp only [beq_iff_eq] at h1884
          obtain rfl : N = 2 := by omega
          refine WC.region ?_
          refine WR.assign rfl rfl ?_
          refine WR.nil (WN.block ?_)
          exact WN.loop 0 85 (by decide) ⟨rfl, rfl, rfl, kint rfl (by omega), kint rfl (by omega), rfl, trivial⟩ ⟨rfl, cf85, fun p w h => unpk2 p h⟩
        · skip
          simp only [beq_eq_false_iff_ne, ne_eq] at h1884
          refine WC.seq (WC.region ?_)
          refine WR.bin rfl rfl rfl rfl ?_
          refine WR.assign rfl rfl ?_
          refine WR.nil (WN.seq ?_)
          refine WC.cond rfl (fun h1886 => ?_) (fun h1886 => ?_)
          · skip
            simp only [beq_iff_eq] at h1886
            obtain rfl : N = 3 := by omega
            refine WC.region ?_
            refine WR.assign rfl rfl ?_
            refine WR.nil (WN.block ?_)
            exact WN.loop 0 86 (by decide) ⟨rfl, rfl, rfl, kint rfl (by omega), kint rfl (by omega), rfl, trivial⟩ ⟨rfl, cf86, fun p w h => unpk3 p h⟩
          · skip
            simp only [beq_eq_false_iff_ne, ne_eq] at h1886
            refine WC.seq (WC.region ?_)
            refine WR.bin rfl rfl rfl rfl ?_
            refine WR.assign rfl rfl ?_
            refine WR.nil (WN.seq ?_)
            refine WC.cond rfl (fun h1888 => ?_) (fun h1888 => ?_)
            · skip
              simp only [beq_iff_eq] at h1888
              obtain rfl : N = 4 := by omega
              refine WC.region ?_
              refine WR.assign rfl rfl ?_
              refine WR.nil (WN.block ?_)
              exact WN.loop 0 87 (by decide) ⟨rfl, rfl, rfl, kint rfl (by omega), kint rfl (by omega), rfl, trivial⟩ ⟨rfl, cf87, fun p w h => unpk4 p h⟩
            · skip
              simp only [beq_eq_false_iff_ne, ne_eq] at h1888
              refine WC.seq (WC.region ?_)
              refine WR.bin rfl rfl rfl rfl ?_
              refine WR.assign rfl rfl ?_
              refine WR.nil (WN.seq ?_)
              refine WC.cond rfl (fun h1890 => ?_) (fun h1890 => ?_)
              · skip
                simp only [beq_iff_eq] at h1890
                obtain rfl : N = 5 := by omega
                refine WC.region ?_
                refine WR.assign rfl rfl ?_
                refine WR.nil (WN.block ?_)
                exact WN.loop 0 88 (by decide) ⟨rfl, rfl, rfl, kint rfl (by omega), kint rfl (by omega), rfl, trivial⟩ ⟨rfl, cf88, fun p w h => unpk5 p h⟩
              · skip
                simp only [beq_eq_false_iff_ne, ne_eq] at h1890
                refine WC.seq (WC.region ?_)
                refine WR.bin rfl rfl rfl rfl ?_
                refine WR.assign rfl rfl ?_
                refine WR.nil (WN.seq ?_)
                refine WC.cond rfl (fun h1892 => ?_) (fun h1892 => ?_)
                · skip
                  simp only [beq_iff_eq] at h1892
                  obtain rfl : N = 6 := by omega
                  refine WC.region ?_
                  refine WR.assign rfl rfl ?_
                  refine WR.nil (WN.block ?_)
                  exact WN.loop 0 89 (by decide) ⟨rfl, rfl, rfl, kint rfl (by omega), kint rfl (by omega), rfl, trivial⟩ ⟨rfl, cf89, fun p w h => unpk6 p h⟩
                · skip
                  simp only [beq_eq_false_iff_ne, ne_eq] at h1892
                  refine WC.seq (WC.region ?_)
                  refine WR.bin rfl rfl rfl rfl ?_
                  refine WR.assign rfl rfl ?_
                  refine WR.nil (WN.seq ?_)
                  refine WC.cond rfl (fun h1894 => ?_) (fun h1894 => ?_)
                  · skip
                    simp only [beq_iff_eq] at h1894
                    obtain rfl : N = 7 := by omega
                    refine WC.region ?_
                    refine WR.assign rfl rfl ?_
                    refine WR.nil (WN.block ?_)
                    exact WN.loop 0 90 (by decide) ⟨rfl, rfl, rfl, kint rfl (by omega), kint rfl (by omega), rfl, trivial⟩ ⟨rfl, cf90, fun p w h => unpk7 p h⟩
                  · skip
                    simp only [beq_eq_false_iff_ne, ne_eq] at h1894
                    refine WC.seq (WC.region ?_)
                    refine WR.bin rfl rfl rfl rfl ?_
                    refine WR.assign rfl rfl ?_
                    refine WR.nil (WN.seq ?_)
                    refine WC.cond rfl (fun h1896 => ?_) (fun h1896 => ?_)
                    · skip
                      simp only [beq_iff_eq] at h1896
                      obtain rfl : N = 8 := by omega
                      refine WC.region ?_
                      refine WR.assign rfl rfl ?_
                      refine WR.nil (WN.block ?_)
                      exact WN.loop 0 91 (by decide) ⟨rfl, rfl, rfl, kint rfl (by omega), kint rfl (by omega), rfl, trivial⟩ ⟨rfl, cf91, fun p w h => unpk8 p h⟩
                    · skip
                      simp only [beq_eq_false_iff_ne, ne_eq] at h1896
                      refine WC.seq (WC.region ?_)
                      refine WR.bin rfl rfl rfl rfl ?_
                      refine WR.assign rfl rfl ?_
                      refine WR.nil (WN.seq ?_)
                      refine WC.cond rfl (fun h1898 => ?_) (fun h1898 => ?_)
                      · skip
                        simp only [beq_iff_eq] at h1898
                        obtain rfl : N = 9 := by omega
                        refine WC.region ?_
                        refine WR.assign rfl rfl ?_
                        refine WR.nil (WN.block ?_)
                        exact WN.loop 0 92 (by decide) ⟨rfl, rfl, rfl, kint rfl (by omega), kint rfl (by omega), rfl, trivial⟩ ⟨rfl, cf92, fun p w h => unpk9 p h⟩
                      · skip
                        simp only [beq_eq_false_iff_ne, ne_eq] at h1898
                        refine WC.seq (WC.region ?_)
                        refine WR.bin rfl rfl rfl rfl ?_
                        refine WR.assign rfl rfl ?_
                        refine WR.nil (WN.seq ?_)
                        refine WC.cond rfl (fun h1900 => ?_) (fun h1900 => ?_)
                        · skip
                          simp only [beq_iff_eq] at h1900
                          obtain rfl : N = 10 := by omega
                          refine WC.region ?_
                          refine WR.assign rfl rfl ?_
                          refine WR.nil (WN.block ?_)
                          exact WN.loop 0 93 (by decide) ⟨rfl, rfl, rfl, kint rfl (by omega), kint rfl (by omega), rfl, trivial⟩ ⟨rfl, cf93, fun p w h => unpk10 p h⟩
                        · skip
                          simp only [beq_eq_false_iff_ne, ne_eq] at h1900
                          refine WC.seq (WC.region ?_)
                          refine WR.bin rfl rfl rfl rfl ?_
                          refine WR.assign rfl rfl ?_
                          refine WR.nil (WN.seq ?_)
                          refine WC.cond rfl (fun h1902 => ?_) (fun h1902 => ?_)
                          · skip
                            simp only [beq_iff_eq] at h1902
                            obtain rfl : N = 11 := by omega
                            refine WC.region ?_
                            refine WR.assign rfl rfl ?_
                            refine WR.nil (WN.block ?_)
                            exact WN.loop 0 94 (by decide) ⟨rfl, rfl, rfl, kint rfl (by omega), kint rfl (by omega), rfl, trivial⟩ ⟨rfl, cf94, fun p w h => unpk11 p h⟩
                          · skip
                            simp only [beq_eq_false_iff_ne, ne_eq] at h1902
                            refine WC.seq (WC.region ?_)
                            refine WR.bin rfl rfl rfl rfl ?_
                            refine WR.assign rfl rfl ?_
                            refine WR.nil (WN.seq ?_)
                            refine WC.cond rfl (fun h1904 => ?_) (fun h1904 => ?_)
                            · skip
                              simp only [beq_iff_eq] at h1904
                              obtain rfl : N = 12 := by omega
                              refine WC.region ?_
                              refine WR.assign rfl rfl ?_
                              refine WR.nil (WN.block ?_)
                              exact WN.loop 0 95 (by decide) ⟨rfl, rfl, rfl, kint rfl (by omega), kint rfl (by omega), rfl, trivial⟩ ⟨rfl, cf95, fun p w h => unpk12 p h⟩
                            · skip
                              simp only [beq_eq_false_iff_ne, ne_eq] at h1904
                              refine WC.seq (WC.region ?_)
                              refine WR.bin rfl rfl rfl rfl ?_
                              refine WR.assign rfl rfl ?_
                              refine WR.nil (WN.seq ?_)
                              refine WC.cond rfl (fun h1906 => ?_) (fun h1906 => ?_)
                              · skip
                                simp only [beq_iff_eq] at h1906
                                obtain rfl : N = 13 := by omega
                                refine WC.region ?_
                                refine WR.assign rfl rfl ?_
                                refine WR.nil (WN.block ?_)
                                exact WN.loop 0 96 (by decide) ⟨rfl, rfl, rfl, kint rfl (by omega), kint rfl (by omega), rfl, trivial⟩ ⟨rfl, cf96, fun p w h => unpk13 p h⟩
                              · skip
                                simp only [beq_eq_false_iff_ne, ne_eq] at h1906
                                refine WC.seq (WC.region ?_)
                                refine WR.bin rfl rfl rfl rfl ?_
                                refine WR.assign rfl rfl ?_
                                refine WR.nil (WN.seq ?_)
                                refine WC.cond rfl (fun h1908 => ?_) (fun h1908 => ?_)
                                · skip
                                  simp only [beq_iff_eq] at h1908
                                  obtain rfl : N = 14 := by omega
                                  refine WC.region ?_
                                  refine WR.assign rfl rfl ?_
                                  refine WR.nil (WN.block ?_)
                                  exact WN.loop 0 97 (by decide) ⟨rfl, rfl, rfl, kint rfl (by omega), kint rfl (by omega), rfl, trivial⟩ ⟨rfl, cf97, fun p w h => unpk14 p h⟩
                                · skip
                                  simp only [beq_eq_false_iff_ne, ne_eq] at h1908
                                  refine WC.seq (WC.region ?_)
                                  refine WR.bin rfl rfl rfl rfl ?_
                                  refine WR.assign rfl rfl ?_
                                  refine WR.nil (WN.seq ?_)
                                  refine WC.cond rfl (fun h1910 => ?_) (fun h1910 => ?_)
                                  · skip
                                    simp only [beq_iff_eq] at h1910
                                    obtain rfl : N = 15 := by omega
                                    refine WC.region ?_
                                    refine WR.assign rfl rfl ?_
                                    refine WR.nil (WN.block ?_)
                                    exact WN.loop 0 98 (by decide) ⟨rfl, rfl, rfl, kint rfl (by omega), kint rfl (by omega), rfl, trivial⟩ ⟨rfl, cf98, fun p w h => unpk15 p h⟩
                                  · skip
                                    simp only [beq_eq_false_iff_ne, ne_eq] at h1910
                                    refine WC.seq (WC.region ?_)
                                    refine WR.bin rfl rfl rfl rfl ?_
                                    refine WR.assign rfl rfl ?_
                                    refine WR.nil (WN.seq ?_)
                                    refine WC.cond rfl (fun h1912 => ?_) (fun h1912 => ?_)
                                    · skip
                                      simp only [beq_iff_eq] at h1912
                                      obtain rfl : N = 16 := by omega
                                      refine WC.region ?_
                                      refine WR.assign rfl rfl ?_
                                      refine WR.nil (WN.block ?_)
                                      exact WN.loop 0 99 (by decide) ⟨rfl, rfl, rfl, kint rfl (by omega), kint rfl (by omega), rfl, trivial⟩ ⟨rfl, cf99, fun p w h => unpk16 p h⟩
                                    · skip
                                      simp only [beq_eq_false_iff_ne, ne_eq] at h1912
                                      refine WC.seq (WC.region ?_)
                                      refine WR.bin rfl rfl rfl rfl ?_
                                      refine WR.assign rfl rfl ?_
                                      refine WR.nil (WN.seq ?_)
                                      refine WC.cond rfl (fun h1914 => ?_) (fun h1914 => ?_)
                                      · skip
                                        simp only [beq_iff_eq] at h1914
                                        obtain rfl : N = 17 := by omega
                                        refine WC.region ?_
                                        refine WR.assign rfl rfl ?_
                                        refine WR.nil (WN.block ?_)
                                        exact WN.loop 0 100 (by decide) ⟨rfl, rfl, rfl, kint rfl (by omega), kint rfl (by omega), rfl, trivial⟩ ⟨rfl, cf100, fun p w h => unpk17 p h⟩
                                      · skip
                                        simp only [beq_eq_false_iff_ne, ne_eq] at h1914
                                        refine WC.seq (WC.region ?_)
                                        refine WR.bin rfl rfl rfl rfl ?_
                                        refine WR.assign rfl rfl ?_
                                        refine WR.nil (WN.seq ?_)
                                        refine WC.cond rfl (fun h1916 => ?_) (fun h1916 => ?_)
                                        · skip
                                          simp only [beq_iff_eq] at h1916
                                          obtain rfl : N = 18 := by omega
                                          refine WC.region ?_
                                          refine WR.assign rfl rfl ?_
                                          refine WR.nil (WN.block ?_)
                                          exact WN.loop 0 101 (by decide) ⟨rfl, rfl, rfl, kint rfl (by omega), kint rfl (by omega), rfl, trivial⟩ ⟨rfl, cf101, fun p w h => unpk18 p h⟩
                                        · skip
                                          simp only [beq_eq_false_iff_ne, ne_eq] at h1916
                                          refine WC.seq (WC.region ?_)
                                          refine WR.bin rfl rfl rfl rfl ?_
                                          refine WR.assign rfl rfl ?_
                                          refine WR.nil (WN.seq ?_)
                                          refine WC.cond rfl (fun h1918 => ?_) (fun h1918 => ?_)
                                          · skip
                                            simp only [beq_iff_eq] at h1918
                                            obtain rfl : N = 19 := by omega
                                            refine WC.region ?_
                                            refine WR.assign rfl rfl ?_
                                            refine WR.nil (WN.block ?_)
                                            exact WN.loop 0 102 (by decide) ⟨rfl, rfl, rfl, kint rfl (by omega), kint rfl (by omega), rfl, trivial⟩ ⟨rfl, cf102, fun p w h => unpk19 p h⟩
                                          · skip
                                            simp only [beq_eq_false_iff_ne, ne_eq] at h1918
                                            refine WC.seq (WC.region ?_)
                                            refine WR.bin rfl rfl rfl rfl ?_
                                            refine WR.assign rfl rfl ?_
                                            refine WR.nil (WN.seq ?_)
                                            refine WC.cond rfl (fun h1920 => ?_) (fun h1920 => ?_)
                                            · skip
                                              simp only [beq_iff_eq] at h1920
                                              obtain rfl : N = 20 := by omega
                                              refine WC.region ?_
                                              refine WR.assign rfl rfl ?_
                                              refine WR.nil (WN.block ?_)
                                              exact WN.loop 0 103 (by decide) ⟨rfl, rfl, rfl, kint rfl (by omega), kint rfl (by omega), rfl, trivial⟩ ⟨rfl, cf103, fun p w h => unpk20 p h⟩
                                            · skip
                                              simp only [beq_eq_false_iff_ne, ne_eq] at h1920
                                              refine WC.seq (WC.region ?_)
                                              refine WR.bin rfl rfl rfl rfl ?_
                                              refine WR.assign rfl rfl ?_
                                              refine WR.nil (WN.seq ?_)
                                              refine WC.cond rfl (fun h1922 => ?_) (fun h1922 => ?_)
                                              · skip
                                                simp only [beq_iff_eq] at h1922
                                                obtain rfl : N = 21 := by omega
                                                refine WC.region ?_
                                                refine WR.assign rfl rfl ?_
                                                refine WR.nil (WN.block ?_)
                                                exact WN.loop 0 104 (by decide) ⟨rfl, rfl, rfl, kint rfl (by omega), kint rfl (by omega), rfl, trivial⟩ ⟨rfl, cf104, fun p w h => unpk21 p h⟩
                                              · skip
                                                simp only [beq_eq_false_iff_ne, ne_eq] at h1922
                                                refine WC.seq (WC.region ?_)
                                                refine WR.bin rfl rfl rfl rfl ?_
                                                refine WR.assign rfl rfl ?_
                                                refine WR.nil (WN.seq ?_)
                                                refine WC.cond rfl (fun h1924 => ?_) (fun h1924 => ?_)
                                                · skip
                                                  simp only [beq_iff_eq] at h1924
                                                  obtain rfl : N = 22 := by omega
                                                  refine WC.region ?_
                                                  refine WR.assign rfl rfl ?_
                                                  refine WR.nil (WN.block ?_)
                                                  exact WN.loop 0 105 (by decide) ⟨rfl, rfl, rfl, kint rfl (by omega), kint rfl (by omega), rfl, trivial⟩ ⟨rfl, cf105, fun p w h => unpk22 p h⟩
                                                · skip
                                                  simp only [beq_eq_false_iff_ne, ne_eq] at h1924
                                                  refine WC.seq (WC.region ?_)
                                                  refine WR.bin rfl rfl rfl rfl ?_
                                                  refine WR.assign rfl rfl ?_
                                                  refine WR.nil (WN.seq ?_)
                                                  refine WC.cond rfl (fun h1926 => ?_) (fun h1926 => ?_)
                                                  · skip
                                                    simp only [beq_iff_eq] at h1926
                                                    obtain rfl : N = 23 := by omega
                                                    refine WC.region ?_
                                                    refine WR.assign rfl rfl ?_
                                                    refine WR.nil (WN.block ?_)
                                                    exact WN.loop 0 106 (by decide) ⟨rfl, rfl, rfl, kint rfl (by omega), kint rfl (by omega), rfl, trivial⟩ ⟨rfl, cf106, fun p w h => unpk23 p h⟩
                                                  · skip
                                                    simp only [beq_eq_false_iff_ne, ne_eq] at h1926
                                                    refine WC.seq (WC.region ?_)
                                                    refine WR.bin rfl rfl rfl rfl ?_
                                                    refine WR.assign rfl rfl ?_
                                                    refine WR.nil (WN.seq ?_)
                                                    refine WC.cond rfl (fun h1928 => ?_) (fun h1928 => ?_)
                                                    · skip
                                                      simp only [beq_iff_eq] at h1928
                                                      obtain rfl : N = 24 := by omega
                                                      refine WC.region ?_
                                                      refine WR.assign rfl rfl ?_
                                                      refine WR.nil (WN.block ?_)
                                                      exact WN.loop 0 107 (by decide) ⟨rfl, rfl, rfl, kint rfl (by omega), kint rfl (by omega), rfl, trivial⟩ ⟨rfl, cf107, fun p w h => unpk24 p h⟩
                                                    · skip
                                                      simp only [beq_eq_false_iff_ne, ne_eq] at h1928
                                                      refine WC.seq (WC.region ?_)
                                                      refine WR.bin rfl rfl rfl rfl ?_
                                                      refine WR.assign rfl rfl ?_
                                                      refine WR.nil (WN.seq ?_)
                                                      refine WC.cond rfl (fun h1930 => ?_) (fun h1930 => ?_)
                                                      · skip
                                                        simp only [beq_iff_eq] at h1930
                                                        obtain rfl : N = 25 := by omega
                                                        refine WC.region ?_
                                                        refine WR.assign rfl rfl ?_
                                                        refine WR.nil (WN.block ?_)
                                                        exact WN.loop 0 108 (by decide) ⟨rfl, rfl, rfl, kint rfl (by omega), kint rfl (by omega), rfl, trivial⟩ ⟨rfl, cf108, fun p w h => unpk25 p h⟩
                                                      · skip
                                                        simp only [beq_eq_false_iff_ne, ne_eq] at h1930
                                                        refine WC.seq (WC.region ?_)
                                                        refine WR.bin rfl rfl rfl rfl ?_
                                                        refine WR.assign rfl rfl ?_
                                                        refine WR.nil (WN.seq ?_)
                                                        refine WC.cond rfl (fun h1932 => ?_) (fun h1932 => ?_)
                                                        · skip
                                                          simp only [beq_iff_eq] at h1932
                                                          obtain rfl : N = 26 := by omega
                                                          refine WC.region ?_
                                                          refine WR.assign rfl rfl ?_
                                                          refine WR.nil (WN.block ?_)
                                                          exact WN.loop 0 109 (by decide) ⟨rfl, rfl, rfl, kint rfl (by omega), kint rfl (by omega), rfl, trivial⟩ ⟨rfl, cf109, fun p w h => unpk26 p h⟩
                                                        · skip
                                                          simp only [beq_eq_false_iff_ne, ne_eq] at h1932
                                                          refine WC.seq (WC.region ?_)
                                                          refine WR.bin rfl rfl rfl rfl ?_
                                                          refine WR.assign rfl rfl ?_
                                                          refine WR.nil (WN.seq ?_)
                                                          refine WC.cond rfl (fun h1934 => ?_) (fun h1934 => ?_)
                                                          · skip
                                                            simp only [beq_iff_eq] at h1934
                                                            obtain rfl : N = 27 := by omega
                                                            refine WC.region ?_
                                                            refine WR.assign rfl rfl ?_
                                                            refine WR.nil (WN.block ?_)
                                                            exact WN.loop 0 110 (by decide) ⟨rfl, rfl, rfl, kint rfl (by omega), kint rfl (by omega), rfl, trivial⟩ ⟨rfl, cf110, fun p w h => unpk27 p h⟩
                                                          · skip
                                                            simp only [beq_eq_false_iff_ne, ne_eq] at h1934
                                                            refine WC.seq (WC.region ?_)
                                                            refine WR.bin rfl rfl rfl rfl ?_
                                                            refine WR.assign rfl rfl ?_
                                                            refine WR.nil (WN.seq ?_)
                                                            refine WC.cond rfl (fun h1936 => ?_) (fun h1936 => ?_)
                                                            · skip
                                                              simp only [beq_iff_eq] at h1936
                                                              obtain rfl : N = 28 := by omega
                                                              refine WC.region ?_
                                                              refine WR.assign rfl rfl ?_
                                                              refine WR.nil (WN.block ?_)
                                                              exact WN.loop 0 111 (by decide) ⟨rfl, rfl, rfl, kint rfl (by omega), kint rfl (by omega), rfl, trivial⟩ ⟨rfl, cf111, fun p w h => unpk28 p h⟩
                                                            · skip
                                                              simp only [beq_eq_false_iff_ne, ne_eq] at h1936
                                                              refine WC.seq (WC.region ?_)
                                                              refine WR.bin rfl rfl rfl rfl ?_
                                                              refine WR.assign rfl rfl ?_
                                                              refine WR.nil (WN.seq ?_)
                                                              refine WC.cond rfl (fun h1938 => ?_) (fun h1938 => ?_)
                                                              · skip
                                                                simp only [beq_iff_eq] at h1938
                                                                obtain rfl : N = 29 := by omega
                                                                refine WC.region ?_
                                                                refine WR.assign rfl rfl ?_
                                                                refine WR.nil (WN.block ?_)
                                                                exact WN.loop 0 112 (by decide) ⟨rfl, rfl, rfl, kint rfl (by omega), kint rfl (by omega), rfl, trivial⟩ ⟨rfl, cf112, fun p w h => unpk29 p h⟩
                                                              · skip
                                                                simp only [beq_eq_false_iff_ne, ne_eq] at h1938
                                                                refine WC.seq (WC.region ?_)
                                                                refine WR.bin rfl rfl rfl rfl ?_
                                                                refine WR.assign rfl rfl ?_
                                                                refine WR.nil (WN.seq ?_)
                                                                refine WC.cond rfl (fun h1940 => ?_) (fun h1940 => ?_)
                                                                · skip
                                                                  simp only [beq_iff_eq] at h1940
                                                                  obtain rfl : N = 30 := by omega
                                                                  refine WC.region ?_
                                                                  refine WR.assign rfl rfl ?_
                                                                  refine WR.nil (WN.block ?_)
                                                                  exact WN.loop 0 113 (by decide) ⟨rfl, rfl, rfl, kint rfl (by omega), kint rfl (by omega), rfl, trivial⟩ ⟨rfl, cf113, fun p w h => unpk30 p h⟩
                                                                · skip
                                                                  simp only [beq_eq_false_iff_ne, ne_eq] at h1940
                                                                  refine WC.seq (WC.region ?_)
                                                                  refine WR.bin rfl rfl rfl rfl ?_
                                                                  refine WR.assign rfl rfl ?_
                                                                  refine WR.nil (WN.seq ?_)
                                                                  refine WC.cond rfl (fun h1942 => ?_) (fun h1942 => ?_)
                                                                  · skip
                                                                    simp only [beq_iff_eq] at h1942
                                                                    obtain rfl : N = 31 := by omega
                                                                    refine WC.region ?_
                                                                    refine WR.assign rfl rfl ?_
                                                                    refine WR.nil (WN.block ?_)
                                                                    exact WN.loop 0 114 (by decide) ⟨rfl, rfl, rfl, kint rfl (by omega), kint rfl (by omega), rfl, trivial⟩ ⟨rfl, cf114, fun p w h => unpk31 p h⟩
                                                                  · skip
                                                                    simp only [beq_eq_false_iff_ne, ne_eq] at h1942
                                                                    refine WC.seq (WC.region ?_)
                                                                    refine WR.bin rfl rfl rfl rfl ?_
                                                                    refine WR.assign rfl rfl ?_
                                                                    refine WR.nil (WN.seq ?_)
                                                                    refine WC.cond rfl (fun h1944 => ?_) (fun h1944 => ?_)
                                                                    · skip
                                                                      simp only [beq_iff_eq] at h1944
                                                                      obtain rfl : N = 32 := by omega
                                                                      refine WC.region ?_
                                                                      refine WR.assign rfl rfl ?_
                                                                      refine WR.nil (WN.block ?_)
                                                                      exact WN.loop 0 115 (by decide) ⟨rfl, rfl, rfl, kint rfl (by omega), kint rfl (by omega), rfl, trivial⟩ ⟨rfl, cf115, fun p w h => unpk32 p h⟩
                                                                    · skip
                                                                      simp only [beq_eq_false_iff_ne, ne_eq] at h1944
                                                                      omega
  · skip
    rintro fid w9 ⟨hw9, hfid⟩
    have hw8 := hw9.symm
    clear hw9
    subst hw8
    refine WN.seq (WC.seq (WC.region ?_))
    refine WR.alloc zv128 rfl rfl ?_
    intro w1 hn hs
    have hx : ∃ fr, Row w1 bR 192 128 fr := by
      rw [hn, hbR]
      have := Row.alloc w (Value.agg (Array.replicate 128 (.int .u8 0))).cells 192
      rw [sz128] at this
      exact ⟨_, this⟩
    rw [← hbR]
    obtain ⟨fr, hx⟩ := hx
    replace hd := hd.same hs (by simp)
    replace hr := hr.same hs (by simp)
    replace hF := hF.same hs (by simp)
    replace hS := hS.trans hs (by simp)
    clear hn hs
    refine WR.nil (WN.seq ?_)
    refine WC.seq (WC.region ?_)
    refine WR.move rfl rfl ?_
    (refine WR.bin rfl rfl (ar_mul (wrap_i64 ?_ ?_)) rfl ?_; (omega); (omega))
    refine WR.assign rfl rfl ?_
    refine WR.nil (WN.seq ?_)
    refine WC.seq (WC.seq (WC.region ?_))
    refine WR.assign rfl rfl ?_
    refine WR.nil (WN.seq (WC.block ?_))
    refine WC.loop (fun i : Nat => [(0, .iface 120 (.pointer (some ⟨rb, rb.off, none⟩))), (1, .slice (some ⟨g, o, none⟩) dl dc), (8, .int .i64 (32 * nb : Nat)), (9, .int .i64 nb), (10, .func (.func fid) #[] #[]), (11, .pointer (some ⟨bR, 0, none⟩)), (12, .int .i64 (4 * N : Nat)), (13, .int .i64 (i : Nat))]) (fun m i w' => i + m = nb ∧ (∃ r, RD w' rb db dO len cap (q + 4 * N * i : Nat) r) ∧ Src2 w' rb db dO len cap d ∧ (∃ F, Row w' g t n F ∧ (∀ j, j < 32 * i → F (o + j) = .int .u32 (bts (num d len) (8 * q + N * j) N : Nat)) ∧ (∀ j, j < o ∨ o + 32 * nb ≤ j → F j = f j)) ∧ (∃ fr, Row w' bR 192 128 fr) ∧ Same [g, rb.blk] w w') nb 0 ⟨rfl, rfl, rfl, rfl, rfl, rfl, kint rfl (by omega), rfl, trivial⟩ ⟨by omega, ⟨r, hr⟩, hd, ⟨f, hF, fun j hj => by omega, fun _ _ => rfl⟩, ⟨fr, hx⟩, hS⟩ ?_
    clear hr hd hF hS hx fr
    rintro m i w2 ⟨hm, ⟨r, hr⟩, hd, ⟨F, hF, hF1, hF2⟩, ⟨fr, hx⟩, hS⟩
    have hbl := Nat.mul_le_mul_left (4 * N) (show i ≤ nb by omega)
    have hgl1 := Nat.le_trans hgl hS.size
    refine WC.seq (WC.seq (WC.region ?_))
    refine WR.move rfl rfl ?_
    refine WR.move rfl rfl ?_
    refine WR.bin rfl rfl rfl rfl ?_
    refine WR.nil (WN.seq ?_)
    refine WC.cond rfl (fun h1952 => ?_) (fun h1952 => ?_)
    · skip
      simp only [decide_eq_true_eq] at h1952
      refine WC.skip (WN.seq ?_)
      refine WC.seq (WC.block ?_)
      refine WC.seq (WC.seq (WC.region ?_))
      refine WR.move rfl rfl ?_
      refine WR.move rfl rfl ?_
      refine WR.sliceA rfl Tryz.underlying192 sz5 ⟨_, _, rfl, by omega, by omega, show 4 * N = Int.toNat _ by omega⟩ rfl rfl ?_
      have hbl2 := Nat.mul_le_mul_left (4 * N) (show i + 1 ≤ nb by omega)
      rw [Nat.mul_add_one] at hbl2
      have hbl3 := Nat.mul_add_one (4 * N) i
      refine WR.callF rfl rfl cf116 rfl rfl (readFull rb db dO len cap bR 0 (4 * N - 0) (128 - 0) 192 128 (q + 4 * N * i) r d fr hr hd hx (by omega) (by omega) (by omega) (by omega) (by omega) (by omega) hrd) ?_
      rintro _ w3 ⟨rfl, hr', hx', hs⟩
      replace hr := hr'
      replace hx := hx'
      clear hr' hx'
      replace hd := hd.same hs (by simp <;> omega)
      replace hF := hF.same hs (by simp <;> omega)
      replace hS := hS.trans hs (by simp <;> omega)
      clear hs
      refine WR.move rfl rfl ?_
      refine WR.extract rfl rfl rfl ?_
      refine WR.extract rfl rfl rfl ?_
      refine WR.assign rfl rfl ?_
      refine WR.assign rfl rfl ?_
      refine WR.nil (WN.seq ?_)
      refine WC.seq (WC.region ?_)
      refine WR.move rfl rfl ?_
      refine WR.neqNil rfl rfl Tryz.underlying54 rfl ?_
      refine WR.nil (WN.seq ?_)
      refine WC.cond rfl (fun h1953 => ?_) (fun h1953 => ?_)
      · skip
        cases h1953
      · skip
        simp only at h1953
        refine WC.skip (WN.seq ?_)
        refine WC.perm [] [0, 1, 2, 5, 6, 7, 8, 3, 4, 9] mixed (by kernel_rfl) ?_
        replace hd := hd.same (Same.drew _) (by simp)
        replace hr := hr.same (Same.drew _) (by simp)
        replace hF := hF.same (Same.drew _) (by simp)
        replace hx := hx.same (Same.drew _) (by simp)
        replace hS := hS.trans (Same.drew _) (by simp)
        refine WP.move rfl rfl rfl ?_
        refine WP.move rfl rfl rfl ?_
        refine WP.sliceA rfl rfl Tryz.underlying192 sz5 ⟨_, _, rfl, by omega, by omega, show 4 * N = Int.toNat _ by omega⟩ rfl rfl ?_
        refine WP.move rfl rfl rfl ?_
        refine WP.move rfl rfl rfl ?_
        refine WP.bin rfl rfl rfl (ar_mul (z := ((32 * i : Nat) : Int)) (by rw [wrap_i64 (by omega) (by omega)]; omega)) rfl ?_
        refine WP.slice rfl rfl Tryz.underlying156 sz109 rfl ⟨_, _, rfl, by omega, by omega, show 32 * i = Int.toNat _ by omega⟩ rfl ?_
        rw [if_neg (show ¬ dc = 32 * i by omega), show o + 32 * i * 1 = o + 32 * i by omega]
        have hbR6 := hx.lt
        have hF6 := hF.lt
        have hr6 := hr.lt
        have hd6 := hd.lt
        have hS6 := hS.size
        refine WP.callF rfl rfl rfl cf117 rfl rfl (newReader bR 1 (4 * N - 0) (128 - 0)) ?_
        rintro _ w6 ⟨rb2, hrb2, rfl, hr2, hs⟩
        replace hd := hd.same hs (by simp)
        replace hr := hr.same hs (by simp)
        replace hF := hF.same hs (by simp)
        replace hx := hx.same hs (by simp)
        replace hS := hS.trans hs (by simp)
        have hgl6 := Nat.le_trans hgl hS.size
        clear hs
        refine WP.mkIface rfl rfl Tryz.underlying120 rfl rfl ?_
        have hin : UIn ⟨rb2, bR, 1, 4 * N - 0, 128 - 0, g, o + 32 * i, t, n, dl - 32 * i, dc - 32 * i, fun k => d (q + 4 * N * i + k), F⟩ N w6 := by
          refine ⟨⟨_, hr2⟩, ⟨(hx.rd 0 (4 * N - 0) (by omega)).congr (fun k hk => ?_), fun k hk => hd.small _ (by simp only [] at hk; omega), by simp only []; omega, by simp only []; omega, hx.lt, fun _ => Nat.one_pos⟩, hF, ?_, ?_⟩
          · have := ovr_at (f := fr) (o := 0) (cs := (List.range (4 * N - 0)).map fun k => byt d (q + 4 * N * i + k)) (i := k) (by simpa using hk)
            simp only [Nat.zero_add] at this ⊢
            rw [this]
            simp [byt]
          · simp only []; omega
          · simp only []; omega
        refine WP.callV rfl rfl rfl rfl hfid.1 rfl rfl (hfid.2 _ _ hin) ?_
        rintro _ w7 ⟨rfl, F', hF', hF1', hF2', hs⟩
        simp only [] at hF' hF1' hF2' hs
        replace hd := hd.same hs (by simp <;> omega)
        replace hr := hr.same hs (by simp <;> omega)
        replace hx := hx.same hs (by simp <;> omega)
        replace hS := hS.trans hs (by simp <;> omega)
        have hrow : ∃ F, Row w7 g t n F ∧ (∀ j, j < 32 * (i + 1) → F (o + j) = .int .u32 (bts (num d len) (8 * q + N * j) N : Nat)) ∧ (∀ j, j < o ∨ o + 32 * nb ≤ j → F j = f j) := by
          refine ⟨F', hF', fun j hj => ?_, fun j hj => ?_⟩
          · by_cases hji : j < 32 * i
            · rw [hF2' _ (by omega)]
              exact hF1 j hji
            · have h1 := hF1' (j - 32 * i) (by omega)
              rw [show o + 32 * i + (j - 32 * i) = o + j by omega] at h1
              rw [h1]
              simp only [UP.E]
              rw [blk_bits hd.small (by omega) (by omega), show 32 * i + (j - 32 * i) = j by omega]
          · rw [hF2' _ (by omega)]
            exact hF2 j (by omega)
        clear hF' hF1' hF2' hF1 hF2 hF hs hr2 hin F
        refine WP.nil ?_
        refine WN.block (WN.seq (WC.region ?_))
        refine WR.move rfl rfl ?_
        (refine WR.bin rfl rfl (ar_add (wrap_i64 ?_ ?_)) rfl ?_; (omega); (omega))
        refine WR.assign rfl rfl ?_
        refine WR.nil ?_
        rw [show q + 4 * N * i + (4 * N - 0) = q + 4 * N * (i + 1) by omega] at hr
        exact WN.loop (m - 1) (i + 1) (by omega) ⟨rfl, rfl, rfl, rfl, rfl, rfl, rfl, kint rfl (by omega), trivial⟩ ⟨by omega, ⟨_, hr⟩, hd, hrow, ⟨_, hx⟩, hS⟩
    · skip
      simp only [decide_eq_false_iff_not, Int.not_lt] at h1952
      obtain rfl : i = nb := by omega
      refine WC.exit rfl ?_
      refine WN.seq (WC.seq (WC.region ?_))
      refine WR.move rfl rfl ?_
      refine WR.assign rfl rfl ?_
      refine WR.assign rfl rfl ?_
      refine WR.nil (WN.seq ?_)
      refine WC.retR rfl rfl ?_
      exact ⟨rfl, ⟨r, hr⟩, ⟨F, hF, hF1, hF2⟩, hS⟩

theorem unpack32 {w : World} (rb : RB) (db dO len cap g o dl dc t n q N nb : Nat) (r : Int) (d : Nat → Nat) (f : Nat → Value) (hr : RD w rb db dO len cap q r) (hd : Src2 w rb db dO len cap d) (hF : Row w g t n f) (hfit : o + dl ≤ n) (hdc : dl ≤ dc) (hN0 : 1 ≤ N) (hN : N ≤ 32) (hnb : nb = dl / 32) (hall : q + 4 * N * nb ≤ len) (hne : g ≠ rb.blk) (hnd : g ≠ db) (hrd : rb.blk ≠ db) (hgl : 6 ≤ w.heap.size) (hdl : dl ≤ 1099511627776) :
    Ret Tryz.prog 61 #[.iface 120 (.pointer (some ⟨rb, rb.off, none⟩)), .slice (some ⟨g, o, none⟩) dl dc, .int .i64 N] w fun v w' => v = .tuple #[.int .i64 (32 * nb : Nat), .nilIface] ∧ (∃ r, RD w' rb db dO len cap (q + 4 * N * nb : Nat) r) ∧ (∃ F, Row w' g t n F ∧ (∀ j, j < 32 * nb → F (o + j) = .int .u32 (bts (num d len) (8 * q + N * j) N : Nat)) ∧ (∀ j, j < o ∨ o + 32 * nb ≤ j → F j = f j)) ∧ Same [g, rb.blk] w w' := by
  refine Ret.enter (vs := [.iface 120 (.pointer (some ⟨rb, rb.off, none⟩)), .slice (some ⟨g, o, none⟩) dl dc, .int .i64 N]) Tryz.func61 Tryz.ntmps61 rfl rfl ?_
  refine WC.seq (WC.region ?_)
  refine WR.assign rfl rfl ?_
  refine WR.assign rfl rfl ?_
  refine WR.nil (WN.seq ?_)
  refine WC.seq (WC.region ?_)
  refine WR.move rfl rfl ?_
  refine WR.move rfl rfl ?_
  refine WR.move rfl rfl ?_
  refine WR.callF rfl rfl cf76 rfl rfl (unpackDefault rb db dO len cap g o dl dc t n q N nb r d f hr hd hF hfit hdc hN0 hN hnb hall hne hnd hrd hgl hdl) ?_
  rintro _ w1 ⟨rfl, h⟩
  refine WR.extract rfl rfl rfl ?_
  refine WR.extract rfl rfl rfl ?_
  refine WR.assign rfl rfl ?_
  refine WR.assign rfl rfl ?_
  refine WR.nil (WN.seq ?_)
  refine WC.retR rfl rfl ?_
  exact ⟨rfl, h⟩

end Go.Proofs.YthmknddfkmklfaaGreatDoor.Vm
