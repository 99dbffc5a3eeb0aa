import Derived.Test.Qxb6616124aPre
namespace Go.Proofs.Qxb6616124a.Tr
open Go.RowKit
open Go.Proofs.Qxb6616124a.Flt (F)
open Go.Proofs.Qxb6616124a.Mt

set_option maxHeartbeats 4000000 in
set_option maxRecDepth 100000 in
theorem law3 (a0 a1 : Option Addr) (n0 n1 c0 c1 : Nat) (f0 f1 : Nat → Nat) (w : World) (r0 : RowIs w a0 n0 f0) (r1 : RowIs w a1 n1 f1) :
    Calls Try.prog 3 #[.slice a0 n0 c0, .slice a1 n1 c1] w fun e w' => e = .returned (.bool true) ∧ Below w.heap.size w w' := by
  have R0 : Hid (RowIs w a0 n0 f0) := r0
  have R1 : Hid (RowIs w a1 n1 f1) := r1
  clear r0 r1
  by_cases hok : okBytes n0 n1 = true
  · by_cases h0 : n0 ≤ 65536
    · have g0 : ¬ (65536 : Int) < (n0 : Int) := by omega
      by_cases h1 : n1 ≤ 65536
      · have g1 : ¬ (65536 : Int) < (n1 : Int) := by omega
        go_enter Try.func3, Try.ntmps3
        go_wp2_with fail
        refine (bytes4 a0 a1 n0 n1 c0 c1 _).mono ?_
        rintro e w' ⟨rfl, hw⟩
        subst w'
        by_cases hgt : n0 < n1
        · have g2 : (n0 : Int) < (n1 : Int) := by omega
          go_wp2_with fail
          refine (leaves5 n1 _ (by omega)).mono ?_
          rintro e w' ⟨p, L, hP, hp0, hp1, rfl, hw, hML⟩
          subst w'
          have HP : Hid (L = 2 ^ p) := hP
          have hL2 : 2 ≤ L := by
            have : 2 ^ 1 ≤ 2 ^ p := Nat.pow_le_pow_right (by omega) hp0
            rw [HP.out]; omega
          have hL6 : L ≤ 65536 := by
            have : 2 ^ p ≤ 2 ^ 16 := Nat.pow_le_pow_right (by omega) hp1
            rw [HP.out]; omega
          have HP0 : Hid (0 < p ∧ p ≤ 16) := ⟨hp0, hp1⟩
          clear hP hp0 hp1
          go_wp2_with fail
          refine (newBare6 L hL6 _).mono ?_
          rintro e w1 ⟨tb, nb, rfl, hnb, hT, hB⟩
          have HT : Hid (Tree w1 tb nb (2 * L) (leafs L 0 (at0 n0 f0)) (leafs L 0 (at0 n1 f1)) (fun _ => 0)) := hT.congr (fun j _ => leafs_zero L _ j) (fun j _ => leafs_zero L _ j) (fun _ _ => rfl)
          have HB : Hid (Below w.heap.size w w1) := hB
          clear hT hB
          go_wp2_with fail
          go_loopw [8] (fun v wr => ∃ k : Nat, k ≤ L ∧ v = .int .i64 k ∧ Hid (Tree wr tb nb (2 * L) (leafs L k (at0 n0 f0)) (leafs L k (at0 n1 f1)) (fun _ => 0)) ∧ Hid (Below w.heap.size w wr)) (fun v _ => L - (intOf v).toNat)
          case atStart => exact ⟨0, Nat.zero_le _, rfl, HT, HB⟩
          case round =>
            clear HT HB
            obtain ⟨k, hk, rfl, HT, HB⟩ := hrel
            by_cases hlt : k < L
            · have hkz : (k : Int) < (L : Int) := by omega
              go_wp2_with fail
              refine (at8 a0 n0 c0 f0 k _ (R0.out.below HB.out)).mono ?_
              rintro e w' ⟨rfl, hw⟩
              subst w'
              go_wp2_with fail
              refine (at8 a1 n1 c1 f1 k _ (R1.out.below HB.out)).mono ?_
              rintro e w' ⟨rfl, hw⟩
              subst w'
              go_wp2_with fail
              refine (setNode7' _ tb nb (2 * L) (L + k) (at0 n0 f0 k) (at0 n1 f1 k) _ _ _ _ HT.out (by omega) (by omega)).mono ?_
              rintro e w2 ⟨rfl, hT, hB⟩
              have HT2 : Hid (Tree w2 tb nb (2 * L) (leafs L (k + 1) (at0 n0 f0)) (leafs L (k + 1) (at0 n1 f1)) (fun _ => 0)) := hT.congr (fun j _ => leafs_put L k _ j) (fun j _ => leafs_put L k _ j) (fun _ _ => rfl)
              have HB2 : Hid (Below w.heap.size w w2) := HB.out.trans (hB _ hnb)
              clear hT hB HT HB
              go_wp2
              go_roundw
              case rel => exact ⟨k + 1, by omega, by go_num, HT2, HB2⟩
              case measure => simp [intOf]; omega
            · have hkL : k = L := by omega
              subst hkL
              have hkz : ¬ (k : Int) < (k : Int) := by omega
              rename World => w5
              have HT5 : Hid (Tree w5 tb nb (2 * k) (leafs k k (at0 n0 f0)) (leafs k k (at0 n1 f1)) (stat 1)) := HT.out.congr (fun _ _ => rfl) (fun _ _ => rfl) (fun j _ => stat_one j)
              have HB5 : Hid (Below w.heap.size w w5) := HB
              clear HT HB
              go_wp2_with fail
              go_loopw [9] (fun v wr => ∃ i : Nat, 1 ≤ i ∧ i ≤ k ∧ v = .int .i64 i ∧ Hid (Tree wr tb nb (2 * k) (leafs k k (at0 n0 f0)) (leafs k k (at0 n1 f1)) (stat i)) ∧ Hid (Below w.heap.size w wr)) (fun v _ => k - (intOf v).toNat)
              case atStart => exact ⟨1, by omega, by omega, rfl, HT5, HB5⟩
              case round =>
                clear HT5 HB5
                obtain ⟨i, hi0, hi, rfl, HT, HB⟩ := hrel
                by_cases hlt : i < k
                · have hkz : (i : Int) < (k : Int) := by omega
                  go_wp2_with fail
                  refine (setStatic9' tb nb (2 * k) i _ _ _ _ HT.out (by omega)).mono ?_
                  rintro e w2 ⟨rfl, hT, hB⟩
                  have HT2 : Hid (Tree w2 tb nb (2 * k) (leafs k k (at0 n0 f0)) (leafs k k (at0 n1 f1)) (stat (i + 1))) := hT.congr (fun _ _ => rfl) (fun _ _ => rfl) (fun j _ => stat_put i hi0 j)
                  have HB2 : Hid (Below w.heap.size w w2) := HB.out.trans (hB _ hnb)
                  clear hT hB HT HB
                  go_wp2
                  go_roundw
                  case rel => exact ⟨i + 1, by omega, by omega, by go_num, HT2, HB2⟩
                  case measure => simp [intOf]; omega
                · have hik : i = k := by omega
                  subst hik
                  rename World => w6
                  have HT6 : Hid (Tree w6 tb nb (2 * i) (sums p (i - 1) (leaf i (at0 n0 f0))) (sums p (i - 1) (leaf i (at0 n1 f1))) (stat i)) := HT.out.congr (fun j hj => sums_first p i _ HP.out j hj) (fun j hj => sums_first p i _ HP.out j hj) (fun _ _ => rfl)
                  have HB6 : Hid (Below w.heap.size w w6) := HB
                  clear HT HB
                  go_wp2_with fail
                  go_loopw [10] (fun v wr => ∃ j : Nat, j ≤ i - 1 ∧ v = .int .i64 j ∧ Hid (Tree wr tb nb (2 * i) (sums p j (leaf i (at0 n0 f0))) (sums p j (leaf i (at0 n1 f1))) (stat i)) ∧ Hid (Below w.heap.size w wr)) (fun v _ => (intOf v).toNat)
                  case atStart => exact ⟨i - 1, by omega, by congr 1; omega, HT6, HB6⟩
                  case round =>
                    clear HT6 HB6
                    obtain ⟨j, hj, rfl, HT, HB⟩ := hrel
                    by_cases hlt : 1 ≤ j
                    · have hkz : (1 : Int) ≤ (j : Int) := by omega
                      go_wp2_with fail
                      refine (sum10 tb nb (2 * i) j _ _ _ _ HT.out (by omega) (by omega) (by omega) ?c1 ?c2).mono ?_
                      case c1 =>
                        have b1 := sums_le p j (leaf i (at0 n0 f0)) (2 ^ 32) (2 * j) (fun k => at0_le w a0 n0 f0 R0.out _)
                        have b2 := sums_le p j (leaf i (at0 n0 f0)) (2 ^ 32) (2 * j + 1) (fun k => at0_le w a0 n0 f0 R0.out _)
                        rw [← HP.out] at b1 b2
                        omega
                      case c2 =>
                        have b1 := sums_le p j (leaf i (at0 n1 f1)) (2 ^ 32) (2 * j) (fun k => at0_le w a1 n1 f1 R1.out _)
                        have b2 := sums_le p j (leaf i (at0 n1 f1)) (2 ^ 32) (2 * j + 1) (fun k => at0_le w a1 n1 f1 R1.out _)
                        rw [← HP.out] at b1 b2
                        omega
                      rintro e w2 ⟨rfl, hT, hB⟩
                      have HT2 : Hid (Tree w2 tb nb (2 * i) (sums p (j - 1) (leaf i (at0 n0 f0))) (sums p (j - 1) (leaf i (at0 n1 f1))) (stat i)) := hT.congr (fun x _ => sums_put p j _ (by omega) (by rw [← HP.out]; omega) x) (fun x _ => sums_put p j _ (by omega) (by rw [← HP.out]; omega) x) (fun _ _ => rfl)
                      have HB2 : Hid (Below w.heap.size w w2) := HB.out.trans (hB _ hnb)
                      clear hT hB HT HB
                      go_wp2
                      go_roundw
                      case rel => exact ⟨j - 1, by omega, by congr 1; omega, HT2, HB2⟩
                      case measure => simp [intOf]; omega
                    · have hj0 : j = 0 := by omega
                      subst hj0
                      rename World => w7
                      have HT7 : Hid (Tree w7 tb nb (2 * i) (sums p 0 (leaf i (at0 n0 f0))) (sums p 0 (leaf i (at0 n1 f1))) (stat i)) := HT
                      have HB7 : Hid (Below w.heap.size w w7) := HB
                      clear HT HB
                      go_wp2_with fail
                      go_loopw [11] (fun v wr => ∃ x : Nat, 1 ≤ x ∧ x ≤ i ∧ v = .int .i64 x ∧ Hid (Tree wr tb nb (2 * i) (sums p 0 (leaf i (at0 n0 f0))) (sums p 0 (leaf i (at0 n1 f1))) (stat i)) ∧ Hid (Below w.heap.size w wr)) (fun v _ => i - (intOf v).toNat)
                      case atStart => exact ⟨1, by omega, by omega, rfl, HT7, HB7⟩
                      case round =>
                        clear HT7 HB7
                        obtain ⟨x, hx0, hx, rfl, HT, HB⟩ := hrel
                        rename World => w8
                        by_cases hlt : x < i
                        · have hkz : (x : Int) < (i : Int) := by omega
                          go_wp2_with fail
                          go_loop [12, 13] (fun va vb => ∃ lo hi : Nat, Hid (∃ d, lo = x * 2 ^ d ∧ hi + 1 = lo + 2 ^ d) ∧ 0 < lo ∧ lo < 2 * i ∧ hi + 1 ≤ 2 * lo ∧ va = .int .i64 lo ∧ vb = .int .i64 hi) (fun va _ => 2 * i - (intOf va).toNat)
                          case atStart => exact ⟨x, x, ⟨0, by omega, by omega⟩, by omega, by omega, by omega, rfl, rfl⟩
                          case round =>
                            obtain ⟨lo, hi, HD, hlo0, hlo1, hhi, rfl, rfl⟩ := hrel
                            by_cases hl : lo < i
                            · have hlz : (lo : Int) < (i : Int) := by omega
                              have HD2 : Hid (∃ d, 2 * lo = x * 2 ^ d ∧ 2 * hi + 1 + 1 = 2 * lo + 2 ^ d) := by
                                obtain ⟨d, e1, e2⟩ := HD.out
                                refine ⟨d + 1, ?_, ?_⟩
                                · rw [Nat.pow_succ, ← Nat.mul_assoc, ← e1]; omega
                                · rw [Nat.pow_succ]; omega
                              clear HD
                              go_wp2
                              go_round
                              case rel => exact ⟨2 * lo, 2 * hi + 1, HD2, by omega, by omega, by omega, by go_num, by go_num⟩
                              case measure => simp [intOf]; omega
                            · have hlz : ¬ (lo : Int) < (i : Int) := by omega
                              obtain ⟨c, HC, HX0, HX1, hc0, hc1⟩ : ∃ c, Hid (hi + 1 = lo + c) ∧ Hid (tot p (leaf i (at0 n0 f0)) x = rs (leaf i (at0 n0 f0)) lo c) ∧ Hid (tot p (leaf i (at0 n1 f1)) x = rs (leaf i (at0 n1 f1)) lo c) ∧ 0 < c ∧ c ≤ lo := by
                                obtain ⟨d, e1, e2⟩ := HD.out
                                have hd : d = p - x.log2 := depth_eq p x d (by omega) (by rw [← HP.out, ← e1]; omega) (by rw [← e1, Nat.pow_succ, ← HP.out]; omega)
                                refine ⟨2 ^ d, e2, ?_, ?_, Nat.two_pow_pos d, by omega⟩
                                · show rs _ (x * 2 ^ (p - x.log2)) (2 ^ (p - x.log2)) = _
                                  rw [← hd, ← e1]
                                · show rs _ (x * 2 ^ (p - x.log2)) (2 ^ (p - x.log2)) = _
                                  rw [← hd, ← e1]
                              clear HD
                              have hhc : hi + 1 = lo + c := HC.out
                              have A0 : Hid (∀ t, rs (leaf i (at0 n0 f0)) lo t ≤ t * 2 ^ 32) := rs_le (leaf i (at0 n0 f0)) (2 ^ 32) lo (fun k => at0_le w a0 n0 f0 R0.out _)
                              have A1 : Hid (∀ t, rs (leaf i (at0 n1 f1)) lo t ≤ t * 2 ^ 32) := rs_le (leaf i (at0 n1 f1)) (2 ^ 32) lo (fun k => at0_le w a1 n1 f1 R1.out _)
                              go_wp2_with fail
                              go_loop [14, 15, 16] (fun va vb vc => ∃ t : Nat, t ≤ c ∧ va = .int .u64 (rs (leaf i (at0 n0 f0)) lo t) ∧ vb = .int .u64 (rs (leaf i (at0 n1 f1)) lo t) ∧ vc = .int .i64 ((lo + t : Nat) : Int)) (fun _ _ vc => lo + c - (intOf vc).toNat)
                              case atStart => exact ⟨0, by omega, rfl, rfl, rfl⟩
                              case round =>
                                obtain ⟨t, ht, rfl, rfl, rfl⟩ := hrel
                                by_cases htc : t < c
                                · have htz : (lo : Int) + (t : Int) ≤ (hi : Int) := by omega
                                  have q0 := A0.out t
                                  have q1 := A1.out t
                                  have y0 : at0 n0 f0 (lo + t - i) ≤ 4294967296 := at0_le w a0 n0 f0 R0.out _
                                  have y1 : at0 n1 f1 (lo + t - i) ≤ 4294967296 := at0_le w a1 n1 f1 R1.out _
                                  have HE0 : Hid (rs (leaf i (at0 n0 f0)) lo (t + 1) = rs (leaf i (at0 n0 f0)) lo t + at0 n0 f0 (lo + t - i)) := rfl
                                  have HE1 : Hid (rs (leaf i (at0 n1 f1)) lo (t + 1) = rs (leaf i (at0 n1 f1)) lo t + at0 n1 f1 (lo + t - i)) := rfl
                                  generalize rs (leaf i (at0 n0 f0)) lo t = s0 at HE0 q0 ⊢
                                  generalize rs (leaf i (at0 n1 f1)) lo t = s1 at HE1 q1 ⊢
                                  have z0 : s0 ≤ 562949953421312 := by omega
                                  have z1 : s1 ≤ 562949953421312 := by omega
                                  clear q0 q1
                                  go_wp2_with fail
                                  refine (at8' _ a0 n0 c0 f0 (lo + t - i) _ (R0.out.below HB.out) (by omega)).mono ?_
                                  rintro e w' ⟨rfl, hw⟩
                                  subst w'
                                  go_wp2_with fail
                                  refine (at8' _ a1 n1 c1 f1 (lo + t - i) _ (R1.out.below HB.out) (by omega)).mono ?_
                                  rintro e w' ⟨rfl, hw⟩
                                  subst w'
                                  go_wp2
                                  go_round
                                  case rel => exact ⟨t + 1, by omega, by rw [HE0.out]; go_num, by rw [HE1.out]; go_num, by go_num⟩
                                  case measure => simp [intOf]; omega
                                · have htc' : t = c := by omega
                                  subst htc'
                                  have htz : ¬ (lo : Int) + (t : Int) ≤ (hi : Int) := by omega
                                  have q0 := A0.out t
                                  have q1 := A1.out t
                                  clear A0 A1
                                  generalize rs (leaf i (at0 n0 f0)) lo t = T0 at HX0 q0 ⊢
                                  generalize rs (leaf i (at0 n1 f1)) lo t = T1 at HX1 q1 ⊢
                                  have z0 : T0 < 2 ^ 53 := by omega
                                  have z1 : T1 < 2 ^ 53 := by omega
                                  have N0 : (FloatKind.f64.format.order (F T0) (floatOfInt .f64 (T0 : Int)) != some .eq) = false := Flt.neq_F T0 z0
                                  have N1 : (FloatKind.f64.format.order (F T1) (floatOfInt .f64 (T1 : Int)) != some .eq) = false := Flt.neq_F T1 z1
                                  have N2 : (FloatKind.f64.format.order (F x) (floatOfInt .f64 (x : Int)) != some .eq) = false := Flt.neq_F x (by omega)
                                  have X0 : Hid (sums p 0 (leaf i (at0 n0 f0)) x = T0) := (if_pos (by omega)).trans HX0.out
                                  have X1 : Hid (sums p 0 (leaf i (at0 n1 f1)) x = T1) := (if_pos (by omega)).trans HX1.out
                                  clear q0 q1 z0 z1 HX0 HX1 HC
                                  go_wp2_with fail
                                  refine (node11' tb nb (2 * i) x T0 T1 x _ _ _ _ HT.out (by omega) X0.out X1.out (stat_at x i hx0 hlt)).mono ?_
                                  rintro e w9 ⟨rfl, q, hw⟩
                                  subst w9
                                  have HT9 : Hid (Tree (w8.drewN q) tb nb (2 * i) (sums p 0 (leaf i (at0 n0 f0))) (sums p 0 (leaf i (at0 n1 f1))) (stat i)) := HT.out.drewN q
                                  have HB9 : Hid (Below w.heap.size w (w8.drewN q)) := below_drewN HB.out q
                                  clear HT HB
                                  generalize w8.drewN q = w9 at *
                                  go_wp2
                                  go_roundw
                                  case rel =>
                                    repeat apply Exists.intro
                                    exact ⟨⟨x + 1, by omega, by omega, by go_num, HT9, HB9⟩, rfl⟩
                                  case measure => simp [intOf]; omega
                        · have hkz : ¬ (x : Int) < (i : Int) := by omega
                          go_wp2
                          go_ret
                          exact ⟨rfl, HB⟩
        · have g2 : ¬ (n0 : Int) < (n1 : Int) := by omega
          go_wp2_with fail
          refine (leaves5 n0 _ (by omega)).mono ?_
          rintro e w' ⟨p, L, hP, hp0, hp1, rfl, hw, hML⟩
          subst w'
          have HP : Hid (L = 2 ^ p) := hP
          have hL2 : 2 ≤ L := by
            have : 2 ^ 1 ≤ 2 ^ p := Nat.pow_le_pow_right (by omega) hp0
            rw [HP.out]; omega
          have hL6 : L ≤ 65536 := by
            have : 2 ^ p ≤ 2 ^ 16 := Nat.pow_le_pow_right (by omega) hp1
            rw [HP.out]; omega
          have HP0 : Hid (0 < p ∧ p ≤ 16) := ⟨hp0, hp1⟩
          clear hP hp0 hp1
          go_wp2_with fail
          refine (newBare6 L hL6 _).mono ?_
          rintro e w1 ⟨tb, nb, rfl, hnb, hT, hB⟩
          have HT : Hid (Tree w1 tb nb (2 * L) (leafs L 0 (at0 n0 f0)) (leafs L 0 (at0 n1 f1)) (fun _ => 0)) := hT.congr (fun j _ => leafs_zero L _ j) (fun j _ => leafs_zero L _ j) (fun _ _ => rfl)
          have HB : Hid (Below w.heap.size w w1) := hB
          clear hT hB
          go_wp2_with fail
          go_loopw [8] (fun v wr => ∃ k : Nat, k ≤ L ∧ v = .int .i64 k ∧ Hid (Tree wr tb nb (2 * L) (leafs L k (at0 n0 f0)) (leafs L k (at0 n1 f1)) (fun _ => 0)) ∧ Hid (Below w.heap.size w wr)) (fun v _ => L - (intOf v).toNat)
          case atStart => exact ⟨0, Nat.zero_le _, rfl, HT, HB⟩
          case round =>
            clear HT HB
            obtain ⟨k, hk, rfl, HT, HB⟩ := hrel
            by_cases hlt : k < L
            · have hkz : (k : Int) < (L : Int) := by omega
              go_wp2_with fail
              refine (at8 a0 n0 c0 f0 k _ (R0.out.below HB.out)).mono ?_
              rintro e w' ⟨rfl, hw⟩
              subst w'
              go_wp2_with fail
              refine (at8 a1 n1 c1 f1 k _ (R1.out.below HB.out)).mono ?_
              rintro e w' ⟨rfl, hw⟩
              subst w'
              go_wp2_with fail
              refine (setNode7' _ tb nb (2 * L) (L + k) (at0 n0 f0 k) (at0 n1 f1 k) _ _ _ _ HT.out (by omega) (by omega)).mono ?_
              rintro e w2 ⟨rfl, hT, hB⟩
              have HT2 : Hid (Tree w2 tb nb (2 * L) (leafs L (k + 1) (at0 n0 f0)) (leafs L (k + 1) (at0 n1 f1)) (fun _ => 0)) := hT.congr (fun j _ => leafs_put L k _ j) (fun j _ => leafs_put L k _ j) (fun _ _ => rfl)
              have HB2 : Hid (Below w.heap.size w w2) := HB.out.trans (hB _ hnb)
              clear hT hB HT HB
              go_wp2
              go_roundw
              case rel => exact ⟨k + 1, by omega, by go_num, HT2, HB2⟩
              case measure => simp [intOf]; omega
            · have hkL : k = L := by omega
              subst hkL
              have hkz : ¬ (k : Int) < (k : Int) := by omega
              rename World => w5
              have HT5 : Hid (Tree w5 tb nb (2 * k) (leafs k k (at0 n0 f0)) (leafs k k (at0 n1 f1)) (stat 1)) := HT.out.congr (fun _ _ => rfl) (fun _ _ => rfl) (fun j _ => stat_one j)
              have HB5 : Hid (Below w.heap.size w w5) := HB
              clear HT HB
              go_wp2_with fail
              go_loopw [9] (fun v wr => ∃ i : Nat, 1 ≤ i ∧ i ≤ k ∧ v = .int .i64 i ∧ Hid (Tree wr tb nb (2 * k) (leafs k k (at0 n0 f0)) (leafs k k (at0 n1 f1)) (stat i)) ∧ Hid (Below w.heap.size w wr)) (fun v _ => k - (intOf v).toNat)
              case atStart => exact ⟨1, by omega, by omega, rfl, HT5, HB5⟩
              case round =>
                clear HT5 HB5
                obtain ⟨i, hi0, hi, rfl, HT, HB⟩ := hrel
                by_cases hlt : i < k
                · have hkz : (i : Int) < (k : Int) := by omega
                  go_wp2_with fail
                  refine (setStatic9' tb nb (2 * k) i _ _ _ _ HT.out (by omega)).mono ?_
                  rintro e w2 ⟨rfl, hT, hB⟩
                  have HT2 : Hid (Tree w2 tb nb (2 * k) (leafs k k (at0 n0 f0)) (leafs k k (at0 n1 f1)) (stat (i + 1))) := hT.congr (fun _ _ => rfl) (fun _ _ => rfl) (fun j _ => stat_put i hi0 j)
                  have HB2 : Hid (Below w.heap.size w w2) := HB.out.trans (hB _ hnb)
                  clear hT hB HT HB
                  go_wp2
                  go_roundw
                  case rel => exact ⟨i + 1, by omega, by omega, by go_num, HT2, HB2⟩
                  case measure => simp [intOf]; omega
                · have hik : i = k := by omega
                  subst hik
                  rename World => w6
                  have HT6 : Hid (Tree w6 tb nb (2 * i) (sums p (i - 1) (leaf i (at0 n0 f0))) (sums p (i - 1) (leaf i (at0 n1 f1))) (stat i)) := HT.out.congr (fun j hj => sums_first p i _ HP.out j hj) (fun j hj => sums_first p i _ HP.out j hj) (fun _ _ => rfl)
                  have HB6 : Hid (Below w.heap.size w w6) := HB
                  clear HT HB
                  go_wp2_with fail
                  go_loopw [10] (fun v wr => ∃ j : Nat, j ≤ i - 1 ∧ v = .int .i64 j ∧ Hid (Tree wr tb nb (2 * i) (sums p j (leaf i (at0 n0 f0))) (sums p j (leaf i (at0 n1 f1))) (stat i)) ∧ Hid (Below w.heap.size w wr)) (fun v _ => (intOf v).toNat)
                  case atStart => exact ⟨i - 1, by omega, by congr 1; omega, HT6, HB6⟩
                  case round =>
                    clear HT6 HB6
                    obtain ⟨j, hj, rfl, HT, HB⟩ := hrel
                    by_cases hlt : 1 ≤ j
                    · have hkz : (1 : Int) ≤ (j : Int) := by omega
                      go_wp2_with fail
                      refine (sum10 tb nb (2 * i) j _ _ _ _ HT.out (by omega) (by omega) (by omega) ?c1 ?c2).mono ?_
                      case c1 =>
                        have b1 := sums_le p j (leaf i (at0 n0 f0)) (2 ^ 32) (2 * j) (fun k => at0_le w a0 n0 f0 R0.out _)
                        have b2 := sums_le p j (leaf i (at0 n0 f0)) (2 ^ 32) (2 * j + 1) (fun k => at0_le w a0 n0 f0 R0.out _)
                        rw [← HP.out] at b1 b2
                        omega
                      case c2 =>
                        have b1 := sums_le p j (leaf i (at0 n1 f1)) (2 ^ 32) (2 * j) (fun k => at0_le w a1 n1 f1 R1.out _)
                        have b2 := sums_le p j (leaf i (at0 n1 f1)) (2 ^ 32) (2 * j + 1) (fun k => at0_le w a1 n1 f1 R1.out _)
                        rw [← HP.out] at b1 b2
                        omega
                      rintro e w2 ⟨rfl, hT, hB⟩
                      have HT2 : Hid (Tree w2 tb nb (2 * i) (sums p (j - 1) (leaf i (at0 n0 f0))) (sums p (j - 1) (leaf i (at0 n1 f1))) (stat i)) := hT.congr (fun x _ => sums_put p j _ (by omega) (by rw [← HP.out]; omega) x) (fun x _ => sums_put p j _ (by omega) (by rw [← HP.out]; omega) x) (fun _ _ => rfl)
                      have HB2 : Hid (Below w.heap.size w w2) := HB.out.trans (hB _ hnb)
                      clear hT hB HT HB
                      go_wp2
                      go_roundw
                      case rel => exact ⟨j - 1, by omega, by congr 1; omega, HT2, HB2⟩
                      case measure => simp [intOf]; omega
                    · have hj0 : j = 0 := by omega
                      subst hj0
                      rename World => w7
                      have HT7 : Hid (Tree w7 tb nb (2 * i) (sums p 0 (leaf i (at0 n0 f0))) (sums p 0 (leaf i (at0 n1 f1))) (stat i)) := HT
                      have HB7 : Hid (Below w.heap.size w w7) := HB
                      clear HT HB
                      go_wp2_with fail
                      go_loopw [11] (fun v wr => ∃ x : Nat, 1 ≤ x ∧ x ≤ i ∧ v = .int .i64 x ∧ Hid (Tree wr tb nb (2 * i) (sums p 0 (leaf i (at0 n0 f0))) (sums p 0 (leaf i (at0 n1 f1))) (stat i)) ∧ Hid (Below w.heap.size w wr)) (fun v _ => i - (intOf v).toNat)
                      case atStart => exact ⟨1, by omega, by omega, rfl, HT7, HB7⟩
                      case round =>
                        clear HT7 HB7
                        obtain ⟨x, hx0, hx, rfl, HT, HB⟩ := hrel
                        rename World => w8
                        by_cases hlt : x < i
                        · have hkz : (x : Int) < (i : Int) := by omega
                          go_wp2_with fail
                          go_loop [12, 13] (fun va vb => ∃ lo hi : Nat, Hid (∃ d, lo = x * 2 ^ d ∧ hi + 1 = lo + 2 ^ d) ∧ 0 < lo ∧ lo < 2 * i ∧ hi + 1 ≤ 2 * lo ∧ va = .int .i64 lo ∧ vb = .int .i64 hi) (fun va _ => 2 * i - (intOf va).toNat)
                          case atStart => exact ⟨x, x, ⟨0, by omega, by omega⟩, by omega, by omega, by omega, rfl, rfl⟩
                          case round =>
                            obtain ⟨lo, hi, HD, hlo0, hlo1, hhi, rfl, rfl⟩ := hrel
                            by_cases hl : lo < i
                            · have hlz : (lo : Int) < (i : Int) := by omega
                              have HD2 : Hid (∃ d, 2 * lo = x * 2 ^ d ∧ 2 * hi + 1 + 1 = 2 * lo + 2 ^ d) := by
                                obtain ⟨d, e1, e2⟩ := HD.out
                                refine ⟨d + 1, ?_, ?_⟩
                                · rw [Nat.pow_succ, ← Nat.mul_assoc, ← e1]; omega
                                · rw [Nat.pow_succ]; omega
                              clear HD
                              go_wp2
                              go_round
                              case rel => exact ⟨2 * lo, 2 * hi + 1, HD2, by omega, by omega, by omega, by go_num, by go_num⟩
                              case measure => simp [intOf]; omega
                            · have hlz : ¬ (lo : Int) < (i : Int) := by omega
                              obtain ⟨c, HC, HX0, HX1, hc0, hc1⟩ : ∃ c, Hid (hi + 1 = lo + c) ∧ Hid (tot p (leaf i (at0 n0 f0)) x = rs (leaf i (at0 n0 f0)) lo c) ∧ Hid (tot p (leaf i (at0 n1 f1)) x = rs (leaf i (at0 n1 f1)) lo c) ∧ 0 < c ∧ c ≤ lo := by
                                obtain ⟨d, e1, e2⟩ := HD.out
                                have hd : d = p - x.log2 := depth_eq p x d (by omega) (by rw [← HP.out, ← e1]; omega) (by rw [← e1, Nat.pow_succ, ← HP.out]; omega)
                                refine ⟨2 ^ d, e2, ?_, ?_, Nat.two_pow_pos d, by omega⟩
                                · show rs _ (x * 2 ^ (p - x.log2)) (2 ^ (p - x.log2)) = _
                                  rw [← hd, ← e1]
                                · show rs _ (x * 2 ^ (p - x.log2)) (2 ^ (p - x.log2)) = _
                                  rw [← hd, ← e1]
                              clear HD
                              have hhc : hi + 1 = lo + c := HC.out
                              have A0 : Hid (∀ t, rs (leaf i (at0 n0 f0)) lo t ≤ t * 2 ^ 32) := rs_le (leaf i (at0 n0 f0)) (2 ^ 32) lo (fun k => at0_le w a0 n0 f0 R0.out _)
                              have A1 : Hid (∀ t, rs (leaf i (at0 n1 f1)) lo t ≤ t * 2 ^ 32) := rs_le (leaf i (at0 n1 f1)) (2 ^ 32) lo (fun k => at0_le w a1 n1 f1 R1.out _)
                              go_wp2_with fail
                              go_loop [14, 15, 16] (fun va vb vc => ∃ t : Nat, t ≤ c ∧ va = .int .u64 (rs (leaf i (at0 n0 f0)) lo t) ∧ vb = .int .u64 (rs (leaf i (at0 n1 f1)) lo t) ∧ vc = .int .i64 ((lo + t : Nat) : Int)) (fun _ _ vc => lo + c - (intOf vc).toNat)
                              case atStart => exact ⟨0, by omega, rfl, rfl, rfl⟩
                              case round =>
                                obtain ⟨t, ht, rfl, rfl, rfl⟩ := hrel
                                by_cases htc : t < c
                                · have htz : (lo : Int) + (t : Int) ≤ (hi : Int) := by omega
                                  have q0 := A0.out t
                                  have q1 := A1.out t
                                  have y0 : at0 n0 f0 (lo + t - i) ≤ 4294967296 := at0_le w a0 n0 f0 R0.out _
                                  have y1 : at0 n1 f1 (lo + t - i) ≤ 4294967296 := at0_le w a1 n1 f1 R1.out _
                                  have HE0 : Hid (rs (leaf i (at0 n0 f0)) lo (t + 1) = rs (leaf i (at0 n0 f0)) lo t + at0 n0 f0 (lo + t - i)) := rfl
                                  have HE1 : Hid (rs (leaf i (at0 n1 f1)) lo (t + 1) = rs (leaf i (at0 n1 f1)) lo t + at0 n1 f1 (lo + t - i)) := rfl
                                  generalize rs (leaf i (at0 n0 f0)) lo t = s0 at HE0 q0 ⊢
                                  generalize rs (leaf i (at0 n1 f1)) lo t = s1 at HE1 q1 ⊢
                                  have z0 : s0 ≤ 562949953421312 := by omega
                                  have z1 : s1 ≤ 562949953421312 := by omega
                                  clear q0 q1
                                  go_wp2_with fail
                                  refine (at8' _ a0 n0 c0 f0 (lo + t - i) _ (R0.out.below HB.out) (by omega)).mono ?_
                                  rintro e w' ⟨rfl, hw⟩
                                  subst w'
                                  go_wp2_with fail
                                  refine (at8' _ a1 n1 c1 f1 (lo + t - i) _ (R1.out.below HB.out) (by omega)).mono ?_
                                  rintro e w' ⟨rfl, hw⟩
                                  subst w'
                                  go_wp2
                                  go_round
                                  case rel => exact ⟨t + 1, by omega, by rw [HE0.out]; go_num, by rw [HE1.out]; go_num, by go_num⟩
                                  case measure => simp [intOf]; omega
                                · have htc' : t = c := by omega
                                  subst htc'
                                  have htz : ¬ (lo : Int) + (t : Int) ≤ (hi : Int) := by omega
                                  have q0 := A0.out t
                                  have q1 := A1.out t
                                  clear A0 A1
                                  generalize rs (leaf i (at0 n0 f0)) lo t = T0 at HX0 q0 ⊢
                                  generalize rs (leaf i (at0 n1 f1)) lo t = T1 at HX1 q1 ⊢
                                  have z0 : T0 < 2 ^ 53 := by omega
                                  have z1 : T1 < 2 ^ 53 := by omega
                                  have N0 : (FloatKind.f64.format.order (F T0) (floatOfInt .f64 (T0 : Int)) != some .eq) = false := Flt.neq_F T0 z0
                                  have N1 : (FloatKind.f64.format.order (F T1) (floatOfInt .f64 (T1 : Int)) != some .eq) = false := Flt.neq_F T1 z1
                                  have N2 : (FloatKind.f64.format.order (F x) (floatOfInt .f64 (x : Int)) != some .eq) = false := Flt.neq_F x (by omega)
                                  have X0 : Hid (sums p 0 (leaf i (at0 n0 f0)) x = T0) := (if_pos (by omega)).trans HX0.out
                                  have X1 : Hid (sums p 0 (leaf i (at0 n1 f1)) x = T1) := (if_pos (by omega)).trans HX1.out
                                  clear q0 q1 z0 z1 HX0 HX1 HC
                                  go_wp2_with fail
                                  refine (node11' tb nb (2 * i) x T0 T1 x _ _ _ _ HT.out (by omega) X0.out X1.out (stat_at x i hx0 hlt)).mono ?_
                                  rintro e w9 ⟨rfl, q, hw⟩
                                  subst w9
                                  have HT9 : Hid (Tree (w8.drewN q) tb nb (2 * i) (sums p 0 (leaf i (at0 n0 f0))) (sums p 0 (leaf i (at0 n1 f1))) (stat i)) := HT.out.drewN q
                                  have HB9 : Hid (Below w.heap.size w (w8.drewN q)) := below_drewN HB.out q
                                  clear HT HB
                                  generalize w8.drewN q = w9 at *
                                  go_wp2
                                  go_roundw
                                  case rel =>
                                    repeat apply Exists.intro
                                    exact ⟨⟨x + 1, by omega, by omega, by go_num, HT9, HB9⟩, rfl⟩
                                  case measure => simp [intOf]; omega
                        · have hkz : ¬ (x : Int) < (i : Int) := by omega
                          go_wp2
                          go_ret
                          exact ⟨rfl, HB⟩
      · have g1 : (65536 : Int) < (n1 : Int) := by omega
        go_enter Try.func3, Try.ntmps3
        go_wp2_with (go_at_call 4; refine (bytes4 a0 a1 n0 n1 c0 c1 _).mono ?_; rintro e w' ⟨rfl, hw⟩; subst w')
        go_ret
        exact ⟨rfl, Below.refl _ _⟩
    · have g0 : (65536 : Int) < (n0 : Int) := by omega
      go_enter Try.func3, Try.ntmps3
      go_wp2_with (go_at_call 4; refine (bytes4 a0 a1 n0 n1 c0 c1 _).mono ?_; rintro e w' ⟨rfl, hw⟩; subst w')
      go_ret
      exact ⟨rfl, Below.refl _ _⟩
  · have hok : okBytes n0 n1 = false := by simpa using hok
    go_enter Try.func3, Try.ntmps3
    go_wp2_with (go_at_call 4; refine (bytes4 a0 a1 n0 n1 c0 c1 _).mono ?_; rintro e w' ⟨rfl, hw⟩; subst w')
    go_ret
    exact ⟨rfl, Below.refl _ _⟩

end Go.Proofs.Qxb6616124a.Tr
