/-
  DERIVED (proof work on the seat Qxb6616124a). WHOLE NUMBERS BELOW 2^53 AS DOUBLES: their bits, that '+' on them is exact, that each is equal to itself.
-/
import Derived.Laws.FloatArith
namespace Go.Proofs.Qxb6616124a.Flt
open Go

/-- The bits of the double that stands for n. -/
def F (n : Nat) : Nat := floatOfInt .f64 (n : Int)

theorem F_near (n : Nat) : F n = Ieee.double.nearest false n 0 := by
  have h : decide ((n : Int) < 0) = false := by simp
  simp only [F, floatOfInt, FloatKind.nearest, Ieee.Format.write, FloatKind.encode, FloatKind.format, h, Int.natAbs_natCast]

theorem mul_pos_pow (m d : Nat) (hm : 0 < m) : 0 < m * 2 ^ d := Nat.mul_pos hm (Nat.two_pow_pos d)

theorem cut_exact (m d : Nat) (hm : 0 < m) : Ieee.Toward.even.cut false (m * 2 ^ d) d = m := by
  have hne : m * 2 ^ d ≠ 0 := Nat.pos_iff_ne_zero.1 (mul_pos_pow m d hm)
  have hl : d ≤ (m * 2 ^ d).log2 := (Nat.le_log2 hne).2 (Nat.le_mul_of_pos_left _ hm)
  have hmin : min d ((m * 2 ^ d).log2 + 2) = d := by omega
  have hp : 0 < 2 ^ d := Nat.two_pow_pos d
  unfold Ieee.Toward.cut
  simp only [hmin, Nat.one_shiftLeft]
  rw [Nat.mul_div_cancel _ hp, Nat.mul_mod_left]
  simp

theorem log2_mul_pow (m s : Nat) (hm : 0 < m) : (m * 2 ^ s).log2 = m.log2 + s := by
  have hne : m * 2 ^ s ≠ 0 := Nat.pos_iff_ne_zero.1 (mul_pos_pow m s hm)
  have hm0 : m ≠ 0 := Nat.pos_iff_ne_zero.1 hm
  rw [Nat.log2_eq_iff hne]
  have h := (Nat.log2_eq_iff hm0).1 rfl
  constructor
  · rw [Nat.pow_add]; exact Nat.mul_le_mul_right _ h.1
  · rw [show m.log2 + s + 1 = m.log2 + 1 + s by omega, Nat.pow_add]
    exact Nat.mul_lt_mul_of_pos_right h.2 (Nat.two_pow_pos s)

/-- The rung of a number n, 0 < n < 2^53, however far it is scaled. -/
theorem nearest_scaled (n s : Nat) (hn : 0 < n) (hl : n < 2 ^ 53) :
    Ieee.double.nearest false (n * 2 ^ s) (-(s : Int)) = (n.log2 + 1022) * 2 ^ 52 + n * 2 ^ (52 - n.log2) := by
  have hn0 : n ≠ 0 := Nat.pos_iff_ne_zero.1 hn
  have hL : n.log2 < 53 := (Nat.log2_lt hn0).2 hl
  have hlog := log2_mul_pow n s hn
  have hne : n * 2 ^ s ≠ 0 := Nat.pos_iff_ne_zero.1 (mul_pos_pow n s hn)
  have hlp : Ieee.double.leastPlace = -1074 := by decide
  have hfb : Ieee.double.fractionBits = 52 := rfl
  have hbin : Ieee.double.binade = 2 ^ 52 := rfl
  have hinf : Ieee.double.infRung = 2047 * 2 ^ 52 := rfl
  have hlast : max (-(s : Int) + ((n * 2 ^ s).log2 : Nat) - (52 : Nat)) (-1074) = (n.log2 : Int) - 52 := by
    rw [hlog]; omega
  have hcut : Ieee.Toward.even.cut false ((n * 2 ^ s) <<< (-(s : Int) - ((n.log2 : Int) - 52)).toNat) (((n.log2 : Int) - 52) - (-(s : Int))).toNat = n * 2 ^ (52 - n.log2) := by
    by_cases h : s ≤ 52 - n.log2
    · have e1 : (-(s : Int) - ((n.log2 : Int) - 52)).toNat = 52 - n.log2 - s := by omega
      have e2 : (((n.log2 : Int) - 52) - (-(s : Int))).toNat = 0 := by omega
      rw [e1, e2, Nat.shiftLeft_eq, Nat.mul_assoc, ← Nat.pow_add, show s + (52 - n.log2 - s) = 52 - n.log2 by omega]
      simpa using cut_exact (n * 2 ^ (52 - n.log2)) 0 (mul_pos_pow n _ hn)
    · have e1 : (-(s : Int) - ((n.log2 : Int) - 52)).toNat = 0 := by omega
      have e2 : (((n.log2 : Int) - 52) - (-(s : Int))).toNat = s - (52 - n.log2) := by omega
      rw [e1, e2, Nat.shiftLeft_zero]
      have e3 : n * 2 ^ s = n * 2 ^ (52 - n.log2) * 2 ^ (s - (52 - n.log2)) := by
        rw [Nat.mul_assoc, ← Nat.pow_add]; congr 2; omega
      rw [e3]
      exact cut_exact _ _ (mul_pos_pow n _ hn)
  unfold Ieee.Format.nearest
  rw [if_neg hne]
  simp only [hfb, hlp, hbin, hinf]
  rw [hlast, hcut]
  have e4 : ((n.log2 : Int) - 52 - -1074).toNat = n.log2 + 1022 := by omega
  rw [e4]
  unfold Ieee.Format.word
  simp only [Bool.false_eq_true, if_false]
  have hup : n * 2 ^ (52 - n.log2) < 2 ^ 53 := by
    have h := ((Nat.log2_eq_iff hn0).1 rfl).2
    have : n * 2 ^ (52 - n.log2) < 2 ^ (n.log2 + 1) * 2 ^ (52 - n.log2) := Nat.mul_lt_mul_of_pos_right h (Nat.two_pow_pos _)
    rw [← Nat.pow_add, show n.log2 + 1 + (52 - n.log2) = 53 by omega] at this
    exact this
  clear hcut hlast hlog hinf hbin e4
  have hle : (n.log2 + 1022) * 2 ^ 52 + n * 2 ^ (52 - n.log2) ≤ 2047 * 2 ^ 52 := by
    generalize n * 2 ^ (52 - n.log2) = m at *
    omega
  rw [Nat.min_def, if_pos hle]

theorem F_eq (n : Nat) (hn : 0 < n) (hl : n < 2 ^ 53) : F n = (n.log2 + 1022) * 2 ^ 52 + n * 2 ^ (52 - n.log2) := by
  rw [F_near]
  simpa using nearest_scaled n 0 hn hl

theorem F_scaled (n s : Nat) (hn : 0 < n) (hl : n < 2 ^ 53) : Ieee.double.nearest false (n * 2 ^ s) (-(s : Int)) = F n := by
  rw [nearest_scaled n s hn hl, F_eq n hn hl]

theorem F_zero : F 0 = 0 := by decide

theorem read_zero : Ieee.double.read 0 = .number false 0 (-1074) := by decide

/-- What the word of n stands for: n, scaled. -/
theorem read_F (n : Nat) (hl : n < 2 ^ 53) : ∃ s : Nat, Ieee.double.read (F n) = .number false (n * 2 ^ s) (-(s : Int)) := by
  by_cases h0 : n = 0
  · subst h0
    have key : ∀ s : Nat, s = 1074 → Ieee.double.read (F 0) = .number false (0 * 2 ^ s) (-(s : Int)) := by
      intro s hs; rw [F_zero, read_zero, Nat.zero_mul, hs]; rfl
    obtain ⟨s, hs⟩ : ∃ s : Nat, s = 1074 := ⟨_, rfl⟩
    exact ⟨s, key s hs⟩
  have hn : 0 < n := Nat.pos_of_ne_zero h0
  have hL : n.log2 < 53 := (Nat.log2_lt h0).2 hl
  have hlo : 2 ^ 52 ≤ n * 2 ^ (52 - n.log2) := by
    have h := ((Nat.log2_eq_iff h0).1 rfl).1
    have : 2 ^ n.log2 * 2 ^ (52 - n.log2) ≤ n * 2 ^ (52 - n.log2) := Nat.mul_le_mul_right _ h
    rw [← Nat.pow_add, show n.log2 + (52 - n.log2) = 52 by omega] at this
    exact this
  have hup : n * 2 ^ (52 - n.log2) < 2 ^ 53 := by
    have h := ((Nat.log2_eq_iff h0).1 rfl).2
    have : n * 2 ^ (52 - n.log2) < 2 ^ (n.log2 + 1) * 2 ^ (52 - n.log2) := Nat.mul_lt_mul_of_pos_right h (Nat.two_pow_pos _)
    rw [← Nat.pow_add, show n.log2 + 1 + (52 - n.log2) = 53 by omega] at this
    exact this
  refine ⟨52 - n.log2, ?_⟩
  have hF := F_eq n hn hl
  generalize hm : n * 2 ^ (52 - n.log2) = m at *
  have hlp : Ieee.double.leastPlace = -1074 := by decide
  have hbin : Ieee.double.binade = 2 ^ 52 := rfl
  have hinf : Ieee.double.infRung = 2047 * 2 ^ 52 := rfl
  have hsw : Ieee.double.signWeight = 2 ^ 63 := rfl
  have hd : F n / 2 ^ 63 % 2 = 0 := by rw [hF]; omega
  have hr : F n % 2 ^ 63 = F n := by rw [hF]; omega
  have hq : F n / 2 ^ 52 = n.log2 + 1023 := by rw [hF]; omega
  have hmod : F n % 2 ^ 52 = m - 2 ^ 52 := by rw [hF]; omega
  unfold Ieee.Format.read
  simp only [hlp, hbin, hinf, hsw, hr, hq, hmod, hd]
  have g1 : ¬ F n < 2 ^ 52 := by rw [hF]; omega
  have g2 : F n < 2047 * 2 ^ 52 := by rw [hF]; omega
  have c1 : 2 ^ 52 + (m - 2 ^ 52) = m := by omega
  have c2 : (-1074 + ((n.log2 + 1023 - 1 : Nat) : Int)) = -((52 - n.log2 : Nat) : Int) := by omega
  rw [if_neg g1, if_pos g2, c1, c2]
  rfl

theorem F_lt (n : Nat) : F n < 2 ^ 64 := by
  rw [F_near]; exact Ieee.Format.nearest_lt Ieee.double false n 0

theorem add_F (a b : Nat) (h : a + b < 2 ^ 53) : floatBits .add .f64 (F a) (F b) = some (F (a + b)) := by
  obtain ⟨s, hs⟩ := read_F a (by omega)
  obtain ⟨t, ht⟩ := read_F b (by omega)
  show Ieee.double.add (F a) (F b) = some (F (a + b))
  unfold Ieee.Format.add
  rw [hs, ht]
  have hbase : min (-(s : Int)) (-(t : Int)) = -((max s t : Nat) : Int) := by omega
  have e1 : (-(s : Int) - -((max s t : Nat) : Int)).toNat = max s t - s := by omega
  have e2 : (-(t : Int) - -((max s t : Nat) : Int)).toNat = max s t - t := by omega
  have e3 : a * 2 ^ s * 2 ^ (max s t - s) = a * 2 ^ max s t := by
    rw [Nat.mul_assoc, ← Nat.pow_add]; congr 2; omega
  have e4 : b * 2 ^ t * 2 ^ (max s t - t) = b * 2 ^ max s t := by
    rw [Nat.mul_assoc, ← Nat.pow_add]; congr 2; omega
  have htot : Ieee.signed false (a * 2 ^ s) (max s t - s) + Ieee.signed false (b * 2 ^ t) (max s t - t) = (((a + b) * 2 ^ max s t : Nat) : Int) := by
    simp only [Ieee.signed, Bool.false_eq_true, if_false, Nat.shiftLeft_eq, e3, e4]
    rw [Nat.add_mul]; omega
  simp only [Ieee.Datum.sum, hbase, e1, e2, htot, Option.map_some, Ieee.Format.write, Int.natAbs_natCast]
  have hneg : (if (((a + b) * 2 ^ max s t : Nat) : Int) = 0 then (false && false) else decide ((((a + b) * 2 ^ max s t : Nat) : Int) < 0)) = false := by
    split
    · rfl
    · exact decide_eq_false (by omega)
  rw [hneg]
  by_cases h0 : a + b = 0
  · rw [h0]
    simp [Ieee.Format.nearest, Ieee.Format.word, F_zero]
  · rw [F_scaled (a + b) _ (Nat.pos_of_ne_zero h0) h]

theorem order_F (a : Nat) (h : a < 2 ^ 53) : Ieee.double.order (F a) (F a) = some .eq := by
  obtain ⟨s, hs⟩ := read_F a h
  unfold Ieee.Format.order
  rw [hs]
  simp [Ieee.Datum.order]

theorem neq_F (a : Nat) (h : a < 2 ^ 53) : (FloatKind.f64.format.order (F a) (F a) != some .eq) = false := by
  show (Ieee.double.order (F a) (F a) != some .eq) = false
  rw [order_F a h]; rfl

end Go.Proofs.Qxb6616124a.Flt
