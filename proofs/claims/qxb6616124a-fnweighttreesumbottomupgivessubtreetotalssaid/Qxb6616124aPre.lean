import Derived.Test.Qxb6616124aNew
import Derived.Test.Qxb6616124aSmall
import Derived.Test.Qxb6616124aMath
namespace Go.Proofs.Qxb6616124a.Tr
open Go.RowKit
open Go.Proofs.Qxb6616124a.Flt (F)
open Go.Proofs.Qxb6616124a.Mt

theorem Tree.congr {w : World} {tb nb N : Nat} {m u s m' u' s' : Nat → Nat} (h : Tree w tb nb N m u s) (hm : ∀ j, j < N → m' j = m j) (hu : ∀ j, j < N → u' j = u j) (hs : ∀ j, j < N → s' j = s j) : Tree w tb nb N m' u' s' :=
  ⟨h.ne, h.hd, fun j hj => by rw [hm j hj]; exact h.cm j hj, fun j hj => by rw [hu j hj]; exact h.cu j hj, fun j hj => by rw [hs j hj]; exact h.cs j hj, h.fr⟩

/-- The leaves, k of them filled. -/
def leafs (L k : Nat) (f : Nat → Nat) : Nat → Nat := fun j => if L ≤ j ∧ j < L + k then f (j - L) else 0
/-- The static numbers, set below i. -/
def stat (i : Nat) : Nat → Nat := fun j => if 1 ≤ j ∧ j < i then j else 0
/-- The sums, worked out above i. -/
def sums (p i : Nat) (g : Nat → Nat) : Nat → Nat := fun j => if i < j then tot p g j else 0
/-- The leaf that lies at node j. -/
def leaf (L : Nat) (f : Nat → Nat) : Nat → Nat := fun j => f (j - L)

theorem leafs_zero (L : Nat) (f : Nat → Nat) (j : Nat) : leafs L 0 f j = 0 := if_neg (by omega)
theorem leafs_put (L k : Nat) (f : Nat → Nat) (j : Nat) : leafs L (k + 1) f j = put (leafs L k f) (L + k) (f k) j := by
  show (if L ≤ j ∧ j < L + (k + 1) then f (j - L) else 0) = if j = L + k then f k else if L ≤ j ∧ j < L + k then f (j - L) else 0
  by_cases h : j = L + k
  · subst h; rw [if_pos (by omega), if_pos rfl]; congr 1; omega
  · rw [if_neg h]
    by_cases h2 : L ≤ j ∧ j < L + k
    · rw [if_pos h2, if_pos (by omega)]
    · rw [if_neg h2, if_neg (by omega)]
theorem stat_one (j : Nat) : stat 1 j = 0 := if_neg (by omega)
theorem stat_put (i : Nat) (hi : 1 ≤ i) (j : Nat) : stat (i + 1) j = put (stat i) i i j := by
  show (if 1 ≤ j ∧ j < i + 1 then j else 0) = if j = i then i else if 1 ≤ j ∧ j < i then j else 0
  by_cases h : j = i
  · subst h; rw [if_pos (by omega), if_pos rfl]
  · rw [if_neg h]
    by_cases h2 : 1 ≤ j ∧ j < i
    · rw [if_pos h2, if_pos (by omega)]
    · rw [if_neg h2, if_neg (by omega)]
theorem stat_at (i L : Nat) (h : 1 ≤ i) (h2 : i < L) : stat L i = i := if_pos ⟨h, h2⟩
theorem sums_first (p L : Nat) (f : Nat → Nat) (hL : L = 2 ^ p) (j : Nat) (hj : j < 2 * L) : sums p (L - 1) (leaf L f) j = leafs L L f j := by
  have hpos : 0 < L := by rw [hL]; exact Nat.two_pow_pos p
  unfold sums leafs
  by_cases h : L ≤ j
  · rw [if_pos (by omega), if_pos (by omega), tot_leaf p _ j (by omega) (by rw [Nat.pow_succ]; omega)]; rfl
  · rw [if_neg (by omega), if_neg (by omega)]
theorem sums_put (p i : Nat) (g : Nat → Nat) (hi : 0 < i) (h : i < 2 ^ p) (j : Nat) : sums p (i - 1) g j = put (sums p i g) i (sums p i g (2 * i) + sums p i g (2 * i + 1)) j := by
  have e1 : sums p i g (2 * i) = tot p g (2 * i) := if_pos (by omega)
  have e2 : sums p i g (2 * i + 1) = tot p g (2 * i + 1) := if_pos (by omega)
  rw [e1, e2, ← tot_step p g i hi h]
  show (if i - 1 < j then tot p g j else 0) = if j = i then tot p g i else if i < j then tot p g j else 0
  by_cases hj : j = i
  · subst hj; rw [if_pos (by omega), if_pos rfl]
  · rw [if_neg hj]
    by_cases h2 : i < j
    · rw [if_pos h2, if_pos (by omega)]
    · rw [if_neg h2, if_neg (by omega)]
theorem sums_le (p i : Nat) (g : Nat → Nat) (C j : Nat) (h : ∀ k, g k ≤ C) : sums p i g j ≤ 2 ^ p * C := by
  unfold sums
  split
  · exact tot_le p g C j h
  · exact Nat.zero_le _

theorem at0_le (w : World) (a : Option Addr) (n : Nat) (f : Nat → Nat) (h : RowIs w a n f) (k : Nat) : at0 n f k ≤ 2 ^ 32 := by
  unfold at0
  split
  · rename_i hk
    obtain ⟨_, _, _, _, hf⟩ := h k hk
    omega
  · exact Nat.zero_le _

theorem setNode7' (iz : Int) (tb nb N i vm vu : Nat) (m u s : Nat → Nat) (w : World) (h : Tree w tb nb N m u s) (hi : i < N) (hz : iz = (i : Int)) :
    Calls Try.prog 7 #[.pointer (some ⟨tb, 0, none⟩), .int .i64 iz, .float .f64 (floatOfInt .f64 (vm : Int)), .float .f64 (floatOfInt .f64 (vu : Int))] w fun e w' =>
      e = .returned (.tuple #[]) ∧ Tree w' tb nb N (put m i vm) (put u i vu) s ∧ ∀ B, B ≤ nb → Below B w w' := by
  subst hz; exact setNode7 tb nb N i vm vu m u s w h hi

theorem setStatic9' (tb nb N i : Nat) (m u s : Nat → Nat) (w : World) (h : Tree w tb nb N m u s) (hi : i < N) :
    Calls Try.prog 9 #[.pointer (some ⟨tb, 0, none⟩), .int .i64 i, .float .f64 (floatOfInt .f64 (i : Int))] w fun e w' =>
      e = .returned (.tuple #[]) ∧ Tree w' tb nb N m u (put s i i) ∧ ∀ B, B ≤ nb → Below B w w' := setStatic9 tb nb N i i m u s w h hi

theorem node11' (tb nb N i x y z : Nat) (m u s : Nat → Nat) (w : World) (h : Tree w tb nb N m u s) (hi : i < N) (hx : m i = x) (hy : u i = y) (hz : s i = z) :
    Calls Try.prog 11 #[.pointer (some ⟨tb, 0, none⟩), .int .i64 i] w fun e w' =>
      e = .returned (.tuple #[.float .f64 (F x), .float .f64 (F y), .float .f64 (F z)]) ∧ ∃ q, w' = w.drewN q := by
  subst hx hy hz; exact node11 tb nb N i m u s w h hi

theorem at8' (kz : Int) (a : Option Addr) (n cap : Nat) (f : Nat → Nat) (k : Nat) (w : World) (h : RowIs w a n f) (hz : kz = (k : Int)) :
    Calls Try.prog 8 #[.slice a n cap, .int .i64 kz] w fun e w' => e = .returned (.int .u64 (at0 n f k)) ∧ w' = w := by
  subst hz; exact at8 a n cap f k w h

end Go.Proofs.Qxb6616124a.Tr
