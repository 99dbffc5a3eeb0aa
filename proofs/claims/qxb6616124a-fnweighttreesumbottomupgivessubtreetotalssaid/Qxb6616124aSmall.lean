import Derived.Test.Qxb6616124aAtom
namespace Go.Proofs.Qxb6616124a.Tr
open Go.RowKit

/-- A slice of uint32 as the walk sees it: the first 'n' of its cells. -/
def RowIs (w : World) (a : Option Addr) (n : Nat) (f : Nat → Nat) : Prop :=
  ∀ k, k < n → ∃ blk off, a = some ⟨blk, off, none⟩ ∧ w.cell? ⟨blk, off + k, none⟩ = some (.int .u32 (f k)) ∧ f k < 2 ^ 32

theorem lt_of_cell {w : World} {a : Addr} {v : Value} (h : w.cell? a = some v) : a.block < w.heap.size := by
  rcases Nat.lt_or_ge a.block w.heap.size with h' | h'
  · exact h'
  · simp [World.cell?, Array.getElem?_eq_none h'] at h

theorem RowIs.below {w w' : World} {a : Option Addr} {n : Nat} {f : Nat → Nat} (h : RowIs w a n f) (b : Below w.heap.size w w') : RowIs w' a n f := by
  intro k hk
  obtain ⟨blk, off, ha, hc, hf⟩ := h k hk
  exact ⟨blk, off, ha, by rw [b.cell (lt_of_cell hc)]; exact hc, hf⟩

/-- What zzAtRB1 answers. -/
def at0 (n : Nat) (f : Nat → Nat) (k : Nat) : Nat := if k < n then f k else 0

theorem at8 (a : Option Addr) (n cap : Nat) (f : Nat → Nat) (k : Nat) (w : World) (h : RowIs w a n f) :
    Calls Try.prog 8 #[.slice a n cap, .int .i64 k] w fun e w' => e = .returned (.int .u64 (at0 n f k)) ∧ w' = w := by
  have k0 : (0 : Int) ≤ (k : Int) := by omega
  by_cases hk : k < n
  · obtain ⟨blk, off, rfl, hc, hf⟩ := h k hk
    have e0 : at0 n f k = f k := if_pos hk
    rw [e0]
    clear h e0
    have k1 : (k : Int) < (n : Int) := by omega
    have f0 : (0 : Int) ≤ (f k : Int) := by omega
    have f1 : (f k : Int) < 4294967296 := by omega
    go_enter Try.func8, Try.ntmps8
    go_wp2
    go_ret
    exact ⟨rfl, rfl⟩
  · have e0 : at0 n f k = 0 := if_neg hk
    rw [e0]
    clear h e0
    have k1 : ¬ (k : Int) < (n : Int) := by omega
    go_enter Try.func8, Try.ntmps8
    go_wp2
    go_ret
    exact ⟨rfl, rfl⟩

/-- What zzBytes answers. -/
def okBytes (n m : Nat) : Bool := decide (n ≤ 1048576 ∧ m ≤ 1048576 ∧ n + m ≤ 1048576)

theorem bytes4 (a b : Option Addr) (n m c d : Nat) (w : World) :
    Calls Try.prog 4 #[.slice a n c, .slice b m d] w fun e w' => e = .returned (.bool (okBytes n m)) ∧ w' = w := by
  by_cases h1 : n ≤ 1048576
  · have g1 : ¬ (1048576 : Int) < (n : Int) := by omega
    by_cases h2 : m ≤ 1048576
    · have g2 : ¬ (1048576 : Int) < (m : Int) := by omega
      by_cases h3 : n + m ≤ 1048576
      · have g3 : ¬ (1048576 : Int) < (n : Int) + (m : Int) := by omega
        rw [show okBytes n m = true by simp [okBytes, h1, h2, h3]]
        go_enter Try.func4, Try.ntmps4
        go_wp2
        go_ret
        exact ⟨rfl, rfl⟩
      · have g3 : (1048576 : Int) < (n : Int) + (m : Int) := by omega
        rw [show okBytes n m = false by simp [okBytes, h3]]
        go_enter Try.func4, Try.ntmps4
        go_wp2
        go_ret
        exact ⟨rfl, rfl⟩
    · have g2 : (1048576 : Int) < (m : Int) := by omega
      rw [show okBytes n m = false by simp [okBytes, h2]]
      go_enter Try.func4, Try.ntmps4
      go_wp2
      go_ret
      exact ⟨rfl, rfl⟩
  · have g1 : (1048576 : Int) < (n : Int) := by omega
    rw [show okBytes n m = false by simp [okBytes, h1]]
    go_enter Try.func4, Try.ntmps4
    go_wp2
    go_ret
    exact ⟨rfl, rfl⟩

def Pow (p q : Nat) : Prop := q = 2 ^ p

theorem leaves5 (n : Nat) (w : World) (hn : n ≤ 65536) :
    Calls Try.prog 5 #[.int .i64 n] w fun e w' => ∃ p q : Nat, Pow p q ∧ 0 < p ∧ p ≤ 16 ∧ e = .returned (.int .i64 q) ∧ w' = w ∧ n ≤ q := by
  go_enter Try.func5, Try.ntmps5
  go_wp2
  go_loop [3] (fun v => ∃ p : Nat, 0 < p ∧ p ≤ 16 ∧ v = .int .i64 ((2 ^ p : Nat) : Int)) (fun v => 65536 - (intOf v).toNat)
  case atStart => exact ⟨1, by omega, by omega, rfl⟩
  case round =>
    obtain ⟨p, hp0, hp, rfl⟩ := hrel
    have hpos : 0 < 2 ^ p := Nat.two_pow_pos p
    have hle : 2 ^ p ≤ 65536 := Nat.pow_le_pow_right (n := 2) (by omega) hp
    have hs : 2 ^ (p + 1) = 2 * 2 ^ p := by rw [Nat.pow_succ]; omega
    have hp16 : 2 ^ p < 65536 → p < 16 := fun h => by
      rcases Nat.lt_or_ge p 16 with h' | h'
      · exact h'
      · have : 2 ^ 16 ≤ 2 ^ p := Nat.pow_le_pow_right (by omega) h'
        omega
    have HS : Hid (2 ^ (p + 1) = 2 * 2 ^ p) := hs
    have H16 : Hid (2 ^ p < 65536 → p < 16) := hp16
    clear hs hp16
    generalize hq : 2 ^ p = q at *
    have HQ : Hid (2 ^ p = q) := hq
    clear hq
    by_cases hlt : q < n
    · have h1 : (q : Int) < (n : Int) := by omega
      go_wp2
      go_round
      case rel => exact ⟨p + 1, by omega, by have := H16.out (by omega); omega, by rw [HS.out]; go_num⟩
      case measure => simp [intOf]; omega
    · have h1 : ¬ (q : Int) < (n : Int) := by omega
      go_wp2
      go_ret
      exact ⟨p, q, HQ.out.symm, hp0, hp, rfl, rfl, by omega⟩

end Go.Proofs.Qxb6616124a.Tr
