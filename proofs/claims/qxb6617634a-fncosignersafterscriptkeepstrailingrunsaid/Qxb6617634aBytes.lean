import Derived.Test.Qxb6617634aRead
namespace Go.Proofs.Qxb6617634a.Mp
open Go.RowKit

/-- A bool is handed back. -/
def IsB (e : Ending) : Prop := e = .returned (.bool true) ∨ e = .returned (.bool false)

set_option maxHeartbeats 1000000 in
theorem bytes4 (s0 : Int) (a b : Option Addr) (n m c d : Nat) (nm : Nat → ByteArray) (vl : Nat → Bool) (sz : Nat → Int) (wt : Nat → ByteArray) (w : World) (hE : EntIs w a n nm vl) (hS : StpIs w b m sz wt) :
    Calls Try.prog 4 #[.int .u64 s0, .slice a n c, .slice b m d] w fun e w' => IsB e ∧ w' = w := by
  have HE : Hid (EntIs w a n nm vl) := hE
  have HS : Hid (StpIs w b m sz wt) := hS
  clear hE hS
  by_cases h1 : 1048576 < n
  · have g1 : (1048576 : Int) < (n : Int) := by omega
    go_enter Try.func4, Try.ntmps4
    go_wp2
    go_ret
    exact ⟨.inr rfl, rfl⟩
  have g1 : ¬ (1048576 : Int) < (n : Int) := by omega
  go_enter Try.func4, Try.ntmps4
  go_wp2
  go_loop [7, 8] (fun vt vi => ∃ t k : Nat, t ≤ 1048576 ∧ k ≤ n ∧ vt = .int .i64 t ∧ vi = .int .i64 k) (fun _ vi => n - (intOf vi).toNat)
  case atStart => exact ⟨n, 0, by omega, Nat.zero_le _, by go_num, rfl⟩
  case round =>
    obtain ⟨t, k, ht, hk, rfl, rfl⟩ := hrel
    by_cases hlt : k < n
    · obtain ⟨blk, off, rfl, c0, c1⟩ := HE.out k hlt
      have hkz : (k : Int) < (n : Int) := by omega
      generalize nm k = s at c0
      by_cases h2 : 1048576 < s.size
      · have g2 : (1048576 : Int) < (s.size : Int) := by omega
        go_wp2
        go_ret
        exact ⟨.inr rfl, rfl⟩
      · have g2 : ¬ (1048576 : Int) < (s.size : Int) := by omega
        by_cases h3 : 1048576 < t + s.size
        · have g3 : (1048576 : Int) < (t : Int) + (s.size : Int) := by omega
          go_wp2
          go_ret
          exact ⟨.inr rfl, rfl⟩
        · have g3 : ¬ (1048576 : Int) < (t : Int) + (s.size : Int) := by omega
          go_wp2
          go_round
          case rel => exact ⟨t + s.size, k + 1, by omega, by omega, by go_num, by go_num⟩
          case measure => simp [intOf]; omega
    · have hkz : ¬ (k : Int) < (n : Int) := by omega
      by_cases h4 : 1048576 < m
      · have g4 : (1048576 : Int) < (m : Int) := by omega
        go_wp2
        go_ret
        exact ⟨.inr rfl, rfl⟩
      have g4 : ¬ (1048576 : Int) < (m : Int) := by omega
      by_cases h5 : 1048576 < t + m
      · have g5 : (1048576 : Int) < (t : Int) + (m : Int) := by omega
        go_wp2
        go_ret
        exact ⟨.inr rfl, rfl⟩
      have g5 : ¬ (1048576 : Int) < (t : Int) + (m : Int) := by omega
      go_wp2
      go_loop [7, 9] (fun vt vi => ∃ t k : Nat, t ≤ 1048576 ∧ k ≤ m ∧ vt = .int .i64 t ∧ vi = .int .i64 k) (fun _ vi => m - (intOf vi).toNat)
      case atStart => exact ⟨t + m, 0, by omega, Nat.zero_le _, by go_num, rfl⟩
      case round =>
        obtain ⟨t, k, ht, hk, rfl, rfl⟩ := hrel
        by_cases hlt : k < m
        · obtain ⟨blk, off, rfl, c0, c1⟩ := HS.out k hlt
          have hkz : (k : Int) < (m : Int) := by omega
          generalize wt k = s at c1
          by_cases h2 : 1048576 < s.size
          · have g2 : (1048576 : Int) < (s.size : Int) := by omega
            go_wp2
            go_ret
            exact ⟨.inr rfl, rfl⟩
          · have g2 : ¬ (1048576 : Int) < (s.size : Int) := by omega
            by_cases h3 : 1048576 < t + s.size
            · have g3 : (1048576 : Int) < (t : Int) + (s.size : Int) := by omega
              go_wp2
              go_ret
              exact ⟨.inr rfl, rfl⟩
            · have g3 : ¬ (1048576 : Int) < (t : Int) + (s.size : Int) := by omega
              go_wp2
              go_round
              case rel => exact ⟨t + s.size, k + 1, by omega, by omega, by go_num, by go_num⟩
              case measure => simp [intOf]; omega
        · have hkz : ¬ (k : Int) < (m : Int) := by omega
          go_wp2
          go_ret
          exact ⟨.inl rfl, rfl⟩

end Go.Proofs.Qxb6617634a.Mp
