import Derived.Test.Qxb6617634aLawPP
import Derived.Test.Qxb6617634aLawPN
import Derived.Test.Qxb6617634aLawNP
import Derived.Test.Qxb6617634aLawNN
namespace Go.Proofs.Qxb6617634a.Mp
open Go.RowKit Go.Maps Go.Shelf

set_option maxHeartbeats 2000000 in
set_option maxRecDepth 100000 in
/-- More entries than 4096, or more steps: the law gives true at once. -/
theorem lawBig (s0 : Int) (a b : Option Addr) (n m c d : Nat) (nm : Nat → ByteArray) (vl : Nat → Bool) (sz : Nat → Int) (wt : Nat → ByteArray) (w : World) (hE : EntIs w a n nm vl) (hS : StpIs w b m sz wt) (hn : 4096 < n ∨ 4096 < m) :
    Calls Try.prog 3 #[.int .u64 s0, .slice a n c, .slice b m d] w fun e w' => e = .returned (.bool true) ∧ Below w.heap.size w w' := by
  have hB4 := bytes4 s0 a b n m c d nm vl sz wt w hE hS
  clear hE hS
  go_enter Try.func3, Try.ntmps3
  go_wp2_with fail
  refine hB4.mono ?_
  rintro e w' ⟨hb, hw⟩
  subst w'
  clear hB4
  rcases hb with rfl | rfl
  case inr =>
    go_wp2
    go_ret
    exact ⟨rfl, Below.refl _ _⟩
  case inl =>
    by_cases h : 4096 < n
    · have n1 : (4096 : Int) < (n : Int) := by omega
      go_wp2
      go_ret
      exact ⟨rfl, Below.refl _ _⟩
    · have n1 : ¬ (4096 : Int) < (n : Int) := by omega
      have m1 : (4096 : Int) < (m : Int) := by omega
      go_wp2
      go_ret
      exact ⟨rfl, Below.refl _ _⟩

theorem law (s0 : Int) (a b : Option Addr) (n m c d : Nat) (nm : Nat → ByteArray) (vl : Nat → Bool) (sz : Nat → Int) (wt : Nat → ByteArray) (w : World) (hE : EntIs w a n nm vl) (hS : StpIs w b m sz wt) :
    Calls Try.prog 3 #[.int .u64 s0, .slice a n c, .slice b m d] w fun e w' => e = .returned (.bool true) ∧ Below w.heap.size w w' := by
  by_cases hbig : 4096 < n ∨ 4096 < m
  · exact lawBig s0 a b n m c d nm vl sz wt w hE hS hbig
  · have hn : n ≤ 4096 := by omega
    have hm : m ≤ 4096 := by omega
    by_cases n0 : n = 0
    · by_cases m0 : m = 0
      · exact lawNN s0 a b n m c d nm vl sz wt w hE hS hn hm n0 m0
      · exact lawNP s0 a b n m c d nm vl sz wt w hE hS hn hm n0 (by omega)
    · by_cases m0 : m = 0
      · exact lawPN s0 a b n m c d nm vl sz wt w hE hS hn hm (by omega) m0
      · exact lawPP s0 a b n m c d nm vl sz wt w hE hS hn hm (by omega) (by omega)
end Go.Proofs.Qxb6617634a.Mp
