import Derived.Test.Qxb6616045aRows
import Derived.Test.Qxb6616045aPlain
import Derived.WalkKit
import Derived.ProofKit
import Derived.OpenShut
import Derived.Deep.QuietTactic
import Derived.BigQuiet
import Derived.Deep.Draws
namespace Go.Proofs.Qxb6616045a.Ln
open Go.RowKit

/-- A slice of ints, as it lies: its header and its elements. -/
structure Row where
  ad : Option Addr
  cap : Nat
  zs : List Int

def nilRow : Row := ⟨none, 0, []⟩
def Row.v (r : Row) : Value := .slice r.ad r.zs.length r.cap

/-- The header leads to those elements. -/
def RowIs (w : World) (r : Row) : Prop :=
  (r.ad = none ∧ r.zs = [] ∧ r.cap = 0) ∨ ∃ x, r.ad = some x ∧ ∀ i, i < r.zs.length → w.cell? (x.add i) = some (.int .i64 (r.zs.getD i 0))

/-- A slice of slices of ints: the headers, and what each leads to. -/
def LsIs (w : World) (a : Option Addr) (rs : List Row) : Prop :=
  ∀ j, j < rs.length → ∃ blk off, a = some ⟨blk, off, none⟩ ∧ w.cell? ⟨blk, off + j, none⟩ = some (rs.getD j nilRow).v ∧ RowIs w (rs.getD j nilRow)

def flat (rs : List Row) : List Int := rs.flatMap Row.zs

theorem lt_of_cell {w : World} {a : Addr} {v : Value} (h : w.cell? a = some v) : a.block < w.heap.size := by
  rcases Nat.lt_or_ge a.block w.heap.size with h' | h'
  · exact h'
  · simp [World.cell?, Array.getElem?_eq_none h'] at h

theorem RowIs.below {w w' : World} {r : Row} (h : RowIs w r) (hb : Below w.heap.size w w') : RowIs w' r := by
  rcases h with h | ⟨x, h1, h2⟩
  · exact Or.inl h
  · exact Or.inr ⟨x, h1, fun i hi => by rw [hb.cell (lt_of_cell (h2 i hi))]; exact h2 i hi⟩

theorem LsIs.below {w w' : World} {a : Option Addr} {rs : List Row} (h : LsIs w a rs) (hb : Below w.heap.size w w') : LsIs w' a rs := by
  intro j hj
  obtain ⟨blk, off, h1, h2, h3⟩ := h j hj
  exact ⟨blk, off, h1, by rw [hb.cell (lt_of_cell h2)]; exact h2, h3.below hb⟩

/-- What the bound's function says: some bool, the world as it was; and if true, each length is small. -/
def SaysSmall (rs : List Row) (w : World) (e : Ending) (w' : World) : Prop := ∃ b, e = .returned (.bool b) ∧ w' = w ∧ (b = true → ∀ j, j < rs.length → (rs.getD j nilRow).zs.length ≤ 1048576)

set_option maxHeartbeats 400000 in
theorem bytes12 (a : Option Addr) (cap : Nat) (p v : Int) (rs : List Row) (w : World) (hm : rs.length ≤ 9223372036854775807) (hl : ∀ j, j < rs.length → (rs.getD j nilRow).zs.length ≤ 9223372036854775807) (hp : LsIs w a rs) :
    Calls Try.prog 12 #[.slice a rs.length cap, .int .i64 p, .int .i64 v] w fun e w' => SaysSmall rs w e w' := by
  have HP : Hid (LsIs w a rs) := hp
  have HL : Hid (∀ j, j < rs.length → (rs.getD j nilRow).zs.length ≤ 9223372036854775807) := hl
  clear hp hl
  by_cases hbig : rs.length ≤ 1048576
  case neg =>
    go_enter Try.func12, Try.ntmps12
    go_wp2
    go_ret
    exact ⟨false, rfl, rfl, fun h => by cases h⟩
  go_enter Try.func12, Try.ntmps12
  go_wp2
  go_loop [7, 8] (fun z i => ∃ k t : Nat, k ≤ rs.length ∧ i = .int .i64 k ∧ z = .int .i64 t ∧ t ≤ 1048576 ∧ Hid (∀ j, j < k → (rs.getD j nilRow).zs.length ≤ 1048576)) (fun _ i => rs.length - (intOf i).toNat)
  case atStart => exact ⟨0, rs.length, Nat.zero_le _, rfl, by simp, by omega, fun j hj => absurd hj (Nat.not_lt_zero _)⟩
  case round =>
    obtain ⟨k, t, hk, rfl, rfl, ht, HA⟩ := hrel
    by_cases hlt : k < rs.length
    · obtain ⟨blk, off, rfl, c0, _⟩ := HP.out k hlt
      have hlk := HL.out k hlt
      generalize hr : rs.getD k nilRow = r at *
      have HR : Hid (rs.getD k nilRow = r) := hr
      clear hr
      unfold Row.v at c0
      have hkz : (k : Int) < (rs.length : Int) := by omega
      by_cases h1 : 1048576 < r.zs.length
      · go_wp2
        go_ret
        exact ⟨false, rfl, rfl, fun h => by cases h⟩
      · by_cases h2 : 1048576 < t + r.zs.length
        · go_wp2
          go_ret
          exact ⟨false, rfl, rfl, fun h => by cases h⟩
        · go_wp2
          go_round
          case rel => exact ⟨k + 1, t + r.zs.length, by omega, by go_num, by go_num, by omega, fun j hj => by
            by_cases e : j = k
            · subst e; rw [HR.out]; omega
            · exact HA.out j (by omega)⟩
          case measure => simp [intOf]; omega
    · go_wp2
      go_ret
      exact ⟨true, rfl, rfl, fun _ j hj => HA.out j (by omega)⟩

set_option maxHeartbeats 400000 in
theorem bytes5 (a : Option Addr) (cap : Nat) (p : Int) (rs : List Row) (w : World) (hm : rs.length ≤ 9223372036854775807) (hl : ∀ j, j < rs.length → (rs.getD j nilRow).zs.length ≤ 9223372036854775807) (hp : LsIs w a rs) :
    Calls Try.prog 5 #[.slice a rs.length cap, .int .i64 p] w fun e w' => SaysSmall rs w e w' := by
  have HP : Hid (LsIs w a rs) := hp
  have HL : Hid (∀ j, j < rs.length → (rs.getD j nilRow).zs.length ≤ 9223372036854775807) := hl
  clear hp hl
  by_cases hbig : rs.length ≤ 1048576
  case neg =>
    go_enter Try.func5, Try.ntmps5
    go_wp2
    go_ret
    exact ⟨false, rfl, rfl, fun h => by cases h⟩
  go_enter Try.func5, Try.ntmps5
  go_wp2
  go_loop [5, 6] (fun z i => ∃ k t : Nat, k ≤ rs.length ∧ i = .int .i64 k ∧ z = .int .i64 t ∧ t ≤ 1048576 ∧ Hid (∀ j, j < k → (rs.getD j nilRow).zs.length ≤ 1048576)) (fun _ i => rs.length - (intOf i).toNat)
  case atStart => exact ⟨0, rs.length, Nat.zero_le _, rfl, by simp, by omega, fun j hj => absurd hj (Nat.not_lt_zero _)⟩
  case round =>
    obtain ⟨k, t, hk, rfl, rfl, ht, HA⟩ := hrel
    by_cases hlt : k < rs.length
    · obtain ⟨blk, off, rfl, c0, _⟩ := HP.out k hlt
      have hlk := HL.out k hlt
      generalize hr : rs.getD k nilRow = r at *
      have HR : Hid (rs.getD k nilRow = r) := hr
      clear hr
      unfold Row.v at c0
      have hkz : (k : Int) < (rs.length : Int) := by omega
      by_cases h1 : 1048576 < r.zs.length
      · go_wp2
        go_ret
        exact ⟨false, rfl, rfl, fun h => by cases h⟩
      · by_cases h2 : 1048576 < t + r.zs.length
        · go_wp2
          go_ret
          exact ⟨false, rfl, rfl, fun h => by cases h⟩
        · go_wp2
          go_round
          case rel => exact ⟨k + 1, t + r.zs.length, by omega, by go_num, by go_num, by omega, fun j hj => by
            by_cases e : j = k
            · subst e; rw [HR.out]; omega
            · exact HA.out j (by omega)⟩
          case measure => simp [intOf]; omega
    · go_wp2
      go_ret
      exact ⟨true, rfl, rfl, fun _ j hj => HA.out j (by omega)⟩
end Go.Proofs.Qxb6616045a.Ln
