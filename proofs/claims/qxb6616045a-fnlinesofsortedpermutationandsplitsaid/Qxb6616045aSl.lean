import Derived.Test.Qxb6616045aMrg
import Derived.Test.Qxb6616045aMore
namespace Go.Proofs.Qxb6616045a.Ln
open Go.RowKit

theorem LsIs.take {w : World} {a : Option Addr} {rs : List Row} (h : LsIs w a rs) (k : Nat) : LsIs w a (rs.take k) := by
  intro j hj
  have hj' : j < k ∧ j < rs.length := by rw [List.length_take] at hj; omega
  obtain ⟨blk, off, h1, h2, h3⟩ := h j hj'.2
  have e : (rs.take k).getD j nilRow = rs.getD j nilRow := by simp [List.getD, List.getElem?_take_of_lt hj'.1]
  rw [e]; exact ⟨blk, off, h1, h2, h3⟩

theorem LsIs.drop {w : World} {blk off : Nat} {rs : List Row} (h : LsIs w (some ⟨blk, off, none⟩) rs) (k : Nat) : LsIs w (some ⟨blk, off + k, none⟩) (rs.drop k) := by
  intro j hj
  rw [List.length_drop] at hj
  obtain ⟨blk', off', h1, h2, h3⟩ := h (k + j) (by omega)
  simp at h1
  obtain ⟨rfl, rfl⟩ := h1
  have e : (rs.drop k).getD j nilRow = rs.getD (k + j) nilRow := by simp [List.getD]
  rw [e]; exact ⟨blk, off + k, rfl, by rw [Nat.add_assoc]; exact h2, h3⟩

theorem LsIs.empty (w : World) (a : Option Addr) : LsIs w a [] := fun j hj => absurd hj (by simp)

end Go.Proofs.Qxb6616045a.Ln
