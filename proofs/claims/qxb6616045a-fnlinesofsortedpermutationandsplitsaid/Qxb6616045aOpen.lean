import Derived.Test.Qxb6616045aIn
import Derived.Deep.Matrix
namespace Go.Proofs.Qxb6616045a.Ln
open Go.ChangeShapes Go.WideShapes Go.ChangeAt Go.RowKit Go.Deep

theorem spot_none {w : World} {a : Addr} {v : Value} (h : w.cell? a = some v) : a.spot = none := by
  unfold World.cell? at h
  split at h
  · split at h
    · cases h
    · rename_i hs; simpa using hs
  · cases h

theorem open_ls {H : Type} {enc : TypeId × Value → H} {w : World} {base : Nat} {held : Bool} {fuel : Nat} {a : Option Addr} {len cap : Nat} {x : DataW H × List MemPlace}
    (h : DataW.trod enc Try.prog w base (fun _ => true) held fuel 22 [.slice a len cap] = some x) :
    ∃ rs : List Row, rs.length = len ∧ LsIs w a rs ∧ (∀ j, j < rs.length → (rs.getD j nilRow).zs.length ≤ maxLen) ∧ len ≤ maxLen := by
  rcases open_int_rows Try.underlying22 Try.underlying24 Try.underlying3 (by kernel_rfl) (by kernel_rfl) h with ⟨h0, _⟩ | ⟨ad, l, c, A, L, C, Z, hcs, hb, hl, hm, _, hx⟩
  · simp at h0
    obtain ⟨rfl, rfl, rfl⟩ := h0
    exact ⟨[], rfl, fun j hj => absurd hj (by simp), fun j hj => absurd hj (by simp), by unfold maxLen; omega⟩
  · simp at hcs
    obtain ⟨rfl, rfl, rfl⟩ := hcs
    have hat : ∀ j, j < len → ((List.range len).map (fun r => (⟨A r, C r, (Z r).take (L r)⟩ : Row))).getD j nilRow = ⟨A j, C j, (Z j).take (L j)⟩ := fun j hj => by
      simp [List.getD, hj]
    have hlen : ∀ j, j < len → ((Z j).take (L j)).length = L j := fun j hj => by
      obtain ⟨_, h1, _, h3, _⟩ := hx j (by omega)
      rw [List.length_take]; omega
    refine ⟨(List.range len).map (fun r => ⟨A r, C r, (Z r).take (L r)⟩), by simp, fun j hj => ?_, fun j hj => ?_, by omega⟩
    · have hj' : j < len := by simpa using hj
      obtain ⟨h0, h1, h2, h3, h4, h5, h6⟩ := hx j (by omega)
      rw [hat j hj']
      have hsp : ad.spot = none := by
        have := (hx 0 (by omega)).1
        exact spot_none (by simpa [Addr.add] using this)
      obtain ⟨blk, off, sp⟩ := ad
      simp only at hsp
      subst hsp
      refine ⟨blk, off, rfl, ?_, ?_⟩
      · rw [add_plain] at h0
        rw [h0]
        unfold Row.v
        simp only [hlen j hj']
      · cases hA : A j with
        | none =>
          have hC := h5 hA
          refine Or.inl ⟨rfl, ?_, hC⟩
          have : L j = 0 := by omega
          simp [this]
        | some a' =>
          refine Or.inr ⟨a', rfl, fun i hi => ?_⟩
          simp only [hlen j hj'] at hi
          rw [(h6 a' hA).2 i (by omega)]
          simp [List.getD, List.getElem?_take_of_lt hi]
    · have hj' : j < len := by simpa using hj
      obtain ⟨h0, h1, h2, h3, h4, h5, h6⟩ := hx j (by omega)
      rw [hat j hj']
      show ((Z j).take (L j)).length ≤ maxLen
      rw [hlen j hj']; omega
end Go.Proofs.Qxb6616045a.Ln
