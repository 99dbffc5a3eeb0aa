import Derived.Test.Qxb6616045aOpen
namespace Go.Proofs.Qxb6616045a.Ln
open Go.ChangeShapes Go.WideShapes Go.ChangeAt Go.RowKit Go.Deep

/-- The header's own bounds. -/
theorem open_hdr {H : Type} {enc : TypeId × Value → H} {w : World} {base : Nat} {held : Bool} {fuel : Nat} {a : Option Addr} {len cap : Nat} {x : DataW H × List MemPlace}
    (h : DataW.trod enc Try.prog w base (fun _ => true) held fuel 22 [.slice a len cap] = some x) : len ≤ cap ∧ cap ≤ maxLen ∧ (a = none → cap = 0) := by
  rcases open_int_rows Try.underlying22 Try.underlying24 Try.underlying3 (by kernel_rfl) (by kernel_rfl) h with ⟨h0, _⟩ | ⟨ad, l, c, A, L, C, Z, hcs, hb, hl, hm, _, hx⟩
  · simp at h0
    obtain ⟨rfl, rfl, rfl⟩ := h0
    exact ⟨Nat.le_refl _, Nat.zero_le _, fun _ => rfl⟩
  · simp at hcs
    obtain ⟨rfl, rfl, rfl⟩ := hcs
    exact ⟨hl, hm, fun e => by cases e⟩
end Go.Proofs.Qxb6616045a.Ln
