import Derived.Test.Qxb6616008aPend
import Derived.Deep.Slices
namespace Go.Proofs.Qxb6616008a.Pos
open Go.ChangeShapes Go.WideShapes Go.ChangeAt Go.RowKit Go.Deep

theorem cells22 : Try.prog.cellsOf 22 = 1 := by kernel_rfl
theorem cells33 : Try.prog.cellsOf 33 = 5 := by kernel_rfl
theorem cells2 : Try.prog.cellsOf 2 = 1 := by kernel_rfl
theorem cells3 : Try.prog.cellsOf 3 = 1 := by kernel_rfl
theorem cells4 : Try.prog.cellsOf 4 = 1 := by kernel_rfl

theorem spot_none {w : World} {a : Addr} {v : Value} (h : w.cell? a = some v) : a.spot = none := by
  unfold World.cell? at h
  split at h
  · split at h
    · cases h
    · rename_i hs; simpa using hs
  · cases h

set_option maxRecDepth 100000 in
theorem open_pend {H : Type} {enc : TypeId × Value → H} {w : World} {base : Nat} {spare : Nat → Bool} {held : Bool} {fuel : Nat} {a : Option Addr} {len cap : Nat} {x : DataW H × List MemPlace}
    (h : DataW.trod enc Try.prog w base spare held fuel 22 [.slice a len cap] = some x) : ∃ rs : List Rec, rs.length = len ∧ PendIs w a rs ∧ len ≤ maxLen := by
  rcases open_slice Try.underlying22 h with ⟨h0, _⟩ | ⟨ad, l, c, m, n, D, Pl, hcs, hb, hl, hm, hmm, _, hx⟩
  · simp at h0
    obtain ⟨rfl, rfl, rfl⟩ := h0
    exact ⟨[], rfl, fun j hj => absurd hj (by simp), by unfold maxLen; omega⟩
  · simp at hcs
    obtain ⟨rfl, rfl, rfl⟩ := hcs
    have hlm : len ≤ m := by rw [hmm]; split <;> omega
    have each : ∀ i, i < len → ∃ r : Rec, w.cell? (ad.add (i * 5)) = some (.int .i64 r.ai) ∧ w.cell? (ad.add (i * 5 + 1)) = some (.int .i64 r.ao) ∧ w.cell? (ad.add (i * 5 + 2)) = some (.int .i64 r.ei) ∧
        w.cell? (ad.add (i * 5 + 3)) = some (.int .i64 r.eo) ∧ w.cell? (ad.add (i * 5 + 4)) = some (.bool r.st) := by
      intro i hi
      obtain ⟨cs', h1, h2⟩ := hx i (by omega)
      rw [cells33] at h1
      obtain ⟨_, hlen, hcell⟩ := World.cells?_some h1
      obtain ⟨xs, k, hk, hxy, _, hxl, hf⟩ := DataW.trod_struct Try.underlying33 h2
      match xs, hxl, cs', hlen with
      | [y0, y1, y2, y3, y4], _, [v0, v1, v2, v3, v4], _ =>
        have g0 := hf 0 _ rfl
        have g1 := hf 1 _ rfl
        have g2 := hf 2 _ rfl
        have g3 := hf 3 _ rfl
        have g4 := hf 4 _ rfl
        simp [cells2, cells3, cells4] at g0 g1 g2 g3 g4
        obtain ⟨z0, e0, _⟩ := DataW.trod_int Try.underlying3 g0
        obtain ⟨z1, e1, _⟩ := DataW.trod_int Try.underlying2 g1
        obtain ⟨z2, e2, _⟩ := DataW.trod_int Try.underlying3 g2
        obtain ⟨z3, e3, _⟩ := DataW.trod_int Try.underlying2 g3
        obtain ⟨z4, e4, _⟩ := DataW.trod_bool Try.underlying4 g4
        simp at e0 e1 e2 e3 e4
        subst e0 e1 e2 e3 e4
        have c0 := hcell 0 (by omega)
        have c1 := hcell 1 (by omega)
        have c2 := hcell 2 (by omega)
        have c3 := hcell 3 (by omega)
        have c4 := hcell 4 (by omega)
        rw [add_add] at c0 c1 c2 c3 c4
        exact ⟨⟨z0, z1, z2, z3, z4⟩, by simpa using c0, by simpa using c1, by simpa using c2, by simpa using c3, by simpa using c4⟩
    have hall : ∃ rs : List Rec, rs.length = len ∧ ∀ i, i < len → w.cell? (ad.add (i * 5)) = some (.int .i64 (rs.getD i zero).ai) ∧ w.cell? (ad.add (i * 5 + 1)) = some (.int .i64 (rs.getD i zero).ao) ∧
        w.cell? (ad.add (i * 5 + 2)) = some (.int .i64 (rs.getD i zero).ei) ∧ w.cell? (ad.add (i * 5 + 3)) = some (.int .i64 (rs.getD i zero).eo) ∧ w.cell? (ad.add (i * 5 + 4)) = some (.bool (rs.getD i zero).st) := by
      have : ∀ l, l ≤ len → ∃ rs : List Rec, rs.length = l ∧ ∀ i, i < l → w.cell? (ad.add (i * 5)) = some (.int .i64 (rs.getD i zero).ai) ∧ w.cell? (ad.add (i * 5 + 1)) = some (.int .i64 (rs.getD i zero).ao) ∧
        w.cell? (ad.add (i * 5 + 2)) = some (.int .i64 (rs.getD i zero).ei) ∧ w.cell? (ad.add (i * 5 + 3)) = some (.int .i64 (rs.getD i zero).eo) ∧ w.cell? (ad.add (i * 5 + 4)) = some (.bool (rs.getD i zero).st) := by
        intro l
        induction l with
        | zero => exact fun _ => ⟨[], rfl, fun i hi => absurd hi (Nat.not_lt_zero _)⟩
        | succ l ih =>
          intro hl'
          obtain ⟨rs, e, hr⟩ := ih (by omega)
          obtain ⟨r, hr'⟩ := each l (by omega)
          refine ⟨rs ++ [r], by simp [e], fun i hi => ?_⟩
          by_cases hil : i < l
          · have : (rs ++ [r]).getD i zero = rs.getD i zero := by simp [List.getD, List.getElem?_append_left (by omega : i < rs.length)]
            rw [this]; exact hr i hil
          · have hi' : i = l := by omega
            subst hi'
            have : (rs ++ [r]).getD i zero = r := by rw [← e]; simp [List.getD]
            rw [this]; exact hr'
      exact this len (Nat.le_refl _)
    obtain ⟨rs, e, hr⟩ := hall
    refine ⟨rs, e, fun j hj => ?_, by omega⟩
    have hsp : ad.spot = none := by
      have := (hr 0 (by omega)).1
      simpa using spot_none (by simpa [Addr.add] using this)
    obtain ⟨blk, off, sp⟩ := ad
    simp only at hsp
    subst hsp
    obtain ⟨k0, k1, k2, k3, k4⟩ := hr j (by omega)
    rw [add_plain] at k0 k1 k2 k3 k4
    exact ⟨blk, off, rfl, k0, by simpa [Nat.add_assoc] using k1, by simpa [Nat.add_assoc] using k2, by simpa [Nat.add_assoc] using k3, by simpa [Nat.add_assoc] using k4⟩
end Go.Proofs.Qxb6616008a.Pos
