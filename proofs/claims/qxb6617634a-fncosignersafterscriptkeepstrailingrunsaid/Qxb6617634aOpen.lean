import Derived.Test.Qxb6617634aRead
import Derived.Deep.Slices
namespace Go.Proofs.Qxb6617634a.Mp
open Go.ChangeShapes Go.WideShapes Go.ChangeAt Go.RowKit Go.Deep

theorem cells27 : Try.prog.cellsOf 27 = 2 := by kernel_rfl
theorem cells29 : Try.prog.cellsOf 29 = 2 := by kernel_rfl
theorem cells9 : Try.prog.cellsOf 9 = 1 := by kernel_rfl
theorem cells22 : Try.prog.cellsOf 22 = 1 := by kernel_rfl
theorem cells4 : Try.prog.cellsOf 4 = 1 := by kernel_rfl

theorem spot_none {w : World} {a : Addr} {v : Value} (h : w.cell? a = some v) : a.spot = none := by
  unfold World.cell? at h
  split at h
  · split at h
    · cases h
    · rename_i hs; simpa using hs
  · cases h

set_option maxRecDepth 100000 in
theorem open_ent {H : Type} {enc : TypeId × Value → H} {w : World} {base : Nat} {spare : Nat → Bool} {held : Bool} {fuel : Nat} {a : Option Addr} {len cap : Nat} {x : DataW H × List MemPlace}
    (h : DataW.trod enc Try.prog w base spare held fuel 23 [.slice a len cap] = some x) : ∃ (f : Nat → ByteArray) (g : Nat → Bool), EntIs w a len f g := by
  rcases open_slice Try.underlying23 h with ⟨h0, _⟩ | ⟨ad, l, c, m, n, D, Pl, hcs, hb, hl, hm, hmm, _, hx⟩
  · simp at h0
    obtain ⟨rfl, rfl, rfl⟩ := h0
    exact ⟨fun _ => ⟨#[]⟩, fun _ => false, fun j hj => absurd hj (Nat.not_lt_zero _)⟩
  · simp at hcs
    obtain ⟨rfl, rfl, rfl⟩ := hcs
    have hlm : len ≤ m := by rw [hmm]; split <;> omega
    have each : ∀ i, i < len → ∃ r : ByteArray × Bool, w.cell? (ad.add (i * 2)) = some (.string r.1) ∧ w.cell? (ad.add (i * 2 + 1)) = some (.bool r.2) := by
      intro i hi
      obtain ⟨cs', h1, h2⟩ := hx i (by omega)
      rw [cells27] at h1
      obtain ⟨_, hlen, hcell⟩ := World.cells?_some h1
      obtain ⟨xs, k, hk, hxy, _, hxl, hf⟩ := DataW.trod_struct Try.underlying27 h2
      match xs, hxl, cs', hlen with
      | [y0, y1], _, [v0, v1], _ =>
        have g0 := hf 0 _ rfl
        have g1 := hf 1 _ rfl
        simp [cells9, cells4] at g0 g1
        obtain ⟨z0, e0, _⟩ := DataW.trod_string Try.underlying9 g0
        obtain ⟨z1, e1, _⟩ := DataW.trod_bool Try.underlying4 g1
        simp at e0 e1
        subst e0 e1
        have c0 := hcell 0 (by omega)
        have c1 := hcell 1 (by omega)
        rw [add_add] at c0 c1
        exact ⟨(z0, z1), by simpa using c0, by simpa using c1⟩
    obtain ⟨r, hr⟩ := choose_lt each
    refine ⟨fun i => (r i).1, fun i => (r i).2, fun j hj => ?_⟩
    obtain ⟨k0, k1⟩ := hr j hj
    have hsp : ad.spot = none := by
      have q0 := (hr 0 (by omega)).1
      simpa using spot_none (by simpa [Addr.add] using q0)
    obtain ⟨blk, off, sp⟩ := ad
    simp only at hsp
    subst hsp
    rw [add_plain] at k0 k1
    exact ⟨blk, off, rfl, k0, by simpa [Nat.add_assoc] using k1⟩

set_option maxRecDepth 100000 in
theorem open_stp {H : Type} {enc : TypeId × Value → H} {w : World} {base : Nat} {spare : Nat → Bool} {held : Bool} {fuel : Nat} {a : Option Addr} {len cap : Nat} {x : DataW H × List MemPlace}
    (h : DataW.trod enc Try.prog w base spare held fuel 24 [.slice a len cap] = some x) : ∃ (f : Nat → Int) (g : Nat → ByteArray), StpIs w a len f g := by
  rcases open_slice Try.underlying24 h with ⟨h0, _⟩ | ⟨ad, l, c, m, n, D, Pl, hcs, hb, hl, hm, hmm, _, hx⟩
  · simp at h0
    obtain ⟨rfl, rfl, rfl⟩ := h0
    exact ⟨fun _ => 0, fun _ => ⟨#[]⟩, fun j hj => absurd hj (Nat.not_lt_zero _)⟩
  · simp at hcs
    obtain ⟨rfl, rfl, rfl⟩ := hcs
    have hlm : len ≤ m := by rw [hmm]; split <;> omega
    have each : ∀ i, i < len → ∃ r : Int × ByteArray, w.cell? (ad.add (i * 2)) = some (.int .u64 r.1) ∧ w.cell? (ad.add (i * 2 + 1)) = some (.string r.2) := by
      intro i hi
      obtain ⟨cs', h1, h2⟩ := hx i (by omega)
      rw [cells29] at h1
      obtain ⟨_, hlen, hcell⟩ := World.cells?_some h1
      obtain ⟨xs, k, hk, hxy, _, hxl, hf⟩ := DataW.trod_struct Try.underlying29 h2
      match xs, hxl, cs', hlen with
      | [y0, y1], _, [v0, v1], _ =>
        have g0 := hf 0 _ rfl
        have g1 := hf 1 _ rfl
        simp [cells9, cells22] at g0 g1
        obtain ⟨z0, e0, _⟩ := DataW.trod_int Try.underlying22 g0
        obtain ⟨z1, e1, _⟩ := DataW.trod_string Try.underlying9 g1
        simp at e0 e1
        subst e0 e1
        have c0 := hcell 0 (by omega)
        have c1 := hcell 1 (by omega)
        rw [add_add] at c0 c1
        exact ⟨(z0, z1), by simpa using c0, by simpa using c1⟩
    obtain ⟨r, hr⟩ := choose_lt each
    refine ⟨fun i => (r i).1, fun i => (r i).2, fun j hj => ?_⟩
    obtain ⟨k0, k1⟩ := hr j hj
    have hsp : ad.spot = none := by
      have q0 := (hr 0 (by omega)).1
      simpa using spot_none (by simpa [Addr.add] using q0)
    obtain ⟨blk, off, sp⟩ := ad
    simp only at hsp
    subst hsp
    rw [add_plain] at k0 k1
    exact ⟨blk, off, rfl, k0, by simpa [Nat.add_assoc] using k1⟩
end Go.Proofs.Qxb6617634a.Mp
