import Derived.Test.Qxb6617634aOps
namespace Go.Proofs.Qxb6617634a.Mp
open Go.RowKit Go.Maps Go.Shelf

theorem MapIs.alloc {w : World} {p : Option Nat} {f : ByteArray → Option Bool} {c : Nat} (h : MapIs w p f c) (o : Obj) : MapIs (w.alloc o) p f c :=
  h.below ((Below.refl w.heap.size w).alloc (Nat.le_refl _) o) h.lt
theorem MapIs.drewN {w : World} {p : Option Nat} {f : ByteArray → Option Bool} {c : Nat} (h : MapIs w p f c) (q : Nat) : MapIs (w.drewN q) p f c := h

set_option maxHeartbeats 1000000 in
theorem cosig5 (z0 z : Int) (p : Option Nat) (s : ByteArray) (f : ByteArray → Option Bool) (c : Nat) (w : World) (h : MapIs w p f c) (hs : s.size ≤ 1048576) (hc : c ≤ 100000) :
    Calls Try.prog 5 #[.int .u64 z0, .map p, .int .u64 z, .string s] w fun e w' => ∃ b, e = .returned (.tuple #[.int .u64 z, .map (some b)]) ∧ w.heap.size ≤ b ∧ MapIs w' (some b) (stepf f (z == z0) s) (c + 1) ∧ Below w.heap.size w w' := by
  have hcon := after9 z0 z p s f c w h hs hc
  clear h
  go_enter Try.func5, Try.ntmps5
  go_wp2_with fail
  refine hcon.mono ?_
  rintro e w1 ⟨b, rfl, hb, hm, hB⟩
  have HM : Hid (MapIs w1 (some b) (stepf f (z == z0) s) (c + 1)) := hm
  have HB : Hid (Below w.heap.size w w1) := hB
  have hlt := hm.lt b rfl
  clear hm hB hcon
  go_wp2
  go_quiet (fail)
  go_wp2
  go_ret2
  exact ⟨b, rfl, hb, (HM.out.alloc _).drewN nq, below_drewN (HB.out.alloc HB.out.size _) nq⟩

end Go.Proofs.Qxb6617634a.Mp
