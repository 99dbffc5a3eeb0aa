import Derived.Test.Qxb6617634aPlain
import Derived.Test.Qxb6617634aBytes
import Derived.Test.Qxb6617634aCos
import Derived.Maps.AppendAt
import Derived.OwnWalk
namespace Go.Proofs.Qxb6617634a.Mp
open Go.RowKit Go.Maps Go.Shelf

/-- The map in block b holds just what f says. -/
def MapO (w : World) (b : Nat) (f : ByteArray → Option Bool) (c : Nat) : Prop := ∃ D, w.ownsMap Try.prog 9 R b c D ∧ Rf D f

theorem MapO.is {w : World} {b : Nat} {f : ByteArray → Option Bool} {c : Nat} (h : MapO w b f c) : MapIs w (some b) f c := by
  obtain ⟨D, ho, hr⟩ := h
  exact ⟨D, .inr ⟨b, c, rfl, ho⟩, hr, ho.size_le⟩

theorem mapO_made (w : World) : MapO (w.alloc (.map #[] 0)) w.heap.size (fun _ => none) 0 := ⟨_, World.ownsMap_made w Try.prog 9 R, rf_empty⟩

theorem MapO.put {w : World} {b : Nat} {f : ByteArray → Option Bool} {c : Nat} (h : MapO w b f c) {s : ByteArray} (hs : s.size ≤ 1048576) (v : Bool) (hc : c < 100000) :
    ∃ w', (Instr.mapUpdate 30 (.map (some b)) (.string s) (.bool v)).run Try.prog w = .ok () w' ∧ MapO w' b (fun x => if x = s then some v else f x) (c + 1) ∧ w.grownBy w' (some b) := by
  obtain ⟨D, ho, hr⟩ := h
  obtain ⟨w', hrun, ho', hg⟩ := ho.update law9 Try.underlying30 (by unfold maxLen; omega) (keyOf9 hs) (R_bool v)
  exact ⟨w', hrun, ⟨_, ho', rf_put hr ho.isMap s v⟩, hg⟩

theorem row_kept {w w' : World} {B e sz g k k' cap : Nat} {xs : List Value} (h : w.ownsRow B e sz (.slice (some ⟨g, 0, none⟩) k' cap) k xs) (hg : w'.heap[g]? = w.heap[g]?) : w'.ownsRow B e sz (.slice (some ⟨g, 0, none⟩) k' cap) k xs := by
  refine ⟨h.1, ?_⟩
  rcases h.2 with h2 | ⟨g', c, cur, hv, r1, r2, r3⟩
  · exact .inl h2
  · injection hv with hv e1 e2
    injection hv with hv
    injection hv with hv
    subst hv
    exact .inr ⟨g, c, cur, by rw [e1, e2], r1, by rw [hg]; exact r2, r3⟩

theorem row_lt {w : World} {B e sz g k k' cap : Nat} {xs : List Value} (h : w.ownsRow B e sz (.slice (some ⟨g, 0, none⟩) k' cap) k xs) : g < w.heap.size := by
  rcases h.2 with ⟨h2, _⟩ | ⟨g', c, cur, hv, r1, r2, r3⟩
  · cases h2
  · injection hv with hv _ _
    injection hv with hv
    injection hv with hv
    subst hv
    rcases Nat.lt_or_ge g w.heap.size with h' | h'
    · exact h'
    · rw [Array.getElem?_eq_none h'] at r2; cases r2

theorem cosig5' (z0 z : Int) (p : Option Nat) (s : ByteArray) (f : ByteArray → Option Bool) (c blk o : Nat) (w : World) (h : MapIs w p f c) (hs : s.size ≤ 1048576) (hc : c ≤ 100000)
    (c0 : w.cell? ⟨blk, o, none⟩ = some (.int .u64 z)) (c1 : w.cell? ⟨blk, o + 1, none⟩ = some (.string s)) :
    Calls Try.prog 5 #[.int .u64 z0, .map p, .int .u64 z, .string s] w fun e w' => ∃ b, e = .returned (.tuple #[.int .u64 z, .map (some b)]) ∧ Hid (MapIs w' (some b) (stepf f (z == z0) s) (c + 1)) ∧ Hid (Below w.heap.size w w') ∧
      w'.cell? ⟨blk, o, none⟩ = some (.int .u64 z) ∧ w'.cell? ⟨blk, o + 1, none⟩ = some (.string s) := by
  refine (cosig5 z0 z p s f c w h hs hc).mono ?_
  rintro e w1 ⟨b, rfl, _, hm, hB⟩
  exact ⟨b, rfl, hm, hB, by rw [hB.cell (lt_of_cell c0)]; exact c0, by rw [hB.cell (lt_of_cell c1)]; exact c1⟩

theorem run_makeMap_hint (n : Int) (w : World) : (Instr.makeMap 30 (some (.int .i64 n))).run Try.prog w = .ok (.map (some w.heap.size)) (w.alloc (.map #[] 0)) := by
  simp [Instr.makeMap, run_underlying Try.underlying30, asInt, asIntOf, newObj]
  rfl

/-- The two rows: keys and values. -/
def KV (w : World) (gk gv cap : Nat) (kv : List (ByteArray × Bool)) : Prop :=
  w.ownsRow 0 9 1 (.slice (some ⟨gk, 0, none⟩) kv.length cap) kv.length (kv.map fun p => Value.string p.1) ∧
  w.ownsRow 0 4 1 (.slice (some ⟨gv, 0, none⟩) kv.length cap) kv.length (kv.map fun p => Value.bool p.2)

theorem KV.key {w : World} {gk gv cap : Nat} {kv : List (ByteArray × Bool)} (h : KV w gk gv cap kv) (i : Nat) (hi : i < kv.length) : w.cell? ⟨gk, i, none⟩ = some (.string (kv[i]'hi).1) := by
  rw [h.1.cellAt i (by omega)]
  simp [hi]
theorem KV.val {w : World} {gk gv cap : Nat} {kv : List (ByteArray × Bool)} (h : KV w gk gv cap kv) (i : Nat) (hi : i < kv.length) : w.cell? ⟨gv, i, none⟩ = some (.bool (kv[i]'hi).2) := by
  rw [h.2.cellAt i (by omega)]
  simp [hi]

theorem one_of {v : Value} (h : v.oneCell' = true) : ∀ u ∈ [v], u.oneCell' = true := fun u hu => by
  simp at hu; rw [hu]; exact h

theorem Fin.at {kv : List (ByteArray × Bool)} {f : ByteArray → Option Bool} (h : Fin kv f) (i : Nat) (hi : i < kv.length) : f (kv[i]'hi).1 = some (kv[i]'hi).2 :=
  (h.2 _ _).2 (List.getElem_mem hi)

theorem dom_f0 (nm : Nat → ByteArray) (vl : Nat → Bool) (n C : Nat) (h : ∀ j, j < n → (nm j).size ≤ C) (s : ByteArray) (b : Bool) (e : f0 nm vl n s = some b) : s.size ≤ C := by
  obtain ⟨j, hj, _, rfl, _⟩ := (f0_some nm vl s b n).1 e
  exact h j hj
theorem dom_gB (wt : Nat → ByteArray) (a m C : Nat) (h : ∀ j, j < m → (wt j).size ≤ C) (s : ByteArray) (b : Bool) (e : gB wt a m s = some b) : s.size ≤ C := by
  unfold gB at e
  split at e
  · rename_i hx
    obtain ⟨j, _, hj, hd⟩ := (ex_iff _ _ _).1 hx
    have : wt j = s := by simpa using hd
    rw [← this]; exact h j hj
  · cases e
theorem dom_gA (nm : Nat → ByteArray) (vl : Nat → Bool) (wt : Nat → ByteArray) (n m C : Nat) (hn : ∀ j, j < n → (nm j).size ≤ C) (h : ∀ j, j < m → (wt j).size ≤ C) (s : ByteArray) (b : Bool) (e : gA (f0 nm vl n) wt m s = some b) : s.size ≤ C := by
  unfold gA at e
  cases hf : f0 nm vl n s with
  | some x => exact dom_f0 nm vl n C hn s x hf
  | none =>
    rw [hf] at e
    exact dom_gB wt 0 m C h s b e

theorem MapIs.len' {w : World} {p : Option Nat} {f : ByteArray → Option Bool} {c : Nat} (h : MapIs w p f c) {kv : List (ByteArray × Bool)} (hf : Fin kv f) (ty : TypeId) :
    (Builtin.len_ #[30] ty #[.map p]).run Try.prog w = .ok (.int .i64 kv.length) w := by
  have := h.len (kv.map (·.1)) hf.1 hf.isSome ty
  simpa using this

theorem info9 : (Try.prog.info? 9).map (fun i => (i.zero, i.size, i.bytes)) = some (some (.string ⟨#[]⟩), 1, 16) := by kernel_rfl
theorem info4 : (Try.prog.info? 4).map (fun i => (i.zero, i.size, i.bytes)) = some (some (.bool false), 1, 1) := by kernel_rfl

end Go.Proofs.Qxb6617634a.Mp
