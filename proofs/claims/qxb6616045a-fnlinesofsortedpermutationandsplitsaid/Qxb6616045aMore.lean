import Derived.Test.Qxb6616045aEq
namespace Go.Proofs.Qxb6616045a.Ln
open Go.RowKit

/-- A row of N slice headers of the call's own at block g. -/
def HdrsIs (w : World) (g N : Nat) (hs : Nat → Value) : Prop :=
  ∃ cur, w.heap[g]? = some (.cells cur 24) ∧ cur.size = N ∧ ∀ j, j < N → cur[j]? = some (hs j)

theorem HdrsIs.cell {w : World} {g N : Nat} {hs : Nat → Value} (h : HdrsIs w g N hs) (j : Nat) (hj : j < N) : w.cell? ⟨g, j, none⟩ = some (hs j) := by
  obtain ⟨cur, h1, h2, h3⟩ := h
  rw [cell_of h1]; exact h3 j hj
theorem HdrsIs.frozen {w : World} {g N : Nat} {hs : Nat → Value} (h : HdrsIs w g N hs) (j : Nat) : w.frozen? ⟨g, j, none⟩ = false := by
  obtain ⟨cur, h1, _⟩ := h
  exact frozen_of h1 j
theorem HdrsIs.set {w : World} {g N : Nat} {hs : Nat → Value} (h : HdrsIs w g N hs) (k : Nat) (u : Value) : HdrsIs (w.setCell ⟨g, k, none⟩ u) g N (fun j => if j = k then u else hs j) := by
  obtain ⟨cur, h1, h2, h3⟩ := h
  refine ⟨_, heap_set h1 _ _, by simpa using h2, fun j hj => ?_⟩
  show _ = some (if j = k then u else hs j)
  rw [Array.getElem?_setIfInBounds]
  by_cases e : k = j
  · subst e; rw [if_pos rfl, if_pos (by omega), if_pos rfl]
  · rw [if_neg e, if_neg (Ne.symm e)]; exact h3 j hj
theorem HdrsIs.kept {w w' : World} {g N : Nat} {hs : Nat → Value} (h : HdrsIs w g N hs) (hw : w'.heap[g]? = w.heap[g]?) : HdrsIs w' g N hs := by
  obtain ⟨cur, h1, h2, h3⟩ := h
  exact ⟨cur, by rw [hw]; exact h1, h2, h3⟩
theorem HdrsIs.congr {w : World} {g N : Nat} {hs hs' : Nat → Value} (h : HdrsIs w g N hs) (he : ∀ j, j < N → hs j = hs' j) : HdrsIs w g N hs' := by
  obtain ⟨cur, h1, h2, h3⟩ := h
  exact ⟨cur, h1, h2, fun j hj => by rw [h3 j hj, he j hj]⟩
theorem HdrsIs.lt {w : World} {g N : Nat} {hs : Nat → Value} (h : HdrsIs w g N hs) : g < w.heap.size := by
  obtain ⟨cur, h1, _⟩ := h
  exact lt_of h1

theorem HdrsIs.made {w : World} {base g N : Nat} (h : w.ownsRow base 24 1 (.slice (some ⟨g, 0, none⟩) N N) N (madeCells #[Value.slice none 0 0] N).toList) : HdrsIs w g N (fun _ => .slice none 0 0) := by
  rcases h.2 with ⟨e, _⟩ | ⟨g', c, cur, e, r1, r2, r3, r4, r5, r6⟩
  · cases e
  · injection e with e1 _ e3
    injection e1 with e1
    injection e1 with e1
    subst e1 e3
    refine ⟨cur, r2, by omega, fun j hj => ?_⟩
    have hl : cur.toList = (madeCells #[Value.slice none 0 0] N).toList := by
      refine Eq.trans ?_ r6
      rw [List.take_of_length_le (by simp; omega)]
    rw [← Array.getElem?_toList, hl, toList_madeCells_one, List.getElem?_replicate_of_lt (by omega)]

/-- The headers and what each leads to: a slice of slices. -/
theorem HdrsIs.ls {w : World} {g : Nat} {rs : List Row} (h : HdrsIs w g rs.length (fun j => (rs.getD j nilRow).v)) (hr : ∀ j, j < rs.length → RowIs w (rs.getD j nilRow)) : LsIs w (some ⟨g, 0, none⟩) rs := by
  intro j hj
  exact ⟨g, 0, rfl, by rw [Nat.zero_add]; exact h.cell j hj, hr j hj⟩

theorem info24 : (Try.prog.info? 24).map (fun i => (i.zero, i.size, i.bytes)) = some (some (.slice none 0 0), 1, 24) := by kernel_rfl

/-- One row put in at place p. -/
def grown (p : Nat) (r : Row) (rs : List Row) : List Row := rs.take p ++ r :: rs.drop p

theorem grown_length (p : Nat) (r : Row) (rs : List Row) (hp : p ≤ rs.length) : (grown p r rs).length = rs.length + 1 := by unfold grown; simp; omega

theorem grown_at (p : Nat) (r : Row) (rs : List Row) (hp : p ≤ rs.length) (j : Nat) : (grown p r rs).getD j nilRow = if j < p then rs.getD j nilRow else if j = p then r else rs.getD (j - 1) nilRow := by
  unfold grown
  have hl : (rs.take p).length = p := by rw [List.length_take]; omega
  simp only [List.getD]
  by_cases h1 : j < p
  · rw [if_pos h1, List.getElem?_append_left (by omega), List.getElem?_take_of_lt h1]
  · rw [if_neg h1, List.getElem?_append_right (by omega), hl]
    by_cases h2 : j = p
    · rw [if_pos h2]; subst h2; simp
    · rw [if_neg h2, show j - p = (j - p - 1) + 1 by omega, List.getElem?_cons_succ, List.getElem?_drop]
      congr 2; omega

theorem grown_flat (p : Nat) (r : Row) (rs : List Row) : (flat (grown p r rs)).Perm (r.zs ++ flat rs) := by
  have e : flat rs = flat (rs.take p) ++ flat (rs.drop p) := by unfold flat; rw [← List.flatMap_append, List.take_append_drop]
  have e2 : flat (grown p r rs) = flat (rs.take p) ++ (r.zs ++ flat (rs.drop p)) := by unfold flat grown; simp
  rw [e, e2]
  refine List.perm_append_comm_assoc _ _ _

theorem rev_at (rs : List Row) (j : Nat) (hj : j < rs.length) : rs.reverse.getD j nilRow = rs.getD (rs.length - 1 - j) nilRow := by
  simp [List.getD, List.getElem?_reverse hj]

theorem rev_flat (rs : List Row) : (flat rs.reverse).Perm (flat rs) := by
  unfold flat
  exact (List.reverse_perm rs).flatMap_right _
end Go.Proofs.Qxb6616045a.Ln
