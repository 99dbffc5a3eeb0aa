import Derived.Test.Qxb6616008aBin
namespace Go.Proofs.Qxb6616008a.Pos
open Go.RowKit

theorem Bl.at_ {base : Nat} {w : World} {b : Nat} {fi fo : Int} {rs : List Rec} {fired : Bool} {v c : Value} {qs : List Nat} (h : Bl base w b fi fo rs fired v c qs) (j : Nat) (hj : j < rs.length) :
    ∃ g cap, v = .slice (some ⟨g, 0, none⟩) rs.length cap ∧ w.cell? ⟨g, j, none⟩ = some (.pointer (some ⟨qs.getD j 0, 0, none⟩)) := by
  obtain ⟨g, cap, hv⟩ : ∃ g cap, v = .slice (some ⟨g, 0, none⟩) rs.length cap := by
    rcases h.own.2 with ⟨_, h0⟩ | ⟨g, cap, cur, hv, _⟩
    · omega
    · exact ⟨g, cap, hv⟩
  refine ⟨g, cap, hv, ?_⟩
  have ho := h.own
  rw [hv] at ho
  rw [ho.cellAt j (by omega)]
  have hl := h.len
  simp [ptrs, List.getD]
  rw [List.getElem?_eq_getElem (by omega)]
  simp

theorem Bl.slice {base : Nat} {w : World} {b : Nat} {fi fo : Int} {rs : List Rec} {fired : Bool} {v c : Value} {qs : List Nat} (h : Bl base w b fi fo rs fired v c qs) :
    ∃ a cap, v = .slice a rs.length cap := by
  rcases h.own.2 with ⟨hv, h0⟩ | ⟨g, cap, cur, hv, _⟩
  · exact ⟨none, 0, by rw [hv, h0]⟩
  · exact ⟨_, cap, hv⟩

theorem lt_of_cell {w : World} {a : Addr} {v : Value} (h : w.cell? a = some v) : a.block < w.heap.size := by
  rcases Nat.lt_or_ge a.block w.heap.size with h' | h'
  · exact h'
  · simp [World.cell?, Array.getElem?_eq_none h'] at h

section
variable (b g n cap j q : Nat) (w : World) (r : Rec)
theorem at29 (h1 : w.cell? ⟨b, 10, none⟩ = some (.slice (some ⟨g, 0, none⟩) n cap)) (h2 : w.cell? ⟨g, j, none⟩ = some (.pointer (some ⟨q, 0, none⟩))) (h3 : w.heap[q]? = some (.cells (recCells r) 93)) (hj : j < n) :
    Calls Try.prog 29 #[.pointer (some ⟨b, 0, none⟩), .int .i64 j] w fun e w' => e = .returned (.int .i64 r.ai) ∧ w' = w := by
  have h4 : w.cell? ⟨q, 0, none⟩ = some (.int .i64 r.ai) := cell_of h3 0
  have H3 : Hid (w.heap[q]? = some (.cells (recCells r) 93)) := h3
  clear h3
  have hz : (j : Int) < (n : Int) := by omega
  go_enter Try.func29, Try.ntmps29
  go_wp2
  go_ret
  exact ⟨rfl, rfl⟩
theorem at30 (h1 : w.cell? ⟨b, 10, none⟩ = some (.slice (some ⟨g, 0, none⟩) n cap)) (h2 : w.cell? ⟨g, j, none⟩ = some (.pointer (some ⟨q, 0, none⟩))) (h3 : w.heap[q]? = some (.cells (recCells r) 93)) (hj : j < n) :
    Calls Try.prog 30 #[.pointer (some ⟨b, 0, none⟩), .int .i64 j] w fun e w' => e = .returned (.int .i64 r.ao) ∧ w' = w := by
  have h4 : w.cell? ⟨q, 1, none⟩ = some (.int .i64 r.ao) := cell_of h3 1
  clear h3
  have hz : (j : Int) < (n : Int) := by omega
  go_enter Try.func30, Try.ntmps30
  go_wp2
  go_ret
  exact ⟨rfl, rfl⟩
theorem at31 (h1 : w.cell? ⟨b, 10, none⟩ = some (.slice (some ⟨g, 0, none⟩) n cap)) (h2 : w.cell? ⟨g, j, none⟩ = some (.pointer (some ⟨q, 0, none⟩))) (h3 : w.heap[q]? = some (.cells (recCells r) 93)) (hj : j < n) :
    Calls Try.prog 31 #[.pointer (some ⟨b, 0, none⟩), .int .i64 j] w fun e w' => e = .returned (.int .i64 r.ei) ∧ w' = w := by
  have h4 : w.cell? ⟨q, 2, none⟩ = some (.int .i64 r.ei) := cell_of h3 2
  clear h3
  have hz : (j : Int) < (n : Int) := by omega
  go_enter Try.func31, Try.ntmps31
  go_wp2
  go_ret
  exact ⟨rfl, rfl⟩
theorem at32 (h1 : w.cell? ⟨b, 10, none⟩ = some (.slice (some ⟨g, 0, none⟩) n cap)) (h2 : w.cell? ⟨g, j, none⟩ = some (.pointer (some ⟨q, 0, none⟩))) (h3 : w.heap[q]? = some (.cells (recCells r) 93)) (hj : j < n) :
    Calls Try.prog 32 #[.pointer (some ⟨b, 0, none⟩), .int .i64 j] w fun e w' => e = .returned (.int .i64 r.eo) ∧ w' = w := by
  have h4 : w.cell? ⟨q, 3, none⟩ = some (.int .i64 r.eo) := cell_of h3 3
  clear h3
  have hz : (j : Int) < (n : Int) := by omega
  go_enter Try.func32, Try.ntmps32
  go_wp2
  go_ret
  exact ⟨rfl, rfl⟩
theorem at33 (h1 : w.cell? ⟨b, 10, none⟩ = some (.slice (some ⟨g, 0, none⟩) n cap)) (h2 : w.cell? ⟨g, j, none⟩ = some (.pointer (some ⟨q, 0, none⟩))) (h3 : w.heap[q]? = some (.cells (recCells r) 93)) (hj : j < n) :
    Calls Try.prog 33 #[.pointer (some ⟨b, 0, none⟩), .int .i64 j] w fun e w' => e = .returned (.bool r.st) ∧ w' = w := by
  have h4 : w.cell? ⟨q, 5, none⟩ = some (.bool r.st) := cell_of h3 5
  clear h3
  have hz : (j : Int) < (n : Int) := by omega
  go_enter Try.func33, Try.ntmps33
  go_wp2
  go_ret
  exact ⟨rfl, rfl⟩
end

set_option maxHeartbeats 1000000 in
theorem is15 (b g n cap j q : Nat) (w : World) (r : Rec) (h1 : w.cell? ⟨b, 10, none⟩ = some (.slice (some ⟨g, 0, none⟩) n cap)) (h2 : w.cell? ⟨g, j, none⟩ = some (.pointer (some ⟨q, 0, none⟩)))
    (h3 : w.heap[q]? = some (.cells (recCells r) 93)) (hj : j < n) :
    Calls Try.prog 15 #[.pointer (some ⟨b, 0, none⟩), .int .i64 j, .agg #[.int .i64 r.ai, .int .i64 r.ao, .int .i64 r.ei, .int .i64 r.eo, .bool r.st]] w fun e w' => e = .returned (.bool true) ∧ Below w.heap.size w w' := by
  have lb : b < w.heap.size := lt_of_cell h1
  have lg : g < w.heap.size := lt_of_cell h2
  have lq : q < w.heap.size := lt_of h3
  obtain ⟨w1, hw1⟩ : ∃ w1, w1 = w.alloc (.cells #[.int .i64 r.ai, .int .i64 r.ao, .int .i64 r.ei, .int .i64 r.eo, .bool r.st] 33) := ⟨_, rfl⟩
  have k1 : w1.cell? ⟨b, 10, none⟩ = some (.slice (some ⟨g, 0, none⟩) n cap) := by rw [hw1]; go_simp
  have k2 : w1.cell? ⟨g, j, none⟩ = some (.pointer (some ⟨q, 0, none⟩)) := by rw [hw1]; go_simp
  have k3 : Hid (w1.heap[q]? = some (.cells (recCells r) 93)) := by unfold Hid; rw [hw1, Below.heap_alloc _ _ _ lq]; exact h3
  have c0 : w1.cell? ⟨w.heap.size, 0, none⟩ = some (.int .i64 r.ai) := by rw [hw1]; go_simp
  have c1 : w1.cell? ⟨w.heap.size, 1, none⟩ = some (.int .i64 r.ao) := by rw [hw1]; go_simp
  have c2 : w1.cell? ⟨w.heap.size, 2, none⟩ = some (.int .i64 r.ei) := by rw [hw1]; go_simp
  have c3 : w1.cell? ⟨w.heap.size, 3, none⟩ = some (.int .i64 r.eo) := by rw [hw1]; go_simp
  have c4 : w1.cell? ⟨w.heap.size, 4, none⟩ = some (.bool r.st) := by rw [hw1]; go_simp
  have hbel : Below w.heap.size w w1 := by rw [hw1]; exact (Below.refl _ _).alloc (Nat.le_refl _) _
  clear h1 h2 h3
  go_enter Try.func15, Try.ntmps15
  go_wp2_with fail
  rw [← hw1]
  clear hw1
  go_quiet ((first
    | (go_at_call 29; exact Calls.quiet_of_same (at29 b g n cap j q _ r k1 k2 k3 hj))
    | (go_at_call 30; exact Calls.quiet_of_same (at30 b g n cap j q _ r k1 k2 k3 hj))
    | (go_at_call 31; exact Calls.quiet_of_same (at31 b g n cap j q _ r k1 k2 k3 hj))
    | (go_at_call 32; exact Calls.quiet_of_same (at32 b g n cap j q _ r k1 k2 k3 hj))
    | (go_at_call 33; exact Calls.quiet_of_same (at33 b g n cap j q _ r k1 k2 k3 hj))))
  go_wp2
  go_ret
  exact ⟨rfl, belowN hbel _⟩

set_option maxHeartbeats 1000000 in
theorem same20 (b g n cap b' g' n' cap' j q q' : Nat) (w : World) (r : Rec) (h1 : w.cell? ⟨b, 10, none⟩ = some (.slice (some ⟨g, 0, none⟩) n cap)) (h2 : w.cell? ⟨g, j, none⟩ = some (.pointer (some ⟨q, 0, none⟩)))
    (h3 : w.heap[q]? = some (.cells (recCells r) 93)) (hj : j < n)
    (h1' : w.cell? ⟨b', 10, none⟩ = some (.slice (some ⟨g', 0, none⟩) n' cap')) (h2' : w.cell? ⟨g', j, none⟩ = some (.pointer (some ⟨q', 0, none⟩)))
    (h3' : w.heap[q']? = some (.cells (recCells r) 93)) (hj' : j < n') :
    Calls Try.prog 20 #[.pointer (some ⟨b, 0, none⟩), .pointer (some ⟨b', 0, none⟩), .int .i64 j] w fun e w' => e = .returned (.bool true) ∧ w' = w := by
  have k1 : Hid (w.cell? ⟨b, 10, none⟩ = some (.slice (some ⟨g, 0, none⟩) n cap)) := h1
  have k2 : Hid (w.cell? ⟨g, j, none⟩ = some (.pointer (some ⟨q, 0, none⟩))) := h2
  have k3 : Hid (w.heap[q]? = some (.cells (recCells r) 93)) := h3
  have k1' : Hid (w.cell? ⟨b', 10, none⟩ = some (.slice (some ⟨g', 0, none⟩) n' cap')) := h1'
  have k2' : Hid (w.cell? ⟨g', j, none⟩ = some (.pointer (some ⟨q', 0, none⟩))) := h2'
  have k3' : Hid (w.heap[q']? = some (.cells (recCells r) 93)) := h3'
  clear h1 h2 h3 h1' h2' h3'
  go_enter Try.func20, Try.ntmps20
  go_wp2_with fail
  refine (at29 b g n cap j q _ r k1 k2 k3 hj).mono ?_
  rintro e w' ⟨rfl, rfl⟩
  go_wp2_with fail
  refine (at29 b' g' n' cap' j q' _ r k1' k2' k3' hj').mono ?_
  rintro e w' ⟨rfl, rfl⟩
  go_wp2_with fail
  refine (at30 b g n cap j q _ r k1 k2 k3 hj).mono ?_
  rintro e w' ⟨rfl, rfl⟩
  go_wp2_with fail
  refine (at30 b' g' n' cap' j q' _ r k1' k2' k3' hj').mono ?_
  rintro e w' ⟨rfl, rfl⟩
  go_wp2_with fail
  refine (at31 b g n cap j q _ r k1 k2 k3 hj).mono ?_
  rintro e w' ⟨rfl, rfl⟩
  go_wp2_with fail
  refine (at31 b' g' n' cap' j q' _ r k1' k2' k3' hj').mono ?_
  rintro e w' ⟨rfl, rfl⟩
  go_wp2_with fail
  refine (at32 b g n cap j q _ r k1 k2 k3 hj).mono ?_
  rintro e w' ⟨rfl, rfl⟩
  go_wp2_with fail
  refine (at32 b' g' n' cap' j q' _ r k1' k2' k3' hj').mono ?_
  rintro e w' ⟨rfl, rfl⟩
  go_wp2_with fail
  refine (at33 b g n cap j q _ r k1 k2 k3 hj).mono ?_
  rintro e w' ⟨rfl, rfl⟩
  go_wp2_with fail
  refine (at33 b' g' n' cap' j q' _ r k1' k2' k3' hj').mono ?_
  rintro e w' ⟨rfl, rfl⟩
  go_wp2
  go_ret
  exact ⟨rfl, rfl⟩
end Go.Proofs.Qxb6616008a.Pos
