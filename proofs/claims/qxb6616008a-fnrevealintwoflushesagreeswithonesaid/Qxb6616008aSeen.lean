import Derived.Test.Qxb6616008aGet
namespace Go.Proofs.Qxb6616008a.Pos
open Go.RowKit

theorem not45 (q : Nat) (r : Rec) (w : World) (h : w.heap[q]? = some (.cells (recCells r) 93)) :
    Calls Try.prog 45 #[.pointer (some ⟨q, 0, none⟩)] w fun e w' => e = .returned (.bool !r.st) ∧ w' = w := by
  have h4 : w.cell? ⟨q, 5, none⟩ = some (.bool r.st) := cell_of h 5
  clear h
  go_enter Try.func45, Try.ntmps45
  go_wp2
  go_ret
  exact ⟨rfl, rfl⟩

/-- The first unsettled record's place, or -1. -/
def firstOpen : List Rec → Int
  | [] => -1
  | r :: rs => if r.st then (if firstOpen rs = -1 then -1 else firstOpen rs + 1) else 0

theorem firstOpen_all (rs : List Rec) (h : ∀ k, k < rs.length → (rs.getD k zero).st = true) : firstOpen rs = -1 := by
  induction rs with
  | nil => rfl
  | cons r rs ih =>
    unfold firstOpen
    have h0 := h 0 (by simp)
    simp at h0
    rw [if_pos h0, if_pos (ih fun k hk => by simpa using h (k + 1) (by simp; omega))]

theorem firstOpen_at : ∀ (rs : List Rec) (n : Nat), n < rs.length → (∀ k, k < n → (rs.getD k zero).st = true) → (rs.getD n zero).st = false → firstOpen rs = n := by
  intro rs
  induction rs with
  | nil => intro n hn; simp at hn
  | cons r rs ih =>
    intro n hn h1 h2
    cases n with
    | zero => simp at h2; simp [firstOpen, h2]
    | succ n =>
      have h0 := h1 0 (by omega)
      simp at h0
      unfold firstOpen
      have := ih n (by simp at hn; omega) (fun k hk => by simpa using h1 (k + 1) (by omega)) (by simpa using h2)
      rw [if_pos h0, this, if_neg (by omega)]
      omega

set_option maxHeartbeats 400000 in
theorem index44 (a : Option Addr) (n cap : Nat) (qs : List Nat) (rs : List Rec) (w : World) (hn : n = rs.length) (hm : n ≤ 16384)
    (hc : ∀ j, j < rs.length → ∃ g, a = some ⟨g, 0, none⟩ ∧ w.cell? ⟨g, j, none⟩ = some (.pointer (some ⟨qs.getD j 0, 0, none⟩)) ∧ w.heap[qs.getD j 0]? = some (.cells (recCells (rs.getD j zero)) 93)) :
    Calls Try.prog 44 #[.slice a n cap, .func (.func 45) #[] #[]] w fun e w' => e = .returned (.int .i64 (firstOpen rs)) ∧ w' = w := by
  have HN : Hid (n = rs.length) := hn
  clear hn
  have HC : Hid (∀ j, j < rs.length → ∃ g, a = some ⟨g, 0, none⟩ ∧ w.cell? ⟨g, j, none⟩ = some (.pointer (some ⟨qs.getD j 0, 0, none⟩)) ∧ w.heap[qs.getD j 0]? = some (.cells (recCells (rs.getD j zero)) 93)) := hc
  clear hc
  go_enter Try.func44, Try.ntmps44
  go_wp2
  go_loop [8] (fun i => ∃ k : Nat, k ≤ n ∧ i = .int .i64 k ∧ Hid (∀ j, j < k → (rs.getD j zero).st = true)) (fun i => n - (intOf i).toNat)
  case atStart => exact ⟨0, Nat.zero_le _, rfl, fun j hj => absurd hj (Nat.not_lt_zero _)⟩
  case round =>
    obtain ⟨k, hk, rfl, HA⟩ := hrel
    by_cases hlt : k < n
    · obtain ⟨g, rfl, h1, h2⟩ := HC.out k (by rw [← HN.out]; exact hlt)
      have H2 : Hid (w.heap[qs.getD k 0]? = some (.cells (recCells (rs.getD k zero)) 93)) := h2
      clear h2
      generalize hq : qs.getD k 0 = q at *
      generalize hr : rs.getD k zero = r at *
      have HR : Hid (rs.getD k zero = r) := hr
      clear hr hq
      have hkz : (k : Int) < (n : Int) := by omega
      cases hst : r.st with
      | true =>
        go_wp2_with fail
        refine (not45 q r w H2.out).mono ?_
        rintro e w' ⟨rfl, rfl⟩
        rw [hst]
        go_wp2
        go_round
        case rel => exact ⟨k + 1, by omega, by go_num, fun j hj => by
          by_cases e : j = k
          · subst e; rw [HR.out]; exact hst
          · exact HA.out j (by omega)⟩
        case measure => simp [intOf]; omega
      | false =>
        have hf : Hid (firstOpen rs = k) := firstOpen_at rs k (by rw [← HN.out]; exact hlt) HA.out (by rw [HR.out]; exact hst)
        go_wp2_with fail
        refine (not45 q r w H2.out).mono ?_
        rintro e w' ⟨rfl, rfl⟩
        rw [hst]
        go_wp2
        go_ret
        exact ⟨by rw [hf.out]; rfl, rfl⟩
    · have hf : Hid (firstOpen rs = -1) := firstOpen_all rs (fun j hj => HA.out j (by have := HN.out; omega))
      go_wp2
      go_ret
      exact ⟨by rw [hf.out]; rfl, rfl⟩

set_option maxHeartbeats 400000 in
theorem after38 (pi po qi qo : Int) (w : World) :
    Calls Try.prog 38 #[.agg #[.int .i64 pi, .int .i64 po], .agg #[.int .i64 qi, .int .i64 qo]] w fun e w' =>
      e = .returned (.bool (pb qi qo pi po)) ∧ w' = (w.alloc (.cells #[.int .i64 pi, .int .i64 po] 53)).alloc (.cells #[.int .i64 qi, .int .i64 qo] 53) := by
  by_cases h : qi < pi
  · have e : pb qi qo pi po = true := by rw [pb_iff]; exact Or.inl h
    rw [e]; clear e
    go_enter Try.func38, Try.ntmps38
    go_wp2
    go_ret
    exact ⟨rfl, rfl⟩
  · by_cases h2 : pi = qi
    · have e : pb qi qo pi po = decide (qo < po) := by unfold pb; rw [if_pos h2.symm]
      rw [e]; clear e
      have h3 : (pi == qi) = true := by simpa using h2
      clear h2
      go_enter Try.func38, Try.ntmps38
      go_wp2
      go_ret
      exact ⟨rfl, rfl⟩
    · have e : pb qi qo pi po = false := by rw [pb_not]; omega
      rw [e]; clear e
      have h3 : (pi == qi) = false := by simpa using h2
      clear h2
      go_enter Try.func38, Try.ntmps38
      go_wp2
      go_ret
      exact ⟨rfl, rfl⟩

theorem after38' {v : Bool} (pi po qi qo : Int) (w : World) (h : pb qi qo pi po = v) :
    Calls Try.prog 38 #[.agg #[.int .i64 pi, .int .i64 po], .agg #[.int .i64 qi, .int .i64 qo]] w fun e w' =>
      e = .returned (.bool v) ∧ w' = (w.alloc (.cells #[.int .i64 pi, .int .i64 po] 53)).alloc (.cells #[.int .i64 qi, .int .i64 qo] 53) := by
  rw [← h]; exact after38 _ _ _ _ _
end Go.Proofs.Qxb6616008a.Pos
