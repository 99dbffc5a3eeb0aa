import Derived.Test.Qxb6616008aStore
namespace Go.Proofs.Qxb6616008a.Store
open Go.RowKit Go.ChangeShapes

theorem dirD_step (f k : Int) : dirD f (k + 1) = if (k % 100 + 1 == 100) = true then (dirD f k + 1) % 65536 else dirD f k := by
  unfold dirD
  by_cases e : k % 100 + 1 = 100
  · rw [if_pos (by simpa using e)]; omega
  · rw [if_neg (by simpa using e)]; omega

theorem dirD_split (f p : Int) : dirD f p / 256 * 256 + dirD f p % 256 = dirD f p := by omega

set_option maxHeartbeats 400000 in
theorem freshWalk (a0 : Int) (a1 : Int) (w0 : (Lit.int .u16 a0).wf = true) (w : World) :
    Calls Try.prog 5 #[.int .u16 a0, .int .i64 a1] w fun e w' => e = .returned (.bool true) ∧ Grown w w' := by
  have b0 := bounds_u16 w0
  clear w0
  by_cases hn : a1 < 0
  · go_enter Try.func5, Try.ntmps5
    go_wp2
    go_ret
    exact ⟨rfl, Grown.refl _⟩
  by_cases hm : 65536 < a1
  · go_enter Try.func5, Try.ntmps5
    go_wp2
    go_ret
    exact ⟨rfl, Grown.refl _⟩
  obtain ⟨n, rfl⟩ := Int.eq_ofNat_of_zero_le (show 0 ≤ a1 by omega)
  go_enter Try.func5, Try.ntmps5
  go_wp2_with (go_at_call 21; refine (newStore _ _ _).mono ?_; rintro e w' ⟨rfl, rfl⟩)
  go_loopw [6, 7, 8] (fun x r i wr => ∃ k : Nat, k ≤ n ∧ i = .int .i64 k ∧ r = .int .i64 ((k : Int) % 100) ∧ x = .int .u16 (dirD a0 k) ∧ St wr w.heap.size a0 k ∧ Grown w wr) (fun _ _ i _ => n - (intOf i).toNat)
  case atStart => exact ⟨0, Nat.zero_le _, rfl, rfl, by simp [dirD]; omega, St.ofNew _ _ _, (Grown.refl _).alloc _ _⟩
  case round =>
    obtain ⟨k, hk, rfl, rfl, rfl, hst, hg⟩ := hrel
    have db := dirD_bd a0 k
    by_cases hlt : k < n
    · have hk100 : ((k : Int) % 100) < 100 := by omega
      have hstep : Hid (dirD a0 ((k + 1 : Nat) : Int) = if ((k : Int) % 100 + 1 == 100) = true then (dirD a0 k + 1) % 65536 else dirD a0 k) := by
        rw [show (((k + 1 : Nat) : Int)) = (k : Int) + 1 by omega]
        exact dirD_step a0 k
      go_wp2_with fail
      refine (nextDir23 _ _ _ _ hst (by omega) (by omega)).mono ?_
      rintro e w1 ⟨rfl, hs1, hm1⟩
      have hg1 := hm1.grown w (Nat.le_refl _) hg
      clear hm1 hst hg
      go_wp2_with fail
      refine (dirOf22 _ _ _ (by omega) (by omega) (by omega) (by omega)).mono ?_
      rintro e w2 ⟨rfl, rfl⟩
      rw [dirD_split]
      by_cases h100 : ((k : Int) % 100 + 1 == 100) = true
      · have hq := h100
        rw [beq_iff_eq] at hq
        have HQ : Hid ((k : Int) % 100 + 1 = 100) := hq
        clear hq
        go_wp2
        go_roundw
        case rel => exact ⟨k + 1, by omega, by go_num, by have := HQ.out; simp; omega, by rw [hstep.out, if_pos h100, IntKind.wrap_u16], hs1.alloc _ _, hg1.alloc _ _⟩
        case measure => simp [intOf]; omega
      · have hq := h100
        rw [beq_iff_eq] at hq
        have h100' : ((k : Int) % 100 + 1 == 100) = false := by simpa using h100
        have HN : Hid (¬ ((k : Int) % 100 + 1 = 100)) := hq
        have HN2 : Hid (¬ ((k : Int) % 100 + 1 == 100) = true) := h100
        clear hq h100
        go_wp2
        go_roundw
        case rel => exact ⟨k + 1, by omega, by go_num, by have := HN.out; simp; omega, by rw [hstep.out, if_neg HN2.out], hs1.alloc _ _, hg1.alloc _ _⟩
        case measure => simp [intOf]; omega
    · have hkn : Hid (k = n) := by unfold Hid; omega
      go_wp2_with fail
      refine (placed24 _ _ _ hst.c4).mono ?_
      rintro e w1 ⟨rfl, rfl⟩
      go_wp2
      go_ret
      have := hkn.out
      subst this
      exact ⟨by simp, hg⟩
end Go.Proofs.Qxb6616008a.Store
