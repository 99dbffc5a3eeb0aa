import Derived.Test.Qxb6616008aFreshWalk
namespace Go.Proofs.Qxb6616008a.Store
open Go.RowKit Go.ChangeShapes

theorem dirD_shift (f p : Int) (h0 : 0 ≤ f) (h1 : f ≤ 65535) : IntKind.u16.wrap (dirD f p - dirD 0 p) = f := by
  simp only [IntKind.wrap_u16, dirD]; omega

theorem dirD_turn (p : Int) (h : p % 100 = 0) : IntKind.u16.wrap (dirD 0 (p - 1) + 1) = dirD 0 p := by
  simp only [IntKind.wrap_u16, dirD]; omega

theorem dirD_stay (p : Int) (h : ¬ p % 100 = 0) : dirD 0 (p - 1) = dirD 0 p := by
  simp only [dirD]; omega

set_option maxHeartbeats 400000 in
theorem stepsWalk (a0 a1 a2 : Int) (w0 : (Lit.int .u16 a0).wf = true) (w1 : (Lit.int .u64 a1).wf = true) (w : World) :
    Calls Try.prog 6 #[.int .u16 a0, .int .u64 a1, .int .i64 a2] w fun e w' => e = .returned (.bool true) ∧ Grown w w' := by
  have b0 := bounds_u16 w0
  have b1 := bounds_u64 w1
  obtain ⟨b00, b01⟩ := b0
  obtain ⟨b10, b11⟩ := b1
  clear w0 w1
  by_cases hn : a2 < 0
  · go_enter Try.func6, Try.ntmps6
    go_wp2
    go_ret
    exact ⟨rfl, Grown.refl _⟩
  by_cases hm : 65536 < a2
  · go_enter Try.func6, Try.ntmps6
    go_wp2
    go_ret
    exact ⟨rfl, Grown.refl _⟩
  obtain ⟨n, rfl⟩ := Int.eq_ofNat_of_zero_le (show 0 ≤ a2 by omega)
  by_cases hp : 18446744073709551615 - (n : Int) < a1
  · go_enter Try.func6, Try.ntmps6
    go_wp2
    go_ret
    exact ⟨rfl, Grown.refl _⟩
  go_enter Try.func6, Try.ntmps6
  go_wp2_with (go_at_call 21; refine (newStore _ _ _).mono ?_; rintro e w' ⟨rfl, rfl⟩)
  go_loopw [9, 10] (fun x i wr => ∃ k : Nat, ∃ v : Int, k ≤ n ∧ i = .int .i64 k ∧ x = .int .u16 v ∧ (0 < k → v = dirD 0 (a1 + k - 1)) ∧ St wr w.heap.size a0 (a1 + k) ∧ St wr (w.heap.size + 1) 0 (a1 + k) ∧ Grown w wr) (fun _ i _ => n - (intOf i).toNat)
  case atStart => exact ⟨0, 0, Nat.zero_le _, rfl, rfl, fun h => absurd h (by omega), by simpa using (St.ofNew _ _ _).alloc _ _, by simpa using St.ofNew _ _ (w.alloc _), ((Grown.refl _).alloc _ _).alloc _ _⟩
  case round =>
    obtain ⟨k, v, hk, rfl, rfl, hv, hst, hst0, hg⟩ := hrel
    have HV : Hid (0 < k → v = dirD 0 (a1 + k - 1)) := hv
    clear hv
    by_cases hlt : k < n
    · have dA := dirD_bd a0 (a1 + k)
      have dB := dirD_bd 0 (a1 + k)
      have HS : Hid (IntKind.u16.wrap (dirD a0 (a1 + k) - dirD 0 (a1 + k)) = a0) := dirD_shift a0 (a1 + k) b00 b01
      go_wp2_with fail
      refine (nextDir23 _ _ _ _ hst (by omega) (by omega)).mono ?_
      rintro e u1 ⟨rfl, hs1, hm1⟩
      have hg1 := hm1.grown w (Nat.le_refl _) hg
      have hs10 := hst0.other hm1 (by omega)
      clear hm1 hst hst0 hg
      go_wp2_with fail
      refine (dirOf22 _ _ _ (by omega) (by omega) (by omega) (by omega)).mono ?_
      rintro e u2 ⟨rfl, rfl⟩
      rw [dirD_split]
      have hs2 := hs1.alloc #[.int .u8 (dirD a0 (a1 + k) / 256), .int .u8 (dirD a0 (a1 + k) % 256)] 44
      have hs20 := hs10.alloc #[.int .u8 (dirD a0 (a1 + k) / 256), .int .u8 (dirD a0 (a1 + k) % 256)] 44
      have hg2 := hg1.alloc #[.int .u8 (dirD a0 (a1 + k) / 256), .int .u8 (dirD a0 (a1 + k) % 256)] 44
      clear hs1 hs10 hg1
      generalize u1.alloc (.cells #[.int .u8 (dirD a0 (a1 + k) / 256), .int .u8 (dirD a0 (a1 + k) % 256)] 44) = u2 at *
      go_wp2_with fail
      refine (nextDir23 _ _ _ _ hs20 (by omega) (by omega)).mono ?_
      rintro e u3 ⟨rfl, hs30, hm3⟩
      have hg3 := hm3.grown w (by omega) hg2
      have hs3 := hs2.other hm3 (by omega)
      clear hm3 hs2 hs20 hg2
      go_wp2_with fail
      refine (dirOf22 _ _ _ (by omega) (by omega) (by omega) (by omega)).mono ?_
      rintro e u4 ⟨rfl, rfl⟩
      rw [dirD_split]
      have hs4 := hs3.alloc #[.int .u8 (dirD 0 (a1 + k) / 256), .int .u8 (dirD 0 (a1 + k) % 256)] 44
      have hs40 := hs30.alloc #[.int .u8 (dirD 0 (a1 + k) / 256), .int .u8 (dirD 0 (a1 + k) % 256)] 44
      have hg4 := hg3.alloc #[.int .u8 (dirD 0 (a1 + k) / 256), .int .u8 (dirD 0 (a1 + k) % 256)] 44
      clear hs3 hs30 hg3
      generalize u3.alloc (.cells #[.int .u8 (dirD 0 (a1 + k) / 256), .int .u8 (dirD 0 (a1 + k) % 256)] 44) = u4 at *
      have hneq : (IntKind.u16.wrap (dirD a0 (a1 + k) - dirD 0 (a1 + k)) != a0) = false := by rw [HS.out]; simp
      have hA : a1 + (k : Int) + 1 = a1 + ((k + 1 : Nat) : Int) := by omega
      rw [hA] at hs4 hs40
      clear hA
      by_cases hk0 : 0 < k
      · have hv := HV.out hk0
        clear HV
        subst hv
        by_cases h100 : ((a1 + (k : Int)) % 100 == 0) = true
        · have ht : (IntKind.u16.wrap (dirD 0 (a1 + k - 1) + 1)) = dirD 0 (a1 + k) := dirD_turn _ (by simpa using h100)
          go_wp2
          go_roundw
          case rel => exact ⟨k + 1, _, by omega, by go_num, rfl, fun _ => by rw [show a1 + ((k + 1 : Nat) : Int) - 1 = a1 + k by omega], hs4, hs40, hg4⟩
          case measure => simp [intOf]; omega
        · have ht : dirD 0 (a1 + k - 1) = dirD 0 (a1 + k) := dirD_stay _ (by simpa using h100)
          have h100' : ((a1 + (k : Int)) % 100 == 0) = false := by simpa using h100
          clear h100
          rw [ht]
          clear ht
          go_wp2
          go_roundw
          case rel => exact ⟨k + 1, _, by omega, by go_num, rfl, fun _ => by rw [show a1 + ((k + 1 : Nat) : Int) - 1 = a1 + k by omega], hs4, hs40, hg4⟩
          case measure => simp [intOf]; omega
      · go_wp2
        go_roundw
        case rel => exact ⟨k + 1, _, by omega, by go_num, rfl, fun _ => by rw [show a1 + ((k + 1 : Nat) : Int) - 1 = a1 + k by omega], hs4, hs40, hg4⟩
        case measure => simp [intOf]; omega
    · obtain rfl : k = n := by omega
      go_wp2_with fail
      refine (placed24 _ _ _ hst.c4).mono ?_
      rintro e w' ⟨rfl, rfl⟩
      go_wp2_with fail
      refine (placed24 _ _ _ hst0.c4).mono ?_
      rintro e w' ⟨rfl, rfl⟩
      go_wp2
      go_ret
      exact ⟨rfl, hg⟩
end Go.Proofs.Qxb6616008a.Store
