import Derived.Test.Qxb6617634aOps
namespace Go.Proofs.Qxb6617634a.Mp
open Go.RowKit

/-- The entries: names nm, values vl. -/
def EntIs (w : World) (a : Option Addr) (n : Nat) (nm : Nat → ByteArray) (vl : Nat → Bool) : Prop :=
  ∀ k, k < n → ∃ blk off, a = some ⟨blk, off, none⟩ ∧ w.cell? ⟨blk, off + k * 2, none⟩ = some (.string (nm k)) ∧ w.cell? ⟨blk, off + k * 2 + 1, none⟩ = some (.bool (vl k))
/-- The steps: sizes sz, witnesses wt. -/
def StpIs (w : World) (a : Option Addr) (n : Nat) (sz : Nat → Int) (wt : Nat → ByteArray) : Prop :=
  ∀ k, k < n → ∃ blk off, a = some ⟨blk, off, none⟩ ∧ w.cell? ⟨blk, off + k * 2, none⟩ = some (.int .u64 (sz k)) ∧ w.cell? ⟨blk, off + k * 2 + 1, none⟩ = some (.string (wt k))

theorem lt_of_cell {w : World} {a : Addr} {v : Value} (h : w.cell? a = some v) : a.block < w.heap.size := by
  rcases Nat.lt_or_ge a.block w.heap.size with h' | h'
  · exact h'
  · simp [World.cell?, Array.getElem?_eq_none h'] at h

theorem EntIs.below {w w' : World} {a : Option Addr} {n : Nat} {nm : Nat → ByteArray} {vl : Nat → Bool} (h : EntIs w a n nm vl) (b : Below w.heap.size w w') : EntIs w' a n nm vl := by
  intro k hk
  obtain ⟨blk, off, ha, h0, h1⟩ := h k hk
  exact ⟨blk, off, ha, by rw [b.cell (lt_of_cell h0)]; exact h0, by rw [b.cell (lt_of_cell h1)]; exact h1⟩
theorem StpIs.below {w w' : World} {a : Option Addr} {n : Nat} {sz : Nat → Int} {wt : Nat → ByteArray} (h : StpIs w a n sz wt) (b : Below w.heap.size w w') : StpIs w' a n sz wt := by
  intro k hk
  obtain ⟨blk, off, ha, h0, h1⟩ := h k hk
  exact ⟨blk, off, ha, by rw [b.cell (lt_of_cell h0)]; exact h0, by rw [b.cell (lt_of_cell h1)]; exact h1⟩

theorem str_ne {t s : ByteArray} (h : ¬ t = s) : (t.toList == s.toList) = false := by
  rw [ByteArray.toList_eq, ByteArray.toList_eq]
  simp
  intro e
  apply h
  cases t; cases s
  congr 1

/-- Some j from lo on, below hi, of which p holds. -/
def ex (p : Nat → Bool) (lo hi : Nat) : Bool := (List.range hi).any (fun j => decide (lo ≤ j) && p j)

theorem ex_iff (p : Nat → Bool) (lo hi : Nat) : ex p lo hi = true ↔ ∃ j, lo ≤ j ∧ j < hi ∧ p j = true := by
  simp [ex, List.any_eq_true, List.mem_range]
  constructor
  · rintro ⟨j, a, b, c⟩; exact ⟨j, b, a, c⟩
  · rintro ⟨j, a, b, c⟩; exact ⟨j, b, a, c⟩
theorem ex_true {p : Nat → Bool} {lo hi j : Nat} (h0 : lo ≤ j) (h1 : j < hi) (hp : p j = true) : ex p lo hi = true := (ex_iff p lo hi).2 ⟨j, h0, h1, hp⟩
theorem ex_false {p : Nat → Bool} {lo hi : Nat} (h : ∀ j, lo ≤ j → j < hi → p j = false) : ex p lo hi = false := by
  cases e : ex p lo hi with
  | false => rfl
  | true =>
    obtain ⟨j, a, b, c⟩ := (ex_iff p lo hi).1 e
    rw [h j a b] at c; cases c

set_option maxHeartbeats 400000 in
theorem nameIn7 (a : Option Addr) (n cap : Nat) (nm : Nat → ByteArray) (vl : Nat → Bool) (s : ByteArray) (w : World) (h : EntIs w a n nm vl) (hn : n ≤ 4096) :
    Calls Try.prog 7 #[.slice a n cap, .string s] w fun e w' => e = .returned (.bool (ex (fun j => decide (nm j = s)) 0 n)) ∧ w' = w := by
  have HE : Hid (EntIs w a n nm vl) := h
  clear h
  go_enter Try.func7, Try.ntmps7
  go_wp2
  go_loop [5] (fun v => ∃ k : Nat, k ≤ n ∧ v = .int .i64 k ∧ Hid (∀ j, 0 ≤ j → j < k → decide (nm j = s) = false)) (fun v => n - (intOf v).toNat)
  case atStart => exact ⟨0, Nat.zero_le _, rfl, fun j _ hj => absurd hj (Nat.not_lt_zero _)⟩
  case round =>
    obtain ⟨k, hk, rfl, HA⟩ := hrel
    by_cases hlt : k < n
    · obtain ⟨blk, off, rfl, c0, c1⟩ := HE.out k hlt
      have hkz : (k : Int) < (n : Int) := by omega
      by_cases he : nm k = s
      · have HX : Hid (ex (fun j => decide (nm j = s)) 0 n = true) := ex_true (Nat.zero_le k) hlt (by simp [he])
        generalize nm k = t at c0 he
        go_wp2
        go_ret
        exact ⟨by rw [HX.out]; rfl, rfl⟩
      · have HA2 : Hid (∀ j, 0 ≤ j → j < k + 1 → decide (nm j = s) = false) := fun j h0 h1 => by
          by_cases hj : j = k
          · subst hj; simp [he]
          · exact HA.out j h0 (by omega)
        generalize nm k = t at c0 he
        have heb := str_ne he
        clear HA
        go_wp2
        go_round
        case rel => exact ⟨k + 1, by omega, by go_num, HA2⟩
        case measure => simp [intOf]; omega
    · have hkn : k = n := by omega
      subst hkn
      have HX : Hid (ex (fun j => decide (nm j = s)) 0 k = false) := ex_false HA.out
      go_wp2
      go_ret
      exact ⟨by rw [HX.out]; rfl, rfl⟩

set_option maxHeartbeats 400000 in
theorem witIn8 (a : Option Addr) (n cap : Nat) (sz : Nat → Int) (wt : Nat → ByteArray) (lo hi : Nat) (s : ByteArray) (w : World) (h : StpIs w a n sz wt) (hn : n ≤ 4096) (hlo : lo ≤ hi) (hhi : hi ≤ n) :
    Calls Try.prog 8 #[.slice a n cap, .int .i64 lo, .int .i64 hi, .string s] w fun e w' => e = .returned (.bool (ex (fun j => decide (wt j = s)) lo hi)) ∧ w' = w := by
  have HE : Hid (StpIs w a n sz wt) := h
  clear h
  go_enter Try.func8, Try.ntmps8
  go_wp2
  go_loop [9] (fun v => ∃ k : Nat, lo ≤ k ∧ k ≤ hi ∧ v = .int .i64 k ∧ Hid (∀ j, lo ≤ j → j < k → decide (wt j = s) = false)) (fun v => hi - (intOf v).toNat)
  case atStart => exact ⟨lo, Nat.le_refl _, hlo, rfl, fun j h1 hj => by omega⟩
  case round =>
    obtain ⟨k, hk0, hk, rfl, HA⟩ := hrel
    by_cases hlt : k < hi
    · obtain ⟨blk, off, rfl, c0, c1⟩ := HE.out k (by omega)
      have hkz : (k : Int) < (hi : Int) := by omega
      have hkn : (k : Int) < (n : Int) := by omega
      by_cases he : wt k = s
      · have HX : Hid (ex (fun j => decide (wt j = s)) lo hi = true) := ex_true hk0 hlt (by simp [he])
        generalize wt k = t at c1 he
        go_wp2
        go_ret
        exact ⟨by rw [HX.out]; rfl, rfl⟩
      · have HA2 : Hid (∀ j, lo ≤ j → j < k + 1 → decide (wt j = s) = false) := fun j h0 h1 => by
          by_cases hj : j = k
          · subst hj; simp [he]
          · exact HA.out j h0 (by omega)
        generalize wt k = t at c1 he
        have heb := str_ne he
        clear HA
        go_wp2
        go_round
        case rel => exact ⟨k + 1, by omega, by omega, by go_num, HA2⟩
        case measure => simp [intOf]; omega
    · have hkn : k = hi := by omega
      subst hkn
      have HX : Hid (ex (fun j => decide (wt j = s)) lo k = false) := ex_false HA.out
      go_wp2
      go_ret
      exact ⟨by rw [HX.out]; rfl, rfl⟩

set_option maxHeartbeats 400000 in
theorem later6 (a : Option Addr) (n cap : Nat) (nm : Nat → ByteArray) (vl : Nat → Bool) (i : Nat) (w : World) (h : EntIs w a n nm vl) (hn : n ≤ 4096) (hi : i < n) :
    Calls Try.prog 6 #[.slice a n cap, .int .i64 i] w fun e w' => e = .returned (.bool (ex (fun j => decide (nm j = nm i)) (i + 1) n)) ∧ ∃ q, w' = w.drewN q := by
  have HE : Hid (EntIs w a n nm vl) := h
  clear h
  obtain ⟨blk, off, rfl, d0, d1⟩ := HE.out i hi
  generalize hs : nm i = s at d0 ⊢
  have i1 : (i : Int) < (n : Int) := by omega
  clear hs d1
  go_enter Try.func6, Try.ntmps6
  go_wp2
  go_loopw [5] (fun v wr => ∃ k : Nat, i + 1 ≤ k ∧ k ≤ n ∧ v = .int .i64 k ∧ Hid (∀ j, i + 1 ≤ j → j < k → decide (nm j = s) = false) ∧ Hid (∃ q, wr = w.drewN q)) (fun v _ => n - (intOf v).toNat)
  case atStart => exact ⟨i + 1, Nat.le_refl _, by omega, by go_num, fun j h1 hj => by omega, 0, rfl⟩
  case round =>
    obtain ⟨k, hk0, hk, rfl, HA, HW⟩ := hrel
    obtain ⟨q0, hq0⟩ := HW.out
    rename World => w5
    subst hq0
    by_cases hlt : k < n
    · obtain ⟨blk', off', hbo, c0, c1⟩ := HE.out k hlt
      obtain ⟨rfl, rfl⟩ : blk = blk' ∧ off = off' := by simpa using hbo
      clear hbo HW
      have hkz : (k : Int) < (n : Int) := by omega
      by_cases he : nm k = s
      · have HX : Hid (ex (fun j => decide (nm j = s)) (i + 1) n = true) := ex_true hk0 hlt (by simp [he])
        generalize nm k = t at c0 he
        go_wp2
        go_quiet (fail)
        go_wp2
        go_ret
        exact ⟨by rw [HX.out]; rfl, _, by first | rfl | exact World.drewN_drewN ..⟩
      · have HA2 : Hid (∀ j, i + 1 ≤ j → j < k + 1 → decide (nm j = s) = false) := fun j h0 h1 => by
          by_cases hj : j = k
          · subst hj; simp [he]
          · exact HA.out j h0 (by omega)
        generalize nm k = t at c0 he
        have heb := str_ne he
        clear HA
        go_wp2
        go_quiet (fail)
        go_wp2
        go_roundw
        case rel => exact ⟨k + 1, by omega, by omega, by go_num, HA2, _, by first | rfl | exact World.drewN_drewN ..⟩
        case measure => simp [intOf]; omega
    · have hkn : k = n := by omega
      subst hkn
      have HX : Hid (ex (fun j => decide (nm j = s)) (i + 1) k = false) := ex_false HA.out
      go_wp2
      go_ret
      exact ⟨by rw [HX.out]; rfl, _, by first | rfl | exact World.drewN_drewN ..⟩

end Go.Proofs.Qxb6617634a.Mp
