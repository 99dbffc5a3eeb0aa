import Derived.Test.Qxb6616008aRows
import Derived.Test.Qxb6616008aPlain
import Derived.WalkKit
import Derived.ProofKit
import Derived.OpenShut
import Derived.Deep.QuietTactic
import Derived.BigQuiet
import Derived.Deep.RegionWith
import Derived.Deep.Draws
namespace Go.Proofs.Qxb6616008a.Pos
open Go.RowKit

theorem pos14 (ai ao bi bo : Int) (w : World) :
    Calls Try.prog 14 #[.int .i64 ai, .int .i64 ao, .int .i64 bi, .int .i64 bo] w fun e w' => e = .returned (.bool (pb ai ao bi bo)) ∧ w' = w := by
  by_cases h : ai = bi
  · have hb : (ai != bi) = false := by simp [h]
    have e : pb ai ao bi bo = decide (ao < bo) := by simp [pb, h]
    rw [e]
    have H : Hid (ai = bi) := h
    clear h e
    go_enter Try.func14, Try.ntmps14
    go_wp2
    go_ret
    exact ⟨rfl, rfl⟩
  · have hb : (ai != bi) = true := by simp [h]
    have e : pb ai ao bi bo = decide (ai < bi) := by simp [pb, h]
    rw [e]
    clear h e
    go_enter Try.func14, Try.ntmps14
    go_wp2
    go_ret
    exact ⟨rfl, rfl⟩

theorem pos14' {v : Bool} (ai ao bi bo : Int) (w : World) (h : pb ai ao bi bo = v) :
    Calls Try.prog 14 #[.int .i64 ai, .int .i64 ao, .int .i64 bi, .int .i64 bo] w fun e w' => e = .returned (.bool v) ∧ w' = w := by
  rw [← h]; exact pos14 ai ao bi bo w

/-- The slice's elements are the records rs. -/
def PendIs (w : World) (a : Option Addr) (rs : List Rec) : Prop :=
  ∀ j, j < rs.length → ∃ blk off, a = some ⟨blk, off, none⟩ ∧
    w.cell? ⟨blk, off + j * 5, none⟩ = some (.int .i64 (rs.getD j zero).ai) ∧ w.cell? ⟨blk, off + j * 5 + 1, none⟩ = some (.int .i64 (rs.getD j zero).ao) ∧
    w.cell? ⟨blk, off + j * 5 + 2, none⟩ = some (.int .i64 (rs.getD j zero).ei) ∧ w.cell? ⟨blk, off + j * 5 + 3, none⟩ = some (.int .i64 (rs.getD j zero).eo) ∧
    w.cell? ⟨blk, off + j * 5 + 4, none⟩ = some (.bool (rs.getD j zero).st)

set_option maxHeartbeats 400000 in
theorem seen10 (fi fo : Int) (a : Option Addr) (n cap : Nat) (rs : List Rec) (w : World) (hn : n = rs.length) (hm : n ≤ 9223372036854775807) (hp : PendIs w a rs) :
    Calls Try.prog 10 #[.int .i64 fi, .int .i64 fo, .slice a n cap] w fun e w' => e = .returned (.tuple #[.int .i64 (seen fi fo rs).1, .int .i64 (seen fi fo rs).2]) ∧ ∃ q, w' = w.drewN q := by
  have HN : Hid (n = rs.length) := hn
  clear hn
  go_enter Try.func10, Try.ntmps10
  go_wp2
  go_loop [8] (fun i => ∃ k : Nat, k ≤ n ∧ i = .int .i64 k ∧ ∀ j, j < k → (rs.getD j zero).st = true) (fun i => n - (intOf i).toNat)
  case atStart => exact ⟨0, Nat.zero_le _, rfl, fun j hj => absurd hj (Nat.not_lt_zero _)⟩
  case round =>
    obtain ⟨k, hk, rfl, hall⟩ := hrel
    have HA : Hid (∀ j, j < k → (rs.getD j zero).st = true) := hall
    clear hall
    by_cases hlt : k < n
    · obtain ⟨blk, off, rfl, c0, c1, c2, c3, c4⟩ := hp k (by rw [← HN.out]; exact hlt)
      have hP : Hid (PendIs w (some ⟨blk, off, none⟩) rs) := hp
      clear hp
      generalize hr : rs.getD k zero = r at *
      obtain ⟨ai, ao, ei, eo, st⟩ := r
      have HR : Hid (rs.getD k zero = ⟨ai, ao, ei, eo, st⟩) := hr
      clear hr
      simp only at c0 c1 c2 c3 c4
      cases st with
      | true =>
        go_wp2
        go_round
        case rel => exact ⟨k + 1, by omega, by go_num, fun j hj => by
          by_cases e : j = k
          · subst e; rw [HR.out]
          · exact HA.out j (by omega)⟩
        case measure => simp [intOf]; omega
      | false =>
        have hs := seen_at fi fo rs k (by rw [← HN.out]; exact hlt) HA.out (by rw [HR.out])
        rw [HR.out] at hs
        simp only at hs
        have HS : Hid (seen fi fo rs = if pb ai ao fi fo = true then (ai, ao) else (fi, fo)) := hs
        clear hs
        have hkz : (k : Int) < (n : Int) := by omega
        cases hpb : pb ai ao fi fo with
        | true =>
          have HS' : Hid (seen fi fo rs = (ai, ao)) := by have := HS.out; rwa [hpb, if_pos rfl] at this
          clear HS
          go_wp2
          go_quiet ((go_at_call 14; exact Calls.quiet_of_same (pos14' _ _ _ _ _ hpb)))
          go_wp2
          go_quiet (fail)
          go_wp2
          go_ret2
          exact ⟨by rw [HS'.out]; rfl, _, World.drewN_drewN _ _ _⟩
        | false =>
          have HS' : Hid (seen fi fo rs = (fi, fo)) := by have := HS.out; rwa [hpb, if_neg (by simp)] at this
          clear HS
          go_wp2
          go_quiet ((go_at_call 14; exact Calls.quiet_of_same (pos14' _ _ _ _ _ hpb)))
          go_wp2
          go_ret2
          exact ⟨by rw [HS'.out]; rfl, _, rfl⟩
    · have hs := seen_of_all fi fo rs (fun j hj => HA.out j (by have := HN.out; omega))
      have HS : Hid (seen fi fo rs = (fi, fo)) := hs
      clear hs
      go_wp2
      go_ret2
      exact ⟨by rw [HS.out]; rfl, 0, rfl⟩

theorem bytes7 (fi fo ti to : Int) (a : Option Addr) (n cap : Nat) (w : World) (hn : n ≤ 9223372036854775807) :
    Calls Try.prog 7 #[.int .i64 fi, .int .i64 fo, .slice a n cap, .int .i64 ti, .int .i64 to] w fun e w' => e = .returned (.bool (decide (n ≤ 1048576))) ∧ w' = w := by
  by_cases h : n ≤ 1048576
  · have e : decide (n ≤ 1048576) = true := by simpa using h
    rw [e]; clear e
    go_enter Try.func7, Try.ntmps7
    go_wp2
    go_ret
    exact ⟨rfl, rfl⟩
  · have e : decide (n ≤ 1048576) = false := by simpa using h
    rw [e]; clear e
    go_enter Try.func7, Try.ntmps7
    go_wp2
    go_ret
    exact ⟨rfl, rfl⟩

theorem bytes19 (fi fo mi mo ti to : Int) (a : Option Addr) (n cap : Nat) (w : World) (hn : n ≤ 9223372036854775807) :
    Calls Try.prog 19 #[.int .i64 fi, .int .i64 fo, .slice a n cap, .int .i64 mi, .int .i64 mo, .int .i64 ti, .int .i64 to] w fun e w' => e = .returned (.bool (decide (n ≤ 1048576))) ∧ w' = w := by
  by_cases h : n ≤ 1048576
  · have e : decide (n ≤ 1048576) = true := by simpa using h
    rw [e]; clear e
    go_enter Try.func19, Try.ntmps19
    go_wp2
    go_ret
    exact ⟨rfl, rfl⟩
  · have e : decide (n ≤ 1048576) = false := by simpa using h
    rw [e]; clear e
    go_enter Try.func19, Try.ntmps19
    go_wp2
    go_ret
    exact ⟨rfl, rfl⟩

/-- What two more facts 'Ordered' asks at place k. -/
def OrdAt (rs : List Rec) (k : Nat) : Prop :=
  pb (rs.getD k zero).ai (rs.getD k zero).ao (rs.getD k zero).ei (rs.getD k zero).eo = true ∧
  (k + 1 < rs.length → pb (rs.getD (k + 1) zero).ai (rs.getD (k + 1) zero).ao (rs.getD k zero).ei (rs.getD k zero).eo = false)

theorem ordered_of (rs : List Rec) (h : ∀ j, j < rs.length → OrdAt rs j) : Ordered rs :=
  ⟨fun k hk => (h k hk).1, fun k hk => (h k (by omega)).2 hk⟩

theorem PendIs.in {w w' : World} {a : Option Addr} {rs : List Rec} (h : PendIs w a rs) (hc : ∀ x, w'.cell? x = w.cell? x) : PendIs w' a rs := by
  intro j hj
  obtain ⟨blk, off, e, c0, c1, c2, c3, c4⟩ := h j hj
  exact ⟨blk, off, e, by rw [hc]; exact c0, by rw [hc]; exact c1, by rw [hc]; exact c2, by rw [hc]; exact c3, by rw [hc]; exact c4⟩

theorem PendIs.at_ {w : World} {blk off : Nat} {rs : List Rec} (h : PendIs w (some ⟨blk, off, none⟩) rs) (j : Nat) (hj : j < rs.length) :
    w.cell? ⟨blk, off + j * 5, none⟩ = some (.int .i64 (rs.getD j zero).ai) ∧ w.cell? ⟨blk, off + j * 5 + 1, none⟩ = some (.int .i64 (rs.getD j zero).ao) ∧
    w.cell? ⟨blk, off + j * 5 + 2, none⟩ = some (.int .i64 (rs.getD j zero).ei) ∧ w.cell? ⟨blk, off + j * 5 + 3, none⟩ = some (.int .i64 (rs.getD j zero).eo) ∧
    w.cell? ⟨blk, off + j * 5 + 4, none⟩ = some (.bool (rs.getD j zero).st) := by
  obtain ⟨blk', off', e, c⟩ := h j hj
  simp at e
  obtain ⟨rfl, rfl⟩ := e
  exact c

theorem PendIs.drewN {w : World} {a : Option Addr} {rs : List Rec} (h : PendIs w a rs) (q : Nat) : PendIs (w.drewN q) a rs := h.in fun x => by simp

theorem belowN {B : Nat} {a w : World} (h : Below B a w) (n : Nat) : Below B a (w.drewN n) := h.trans ⟨rfl, rfl, rfl, Nat.le_refl _, fun _ _ => rfl⟩

set_option maxHeartbeats 1000000 in
theorem reach8 (fi fo : Int) (a : Option Addr) (n cap : Nat) (rs : List Rec) (w : World) (hn : n = rs.length) (hm : n ≤ 9223372036854775807) (hp : PendIs w a rs) :
    Calls Try.prog 8 #[.int .i64 fi, .int .i64 fo, .slice a n cap] w fun e w' => (∃ v, e = .returned (.bool v) ∧ (v = true → Ordered rs)) ∧ Below w.heap.size w w' := by
  have HN : Hid (n = rs.length) := hn
  clear hn
  have HP : Hid (PendIs w a rs) := hp
  clear hp
  go_enter Try.func8, Try.ntmps8
  go_wp2
  go_loopw [7] (fun i wr => ∃ k : Nat, k ≤ n ∧ i = .int .i64 k ∧ Hid (PendIs wr a rs) ∧ Below w.heap.size w wr ∧ Hid (∀ j, j < k → OrdAt rs j)) (fun i _ => n - (intOf i).toNat)
  case atStart => exact ⟨0, Nat.zero_le _, rfl, HP, Below.refl _ _, fun j hj => absurd hj (Nat.not_lt_zero _)⟩
  case round =>
    clear HP
    obtain ⟨k, hk, rfl, HP, hbel, HA⟩ := hrel
    by_cases hlt : k < n
    · obtain ⟨blk, off, rfl, c0, c1, c2, c3, c4⟩ := HP.out k (by rw [← HN.out]; exact hlt)
      generalize hr : rs.getD k zero = r at *
      obtain ⟨ai, ao, ei, eo, st⟩ := r
      have HR : Hid (rs.getD k zero = ⟨ai, ao, ei, eo, st⟩) := hr
      clear hr
      simp only at c0 c1 c2 c3 c4
      have hkz : (k : Int) < (n : Int) := by omega
      cases hpb : pb ai ao ei eo with
      | false =>
        go_wp2
        go_quiet ((go_at_call 14; exact Calls.quiet_of_same (pos14' _ _ _ _ _ hpb)))
        go_wp2
        go_ret
        exact ⟨⟨false, rfl, fun h => by cases h⟩, belowN hbel _⟩
      | true =>
        by_cases hlt1 : k + 1 < n
        · have hkz1 : (k : Int) + 1 < (n : Int) := by omega
          obtain ⟨d0, d1, d2, d3, d4⟩ := PendIs.at_ HP.out (k + 1) (by rw [← HN.out]; exact hlt1)
          generalize hr : rs.getD (k + 1) zero = r at *
          obtain ⟨ai', ao', ei', eo', st'⟩ := r
          have HR' : Hid (rs.getD (k + 1) zero = ⟨ai', ao', ei', eo', st'⟩) := hr
          clear hr
          simp only at d0 d1 d2 d3 d4
          clear d2 d3 d4 c4
          cases hpb' : pb ai' ao' ei eo with
          | true =>
            go_wp2
            go_quiet ((go_at_call 14; exact Calls.quiet_of_same (pos14' _ _ _ _ _ hpb)))
            replace hbel := belowN hbel nq
            replace c2 : (wr.drewN nq).cell? _ = _ := c2
            replace c3 : (wr.drewN nq).cell? _ = _ := c3
            replace d0 : (wr.drewN nq).cell? _ = _ := d0
            replace d1 : (wr.drewN nq).cell? _ = _ := d1
            clear c0 c1 HP
            generalize wr.drewN nq = w1 at *
            go_wp2
            go_quiet ((go_at_call 14; exact Calls.quiet_of_same (pos14' _ _ _ _ _ hpb')))
            go_wp2
            go_ret
            exact ⟨⟨false, rfl, fun h => by cases h⟩, belowN hbel _⟩
          | false =>
            go_wp2
            go_quiet ((go_at_call 14; exact Calls.quiet_of_same (pos14' _ _ _ _ _ hpb)))
            replace hbel := belowN hbel nq
            replace HP : Hid (PendIs (wr.drewN nq) (some ⟨blk, off, none⟩) rs) := HP.out.drewN nq
            replace c2 : (wr.drewN nq).cell? _ = _ := c2
            replace c3 : (wr.drewN nq).cell? _ = _ := c3
            replace d0 : (wr.drewN nq).cell? _ = _ := d0
            replace d1 : (wr.drewN nq).cell? _ = _ := d1
            clear c0 c1
            generalize wr.drewN nq = w1 at *
            go_wp2
            go_quiet ((go_at_call 14; exact Calls.quiet_of_same (pos14' _ _ _ _ _ hpb')))
            go_wp2
            go_roundw
            case rel => exact ⟨k + 1, by omega, by go_num, HP.out.drewN _, belowN hbel _, fun j hj => by
              by_cases e : j = k
              · subst e; unfold OrdAt; rw [HR.out, HR'.out]; exact ⟨hpb, fun _ => hpb'⟩
              · exact HA.out j (by omega)⟩
            case measure => simp [intOf]; omega
        · have hd : decide ((k : Int) + 1 < (n : Int)) = false := by simp; omega
          clear c4
          go_wp2
          go_quiet ((go_at_call 14; exact Calls.quiet_of_same (pos14' _ _ _ _ _ hpb)))
          replace hbel := belowN hbel nq
          replace HP : Hid (PendIs (wr.drewN nq) (some ⟨blk, off, none⟩) rs) := HP.out.drewN nq
          clear c0 c1 c2 c3
          generalize wr.drewN nq = w1 at *
          go_wp2
          go_quiet (fail)
          go_wp2
          go_roundw
          case rel => exact ⟨k + 1, by omega, by go_num, HP.out.drewN _, belowN hbel _, fun j hj => by
              by_cases e : j = k
              · subst e; unfold OrdAt; rw [HR.out]; exact ⟨hpb, fun h => absurd h (by have := HN.out; omega)⟩
              · exact HA.out j (by omega)⟩
          case measure => simp [intOf]; omega
    · have hord : Hid (Ordered rs) := ordered_of rs fun j hj => HA.out j (by have := HN.out; omega)
      clear HA
      by_cases hn0 : n = 0
      · have hz : ((n : Int) == 0) = true := by simp [hn0]
        have HN0 : Hid (n = 0) := hn0
        clear hn0
        go_wp2
        go_ret
        exact ⟨⟨true, rfl, fun _ => hord.out⟩, hbel⟩
      · have hz : ((n : Int) == 0) = false := by simp [hn0]
        obtain ⟨blk, off, rfl, c0, c1, c2, c3, c4⟩ := HP.out 0 (by rw [← HN.out]; omega)
        generalize hr : rs.getD 0 zero = r at *
        obtain ⟨ai, ao, ei, eo, st⟩ := r
        clear hr
        simp only [Nat.zero_mul, Nat.add_zero] at c0 c1 c2 c3 c4
        clear c2 c3 c4
        have e0 := PendIs.at_ HP.out (n - 1) (by rw [← HN.out]; omega)
        generalize rs.getD (n - 1) zero = r1 at e0
        obtain ⟨ai1, ao1, ei1, eo1, st1⟩ := r1
        obtain ⟨e0, e1, e2, e3, e4⟩ := e0
        simp only at e0 e1 e2 e3 e4
        go_wp2_with fail
        refine (seen10 fi fo _ n cap rs _ HN.out hm HP.out).mono ?_
        rintro e w1 ⟨rfl, q1, rfl⟩
        generalize seen fi fo rs = sp
        obtain ⟨si, so⟩ := sp
        replace hbel := belowN hbel q1
        replace c0 : (wr.drewN q1).cell? _ = _ := c0
        replace c1 : (wr.drewN q1).cell? _ = _ := c1
        replace e0 : (wr.drewN q1).cell? _ = _ := e0
        replace e1 : (wr.drewN q1).cell? _ = _ := e1
        replace e2 : (wr.drewN q1).cell? _ = _ := e2
        replace e3 : (wr.drewN q1).cell? _ = _ := e3
        replace e4 : (wr.drewN q1).cell? _ = _ := e4
        clear HP
        generalize wr.drewN q1 = w1 at *
        have hnz : (0 : Int) < (n : Int) := by omega
        cases hpb : pb ai ao si so with
        | true =>
          go_wp2
          go_quiet ((go_at_call 14; exact Calls.quiet_of_same (pos14' _ _ _ _ _ hpb)))
          go_wp2
          go_ret
          exact ⟨⟨false, rfl, fun h => by cases h⟩, belowN hbel _⟩
        | false =>
          go_wp2
          go_quiet ((go_at_call 14; exact Calls.quiet_of_same (pos14' _ _ _ _ _ hpb)))
          replace hbel := belowN hbel nq
          replace e0 : (w1.drewN nq).cell? _ = _ := e0
          replace e1 : (w1.drewN nq).cell? _ = _ := e1
          replace e2 : (w1.drewN nq).cell? _ = _ := e2
          replace e3 : (w1.drewN nq).cell? _ = _ := e3
          replace e4 : (w1.drewN nq).cell? _ = _ := e4
          clear c0 c1
          generalize w1.drewN nq = w2 at *
          go_wp2_with (go_at_call 14; refine (pos14 _ _ _ _ _).mono ?_; rintro e w' ⟨rfl, rfl⟩)
          go_ret
          exact ⟨⟨_, rfl, fun _ => hord.out⟩, hbel.alloc hbel.size _⟩

set_option maxHeartbeats 1000000 in
theorem target9 (fi fo ti to : Int) (a : Option Addr) (n cap : Nat) (rs : List Rec) (w : World) (hn : n = rs.length) (hm : n ≤ 9223372036854775807) (hp : PendIs w a rs) :
    Calls Try.prog 9 #[.int .i64 fi, .int .i64 fo, .slice a n cap, .int .i64 ti, .int .i64 to] w fun e w' => (∃ v, e = .returned (.bool v) ∧ (v = true → pb ti to fi fo = false)) ∧ Below w.heap.size w w' := by
  have HN : Hid (n = rs.length) := hn
  clear hn
  have HP : Hid (PendIs w a rs) := hp
  clear hp
  cases hpb : pb ti to fi fo with
  | true =>
    clear HP
    go_enter Try.func9, Try.ntmps9
    go_wp2_with (go_at_call 14; refine (pos14' _ _ _ _ _ hpb).mono ?_; rintro e w' ⟨rfl, rfl⟩)
    go_ret
    exact ⟨⟨false, rfl, fun h => by cases h⟩, Below.refl _ _⟩
  | false =>
    by_cases hn0 : n = 0
    · have hz : ((n : Int) == 0) = true := by simp [hn0]
      clear hn0 HP
      cases ht : (ti == fi) with
      | true =>
        go_enter Try.func9, Try.ntmps9
        go_wp2_with (go_at_call 14; refine (pos14' _ _ _ _ _ hpb).mono ?_; rintro e w' ⟨rfl, rfl⟩)
        go_ret
        exact ⟨⟨_, rfl, fun _ => by first | trivial | rfl⟩, Below.refl _ _⟩
      | false =>
        go_enter Try.func9, Try.ntmps9
        go_wp2_with (go_at_call 14; refine (pos14' _ _ _ _ _ hpb).mono ?_; rintro e w' ⟨rfl, rfl⟩)
        go_ret
        exact ⟨⟨_, rfl, fun _ => by first | trivial | rfl⟩, Below.refl _ _⟩
    · have hz : ((n : Int) == 0) = false := by simp [hn0]
      obtain ⟨blk, off, rfl, e0, e1, e2, e3, e4⟩ := HP.out (n - 1) (by rw [← HN.out]; omega)
      generalize rs.getD (n - 1) zero = r1 at e0 e1 e2 e3 e4
      obtain ⟨ai1, ao1, ei1, eo1, st1⟩ := r1
      simp only at e0 e1 e2 e3 e4
      clear HP
      have hnz : (0 : Int) < (n : Int) := by omega
      go_enter Try.func9, Try.ntmps9
      go_wp2_with fail
      refine (pos14' _ _ _ _ _ hpb).mono ?_
      rintro e w' ⟨rfl, rfl⟩
      go_wp2_with fail
      refine (pos14 _ _ _ _ _).mono ?_
      rintro e w' ⟨rfl, rfl⟩
      go_wp2
      go_ret
      exact ⟨⟨_, rfl, fun _ => by first | trivial | rfl⟩, (Below.refl _ _).alloc (Nat.le_refl _) _⟩
end Go.Proofs.Qxb6616008a.Pos
