import Derived.Test.Qxb6616124aTree
namespace Go.Proofs.Qxb6616124a.Tr
open Go.RowKit
open Go.Proofs.Qxb6616124a.Flt (F)

/-- Three words: the one that is written, the two that are read. -/
structure Sum3 (w : World) (n l r : Addr) (a b : Nat) : Prop where
  nl : l ≠ n
  nr : r ≠ n
  cl : w.cell? l = some (.int .u64 (F a))
  cr : w.cell? r = some (.int .u64 (F b))
  cn : ∃ c : Nat, w.cell? n = some (.int .u64 c)
  fn : w.frozen? n = false

theorem Sum3.drew {w : World} {n l r : Addr} {a b : Nat} (h : Sum3 w n l r a b) : Sum3 w.drew n l r a b := ⟨h.nl, h.nr, h.cl, h.cr, h.cn, h.fn⟩
theorem Sum3.drewN {w : World} {n l r : Addr} {a b : Nat} (h : Sum3 w n l r a b) (q : Nat) : Sum3 (w.drewN q) n l r a b := ⟨h.nl, h.nr, h.cl, h.cr, h.cn, h.fn⟩

theorem Sum3.left {w : World} {n l r : Addr} {a b : Nat} (h : Sum3 w n l r a b) : Calls Try.prog 14 #[.pointer (some l)] w fun e w' => e = .returned (.float .f64 (F a)) ∧ w' = w := loadFloat14 l _ w h.cl
theorem Sum3.right {w : World} {n l r : Addr} {a b : Nat} (h : Sum3 w n l r a b) : Calls Try.prog 14 #[.pointer (some r)] w fun e w' => e = .returned (.float .f64 (F b)) ∧ w' = w := loadFloat14 r _ w h.cr

theorem Sum3.write {w : World} {n l r : Addr} {a b : Nat} (h : Sum3 w n l r a b) (v : Nat) : Calls Try.prog 12 #[.pointer (some n), .float .f64 (F v)] w fun e w' => e = .returned (.tuple #[]) ∧ Upd w n (.int .u64 (F v)) w' ∧ Sum3 w' n l r a b := by
  obtain ⟨c, hc⟩ := h.cn
  refine (storeFloat12 n c (F v) w hc h.fn).mono ?_
  rintro e w1 ⟨rfl, hu⟩
  exact ⟨rfl, hu, ⟨h.nl, h.nr, by rw [hu.other _ h.nl]; exact h.cl, by rw [hu.other _ h.nr]; exact h.cr, ⟨_, hu.here⟩, by rw [hu.frozen]; exact h.fn⟩⟩

set_option maxHeartbeats 1000000 in
theorem sum13 (tb nb N i : Nat) (m u s : Nat → Nat) (w : World) (h : Tree w tb nb N m u s) (hi0 : 0 < i) (hi : 2 * i + 1 < N) (hN : N ≤ 262144)
    (hm : m (2 * i) + m (2 * i + 1) < 2 ^ 53) (hu : u (2 * i) + u (2 * i + 1) < 2 ^ 53) :
    Calls Try.prog 13 #[.pointer (some ⟨tb, 0, none⟩), .int .i64 i] w fun e w' =>
      e = .returned (.tuple #[]) ∧ Tree w' tb nb N (put m i (m (2 * i) + m (2 * i + 1))) (put u i (u (2 * i) + u (2 * i + 1))) s ∧ ∀ B, B ≤ nb → Below B w w' := by
  have hd := h.hd
  have H : Hid (Tree w tb nb N m u s) := h
  have HI : Hid (0 < i) := hi0
  clear h hi0
  have am : ∀ t w', (binOp .add t (.float .f64 (F (m (2 * i)))) (.float .f64 (F (m (2 * i + 1))))).run Try.prog w' = .ok (.float .f64 (F (m (2 * i) + m (2 * i + 1)))) w' := fun t w' => run_float_arith w' .add t .f64 _ _ _ (Flt.add_F _ _ hm)
  have au : ∀ t w', (binOp .add t (.float .f64 (F (u (2 * i)))) (.float .f64 (F (u (2 * i + 1))))).run Try.prog w' = .ok (.float .f64 (F (u (2 * i) + u (2 * i + 1)))) w' := fun t w' => run_float_arith w' .add t .f64 _ _ _ (Flt.add_F _ _ hu)
  have HM : Hid (m (2 * i) + m (2 * i + 1) < 2 ^ 53) := hm
  have HU : Hid (u (2 * i) + u (2 * i + 1) < 2 ^ 53) := hu
  clear hm hu
  have i0 : (0 : Int) ≤ (i : Int) := by omega
  have i1 : (i : Int) < (N : Int) := by omega
  have i2 : 2 * (i : Int) < (N : Int) := by omega
  have i3 : 2 * (i : Int) + 1 < (N : Int) := by omega
  have i4 : (i : Int) ≤ 262144 := by omega
  go_enter Try.func13, Try.ntmps13
  go_wp2
  go_quiet (fail)
  go_wp2
  have S1 : Sum3 (w.drewN nq) ⟨nb, i * 3, none⟩ ⟨nb, 2 * i * 3, none⟩ ⟨nb, (2 * i + 1) * 3, none⟩ (m (2 * i)) (m (2 * i + 1)) :=
    ⟨off_ne _ _ _ (by have := HI.out; omega), off_ne _ _ _ (by have := HI.out; omega), H.out.cm _ (by omega), H.out.cm _ (by omega), ⟨_, H.out.cm i (by omega)⟩, H.out.fr _⟩
  have H0 : Hid (Tree (w.drewN nq) tb nb N m u s) := H.out.drewN nq
  have HB0 : Hid (∀ B, B ≤ nb → Below B w (w.drewN nq)) := fun B hB => below_drewN (Below.refl B w) nq
  clear hd H
  generalize w.drewN nq = w0 at *
  go_region_held3 (fun w' => Sum3 w' ⟨nb, i * 3, none⟩ ⟨nb, 2 * i * 3, none⟩ ⟨nb, (2 * i + 1) * 3, none⟩ (m (2 * i)) (m (2 * i + 1)))
    (first | assumption | (refine Sum3.drew ?_; assumption))
    (first | (go_at_call 14; refine (Sum3.left (by assumption)).mono ?_; rintro e w' ⟨rfl, rfl⟩) | (go_at_call 14; refine (Sum3.right (by assumption)).mono ?_; rintro e w' ⟨rfl, rfl⟩) | (go_at_call 12; refine (Sum3.write (by assumption) _).mono ?_; rintro e w' ⟨rfl, hupd, hs3⟩))
  rename World => w1
  clear hs3 ‹Sum3 w1 _ _ _ _ _› S1
  have H1 : Hid (Tree w1 tb nb N (put m i (m (2 * i) + m (2 * i + 1))) u s) := (H0.out.drewN 1).m_upd hupd
  have HB1 : Hid (∀ B, B ≤ nb → Below B w w1) := fun B hB => ((HB0.out B hB).drew).trans (hupd.below B hB)
  clear hupd H0 HB0
  go_wp2
  have S1 : Sum3 w1 ⟨nb, i * 3 + 1, none⟩ ⟨nb, 2 * i * 3 + 1, none⟩ ⟨nb, (2 * i + 1) * 3 + 1, none⟩ (u (2 * i)) (u (2 * i + 1)) :=
    ⟨off_ne _ _ _ (by have := HI.out; omega), off_ne _ _ _ (by have := HI.out; omega), H1.out.cu _ (by omega), H1.out.cu _ (by omega), ⟨_, H1.out.cu i (by omega)⟩, H1.out.fr _⟩
  go_region_held3 (fun w' => Sum3 w' ⟨nb, i * 3 + 1, none⟩ ⟨nb, 2 * i * 3 + 1, none⟩ ⟨nb, (2 * i + 1) * 3 + 1, none⟩ (u (2 * i)) (u (2 * i + 1)))
    (first | assumption | (refine Sum3.drew ?_; assumption))
    (first | (go_at_call 14; refine (Sum3.left (by assumption)).mono ?_; rintro e w' ⟨rfl, rfl⟩) | (go_at_call 14; refine (Sum3.right (by assumption)).mono ?_; rintro e w' ⟨rfl, rfl⟩) | (go_at_call 12; refine (Sum3.write (by assumption) _).mono ?_; rintro e w' ⟨rfl, hupd, hs3⟩))
  rename World => w2
  clear hs3 ‹Sum3 w2 _ _ _ _ _› S1
  have H2 : Hid (Tree w2 tb nb N (put m i (m (2 * i) + m (2 * i + 1))) (put u i (u (2 * i) + u (2 * i + 1))) s) := (H1.out.drewN 1).u_upd hupd
  have HB2 : Hid (∀ B, B ≤ nb → Below B w w2) := fun B hB => ((HB1.out B hB).drew).trans (hupd.below B hB)
  clear hupd H1 HB1
  go_wp2
  first | go_end0 | refine bodyPost_ret (results_none rfl _ _ _) rfl ?_
  exact ⟨rfl, H2, HB2⟩

theorem sum10 (tb nb N i : Nat) (m u s : Nat → Nat) (w : World) (h : Tree w tb nb N m u s) (hi0 : 0 < i) (hi : 2 * i + 1 < N) (hN : N ≤ 262144)
    (hm : m (2 * i) + m (2 * i + 1) < 2 ^ 53) (hu : u (2 * i) + u (2 * i + 1) < 2 ^ 53) :
    Calls Try.prog 10 #[.pointer (some ⟨tb, 0, none⟩), .int .i64 i] w fun e w' =>
      e = .returned (.tuple #[]) ∧ Tree w' tb nb N (put m i (m (2 * i) + m (2 * i + 1))) (put u i (u (2 * i) + u (2 * i + 1))) s ∧ ∀ B, B ≤ nb → Below B w w' := by
  have key := sum13 tb nb N i m u s w h hi0 hi hN hm hu
  clear h hi0 hi hN hm hu
  go_enter Try.func10, Try.ntmps10
  go_wp2_with fail
  refine key.mono ?_
  rintro e w1 ⟨rfl, H1, HB⟩
  have H1' : Hid (Tree w1 tb nb N (put m i (m (2 * i) + m (2 * i + 1))) (put u i (u (2 * i) + u (2 * i + 1))) s) := H1
  have HB' : Hid (∀ B, B ≤ nb → Below B w w1) := HB
  clear H1 HB key
  go_wp2
  first | go_end0 | refine bodyPost_ret (results_none rfl _ _ _) rfl ?_
  exact ⟨rfl, H1', HB'⟩

end Go.Proofs.Qxb6616124a.Tr
