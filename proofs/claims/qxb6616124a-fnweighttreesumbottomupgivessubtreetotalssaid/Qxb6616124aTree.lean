import Derived.Test.Qxb6616124aFl
namespace Go.Proofs.Qxb6616124a.Tr
open Go.RowKit
open Go.Proofs.Qxb6616124a.Flt (F)

/-- The tree's head and its nodes: N nodes, the words m, u, the static numbers s. -/
structure Tree (w : World) (tb nb N : Nat) (m u s : Nat → Nat) : Prop where
  ne : tb ≠ nb
  hd : w.cell? ⟨tb, 3, none⟩ = some (.slice (some ⟨nb, 0, none⟩) N N)
  cm : ∀ i, i < N → w.cell? ⟨nb, i * 3, none⟩ = some (.int .u64 (F (m i)))
  cu : ∀ i, i < N → w.cell? ⟨nb, i * 3 + 1, none⟩ = some (.int .u64 (F (u i)))
  cs : ∀ i, i < N → w.cell? ⟨nb, i * 3 + 2, none⟩ = some (.float .f64 (F (s i)))
  fr : ∀ i, w.frozen? ⟨nb, i, none⟩ = false

def put (f : Nat → Nat) (i v : Nat) : Nat → Nat := fun j => if j = i then v else f j

theorem put_same (f : Nat → Nat) (i v : Nat) : put f i v i = v := if_pos rfl
theorem put_other (f : Nat → Nat) (i v j : Nat) (h : j ≠ i) : put f i v j = f j := if_neg h

theorem off_ne (nb x y : Nat) (h : x ≠ y) : (⟨nb, x, none⟩ : Addr) ≠ ⟨nb, y, none⟩ := fun e => by injection e; contradiction
theorem blk_ne (a b x y : Nat) (h : a ≠ b) : (⟨a, x, none⟩ : Addr) ≠ ⟨b, y, none⟩ := fun e => by injection e; contradiction

theorem Tree.m_upd {w w' : World} {tb nb N i v : Nat} {m u s : Nat → Nat} (h : Tree w tb nb N m u s) (k : Upd w ⟨nb, i * 3, none⟩ (.int .u64 (F v)) w') : Tree w' tb nb N (put m i v) u s := by
  refine ⟨h.ne, ?_, ?_, ?_, ?_, ?_⟩
  · rw [k.other _ (blk_ne _ _ _ _ h.ne)]; exact h.hd
  · intro j hj
    by_cases e : j = i
    · subst e; rw [put_same]; exact k.here
    · rw [put_other _ _ _ _ e, k.other _ (off_ne _ _ _ (by omega))]; exact h.cm j hj
  · intro j hj
    rw [k.other _ (off_ne _ _ _ (by omega))]; exact h.cu j hj
  · intro j hj
    rw [k.other _ (off_ne _ _ _ (by omega))]; exact h.cs j hj
  · intro j; rw [k.frozen]; exact h.fr j

theorem Tree.u_upd {w w' : World} {tb nb N i v : Nat} {m u s : Nat → Nat} (h : Tree w tb nb N m u s) (k : Upd w ⟨nb, i * 3 + 1, none⟩ (.int .u64 (F v)) w') : Tree w' tb nb N m (put u i v) s := by
  refine ⟨h.ne, ?_, ?_, ?_, ?_, ?_⟩
  · rw [k.other _ (blk_ne _ _ _ _ h.ne)]; exact h.hd
  · intro j hj
    rw [k.other _ (off_ne _ _ _ (by omega))]; exact h.cm j hj
  · intro j hj
    by_cases e : j = i
    · subst e; rw [put_same]; exact k.here
    · rw [put_other _ _ _ _ e, k.other _ (off_ne _ _ _ (by omega))]; exact h.cu j hj
  · intro j hj
    rw [k.other _ (off_ne _ _ _ (by omega))]; exact h.cs j hj
  · intro j; rw [k.frozen]; exact h.fr j

theorem Tree.s_upd {w w' : World} {tb nb N i v : Nat} {m u s : Nat → Nat} (h : Tree w tb nb N m u s) (k : Upd w ⟨nb, i * 3 + 2, none⟩ (.float .f64 (F v)) w') : Tree w' tb nb N m u (put s i v) := by
  refine ⟨h.ne, ?_, ?_, ?_, ?_, ?_⟩
  · rw [k.other _ (blk_ne _ _ _ _ h.ne)]; exact h.hd
  · intro j hj
    rw [k.other _ (off_ne _ _ _ (by omega))]; exact h.cm j hj
  · intro j hj
    rw [k.other _ (off_ne _ _ _ (by omega))]; exact h.cu j hj
  · intro j hj
    by_cases e : j = i
    · subst e; rw [put_same]; exact k.here
    · rw [put_other _ _ _ _ e, k.other _ (off_ne _ _ _ (by omega))]; exact h.cs j hj
  · intro j; rw [k.frozen]; exact h.fr j

theorem Tree.drewN {w : World} {tb nb N : Nat} {m u s : Nat → Nat} (h : Tree w tb nb N m u s) (q : Nat) : Tree (w.drewN q) tb nb N m u s :=
  ⟨h.ne, h.hd, h.cm, h.cu, h.cs, h.fr⟩

set_option maxHeartbeats 400000 in
theorem setNode7 (tb nb N i vm vu : Nat) (m u s : Nat → Nat) (w : World) (h : Tree w tb nb N m u s) (hi : i < N) :
    Calls Try.prog 7 #[.pointer (some ⟨tb, 0, none⟩), .int .i64 i, .float .f64 (F vm), .float .f64 (F vu)] w fun e w' =>
      e = .returned (.tuple #[]) ∧ Tree w' tb nb N (put m i vm) (put u i vu) s ∧ ∀ B, B ≤ nb → Below B w w' := by
  have H : Hid (Tree w tb nb N m u s) := h
  have hd := h.hd
  clear h
  have i0 : (0 : Int) ≤ (i : Int) := by omega
  have i1 : (i : Int) < (N : Int) := by omega
  go_enter Try.func7, Try.ntmps7
  go_wp2_with fail
  refine (storeFloat12 ⟨nb, i * 3, none⟩ (F (m i)) (F vm) _ (H.out.cm i hi) (H.out.fr _)).mono ?_
  rintro e w1 ⟨rfl, hu⟩
  have H1 : Hid (Tree w1 tb nb N (put m i vm) u s) := H.out.m_upd hu
  have HB : Hid (∀ B, B ≤ nb → Below B w w1) := fun B hB => hu.below B hB
  have hd1 := H1.out.hd
  clear hu hd
  go_wp2_with fail
  refine (storeFloat12 ⟨nb, i * 3 + 1, none⟩ (F (u i)) (F vu) _ (H1.out.cu i hi) (H1.out.fr _)).mono ?_
  rintro e w2 ⟨rfl, hu⟩
  have H2 : Hid (Tree w2 tb nb N (put m i vm) (put u i vu) s) := H1.out.u_upd hu
  have HB2 : Hid (∀ B, B ≤ nb → Below B w w2) := fun B hB => (HB.out B hB).trans (hu.below B hB)
  clear hu hd1
  go_wp2
  first | go_end0 | refine bodyPost_ret (results_none rfl _ _ _) rfl ?_
  exact ⟨rfl, H2, HB2⟩

set_option maxHeartbeats 400000 in
theorem setStatic9 (tb nb N i v : Nat) (m u s : Nat → Nat) (w : World) (h : Tree w tb nb N m u s) (hi : i < N) :
    Calls Try.prog 9 #[.pointer (some ⟨tb, 0, none⟩), .int .i64 i, .float .f64 (F v)] w fun e w' =>
      e = .returned (.tuple #[]) ∧ Tree w' tb nb N m u (put s i v) ∧ ∀ B, B ≤ nb → Below B w w' := by
  have HU : Hid (Upd w ⟨nb, i * 3 + 2, none⟩ (.float .f64 (F v)) (w.setCell ⟨nb, i * 3 + 2, none⟩ (.float .f64 (F v)))) := Upd.of_set (h.cs i hi)
  have H : Hid (Tree w tb nb N m u s) := h
  have hd := h.hd
  have hc := h.cs i hi
  have hz := h.fr (i * 3 + 2)
  clear h
  have i0 : (0 : Int) ≤ (i : Int) := by omega
  have i1 : (i : Int) < (N : Int) := by omega
  have hst : ∀ a b m w, (store a (.float .f64 b) m).run Try.prog w = stored Try.prog w a (.float .f64 b) m := fun a b m w => run_store Try.prog w a _ m rfl
  go_enter Try.func9, Try.ntmps9
  go_wp2
  first | go_end0 | refine bodyPost_ret (results_none rfl _ _ _) rfl ?_
  exact ⟨rfl, H.out.s_upd HU.out, fun B hB => HU.out.below B hB⟩

set_option maxHeartbeats 400000 in
theorem node11 (tb nb N i : Nat) (m u s : Nat → Nat) (w : World) (h : Tree w tb nb N m u s) (hi : i < N) :
    Calls Try.prog 11 #[.pointer (some ⟨tb, 0, none⟩), .int .i64 i] w fun e w' =>
      e = .returned (.tuple #[.float .f64 (F (m i)), .float .f64 (F (u i)), .float .f64 (F (s i))]) ∧ ∃ q, w' = w.drewN q := by
  have hd := h.hd
  have c0 := h.cm i hi
  have c1 := h.cu i hi
  have c2 := h.cs i hi
  clear h
  have i0 : (0 : Int) ≤ (i : Int) := by omega
  have i1 : (i : Int) < (N : Int) := by omega
  go_enter Try.func11, Try.ntmps11
  go_wp2
  go_quiet ((go_at_call 14; first | exact Calls.quiet_of_same (loadFloat14 _ (F (m i)) _ (by simpa using c0)) | exact Calls.quiet_of_same (loadFloat14 _ (F (u i)) _ (by simpa using c1))))
  go_wp2
  go_ret3
  exact ⟨rfl, _, rfl⟩

end Go.Proofs.Qxb6616124a.Tr
