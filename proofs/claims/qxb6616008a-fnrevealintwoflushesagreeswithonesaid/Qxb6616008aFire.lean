import Derived.Test.Qxb6616008aDel
import Derived.Test.Qxb6616008aSeen2
namespace Go.Proofs.Qxb6616008a.Pos
open Go.RowKit Go.Conc

theorem fire40n (b : Nat) (w : World) (h : w.cell? ⟨b, 11, none⟩ = some (.chan none)) :
    Calls Try.prog 40 #[.pointer (some ⟨b, 11, none⟩)] w fun e w' => e = .returned (.tuple #[]) ∧ w' = w := by
  have h1 := neqNone
  go_enter Try.func40, Try.ntmps40
  go_wp2
  first | go_end0 | refine bodyPost_ret (results_none rfl _ _ _) rfl ?_
  exact ⟨rfl, rfl⟩

set_option maxHeartbeats 400000 in
theorem fire40s (b ch : Nat) (w w2 : World) (h : w.cell? ⟨b, 11, none⟩ = some (.chan (some ch))) (hch : w.heap[ch]? = some (.chan 0 #[] false 0 0 false))
    (hw2 : w2 = { w with heap := w.heap.setIfInBounds ch (.chan 0 #[] true 0 0 false) }) (h2 : w2.cell? ⟨b, 11, none⟩ = some (.chan (some ch))) (z2 : w2.frozen? ⟨b, 11, none⟩ = false) :
    Calls Try.prog 40 #[.pointer (some ⟨b, 11, none⟩)] w fun e w' => e = .returned (.tuple #[]) ∧ w' = w2.setCell ⟨b, 11, none⟩ (.chan none) := by
  have h1 := neqSome ch
  have hcl : ∀ ats ty, (Builtin.close_ ats ty #[.chan (some ch)]).run Try.prog w = .ok (.tuple #[]) w2 := fun ats ty => by rw [hw2]; exact run_close_open (P := Try.prog) (w := w) ats ty hch
  clear hch hw2
  go_enter Try.func40, Try.ntmps40
  go_wp2
  first | go_end0 | refine bodyPost_ret (results_none rfl _ _ _) rfl ?_
  exact ⟨rfl, rfl⟩

theorem fireBl (base b : Nat) (fi fo : Int) (rs : List Rec) (fired : Bool) (w : World) (h : IsBl base w b fi fo rs fired) :
    Calls Try.prog 40 #[.pointer (some ⟨b, 11, none⟩)] w fun e w' => e = .returned (.tuple #[]) ∧ IsBl base w' b fi fo rs true ∧ Below base w w' := by
  obtain ⟨v, c, qs, H⟩ := h
  have hc : w.cell? ⟨b, 11, none⟩ = some c := cell_of H.blk 11
  cases fired with
  | true =>
    have e : c = .chan none := H.sig
    subst e
    refine (fire40n b w hc).mono ?_
    rintro e w' ⟨rfl, rfl⟩
    exact ⟨rfl, ⟨_, _, _, H⟩, Below.refl _ _⟩
  | false =>
    obtain ⟨ch, h1, rfl, h3⟩ : ∃ ch, base ≤ ch ∧ c = .chan (some ch) ∧ w.heap[ch]? = some (.chan 0 #[] false 0 0 false) := H.sig
    obtain ⟨w2, hw2⟩ : ∃ w2 : World, w2 = { w with heap := w.heap.setIfInBounds ch (.chan 0 #[] true 0 0 false) } := ⟨_, rfl⟩
    have hoth : ∀ k, k ≠ ch → w2.heap[k]? = w.heap[k]? := fun k hk => by
      rw [hw2]; simp [Array.getElem?_setIfInBounds]; intro e; exact absurd e.symm hk
    have hbc : b ≠ ch := fun e => by have := H.blk; rw [e, h3] at this; injection this with this; cases this
    have hblk2 : w2.heap[b]? = some (.cells (blCells fi fo v (.chan (some ch))) 74) := by rw [hoth b hbc]; exact H.blk
    refine (fire40s b ch w w2 hc h3 hw2 (cell_of hblk2 11) (frozen_of hblk2 11)).mono ?_
    rintro e w' ⟨rfl, rfl⟩
    have hoth2 : ∀ k, k ≠ ch → k ≠ b → (w2.setCell ⟨b, 11, none⟩ (.chan none)).heap[k]? = w.heap[k]? := fun k hk hb => by
      rw [Below.heap_setCell _ _ _ _ hb, hoth k hk]
    refine ⟨rfl, ⟨v, .chan none, qs, ⟨H.hb, ?_, rfl, ?_, H.len, ?_⟩⟩, ?_⟩
    · rw [heap_set hblk2, set11]
    · exact row_kept H.own fun g hg' => hoth2 g (fun e => row_ne' H.own h3 (fun _ _ _ e => by cases e) (by rw [hg', e])) (fun e => row_ne H.own H.blk (by decide) (by rw [hg', e]))
    · intro j hj
      obtain ⟨k1, k2⟩ := H.recs j hj
      refine ⟨k1, ?_⟩
      rw [hoth2 _ (fun e => by rw [e, h3] at k2; injection k2 with k2; cases k2) (fun e => by rw [e, H.blk] at k2; injection k2 with k2; injection k2 with _ k2; cases k2)]
      exact k2
    · refine Below.setCell (a := w) (w := w2) ?_ H.hb _
      rw [hw2]
      exact ⟨rfl, rfl, rfl, by simp, fun k hk => by simp [Array.getElem?_setIfInBounds]; omega⟩

set_option maxHeartbeats 400000 in
theorem flush28 (b x y z : Nat) (ti to : Int) (u8 u9 : Value) (w : World) (hx : w.cell? ⟨x, 0, none⟩ = some (.int .i64 ti)) (hy : w.cell? ⟨y, 0, none⟩ = some (.int .i64 to)) (hz : w.cell? ⟨z, 0, none⟩ = some (.pointer (some ⟨b, 0, none⟩)))
    (h8 : w.cell? ⟨b, 8, none⟩ = some u8) (h9 : w.cell? ⟨b, 9, none⟩ = some u9) (f8 : w.frozen? ⟨b, 8, none⟩ = false) (f9 : w.frozen? ⟨b, 9, none⟩ = false) :
    Calls Try.prog 28 #[.pointer (some ⟨x, 0, none⟩), .pointer (some ⟨y, 0, none⟩), .pointer (some ⟨z, 0, none⟩)] w fun e w' =>
      e = .returned (.tuple #[]) ∧ w' = (w.setCell ⟨b, 8, none⟩ (.int .i64 ti)).setCell ⟨b, 9, none⟩ (.int .i64 to) := by
  go_enter Try.func28, Try.ntmps28
  go_wp2
  first | go_end0 | refine bodyPost_ret (results_none rfl _ _ _) rfl ?_
  exact ⟨rfl, rfl⟩
end Go.Proofs.Qxb6616008a.Pos
