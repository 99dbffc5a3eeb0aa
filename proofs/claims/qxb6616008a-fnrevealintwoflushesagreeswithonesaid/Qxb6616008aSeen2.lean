import Derived.Test.Qxb6616008aSeen
import Derived.Deep.RegionHeld3
namespace Go.Proofs.Qxb6616008a.Pos
open Go.RowKit

set_option maxHeartbeats 1000000 in
theorem seen37none (b n cap : Nat) (a : Option Addr) (qs : List Nat) (fi fo : Int) (rs : List Rec) (w : World) (hn : n = rs.length) (hm : n ≤ 16384)
    (h8 : w.cell? ⟨b, 8, none⟩ = some (.int .i64 fi)) (h9 : w.cell? ⟨b, 9, none⟩ = some (.int .i64 fo)) (h10 : w.cell? ⟨b, 10, none⟩ = some (.slice a n cap))
    (hc : ∀ j, j < rs.length → ∃ g, a = some ⟨g, 0, none⟩ ∧ w.cell? ⟨g, j, none⟩ = some (.pointer (some ⟨qs.getD j 0, 0, none⟩)) ∧ w.heap[qs.getD j 0]? = some (.cells (recCells (rs.getD j zero)) 93))
    (hall : ∀ k, k < rs.length → (rs.getD k zero).st = true) :
    Calls Try.prog 37 #[.pointer (some ⟨b, 0, none⟩)] w fun e w' => e = .returned (.agg #[.int .i64 fi, .int .i64 fo]) ∧ Below w.heap.size w w' := by
  have hf : firstOpen rs = -1 := firstOpen_all rs hall
  have lb := lt_of_cell h8
  obtain ⟨w1, hw1⟩ : ∃ w1, w1 = w.alloc (.cells #[.int .i64 0, .int .i64 0] 53) := ⟨_, rfl⟩
  have k8 : w1.cell? ⟨b, 8, none⟩ = some (.int .i64 fi) := by rw [hw1]; go_simp
  have k9 : w1.cell? ⟨b, 9, none⟩ = some (.int .i64 fo) := by rw [hw1]; go_simp
  have k10 : w1.cell? ⟨b, 10, none⟩ = some (.slice a n cap) := by rw [hw1]; go_simp
  have r0 : w1.cell? ⟨w.heap.size, 0, none⟩ = some (.int .i64 0) := by rw [hw1]; go_simp
  have r1 : w1.cell? ⟨w.heap.size, 1, none⟩ = some (.int .i64 0) := by rw [hw1]; go_simp
  have z0 : w1.frozen? ⟨w.heap.size, 0, none⟩ = false := by rw [hw1]; go_simp
  have z1 : w1.frozen? ⟨w.heap.size, 1, none⟩ = false := by rw [hw1]; go_simp
  have hc1 : Hid (∀ j, j < rs.length → ∃ g, a = some ⟨g, 0, none⟩ ∧ w1.cell? ⟨g, j, none⟩ = some (.pointer (some ⟨qs.getD j 0, 0, none⟩)) ∧ w1.heap[qs.getD j 0]? = some (.cells (recCells (rs.getD j zero)) 93)) := by
    intro j hj
    obtain ⟨g, h1, h2, h3⟩ := hc j hj
    refine ⟨g, h1, ?_, ?_⟩
    · rw [hw1, World.cell?_of_block (w := w) (Below.heap_alloc _ _ _ (lt_of_cell h2))]; exact h2
    · rw [hw1, Below.heap_alloc _ _ _ (lt_of h3)]; exact h3
  have hbel : Below w.heap.size w w1 := by rw [hw1]; exact (Below.refl _ _).alloc (Nat.le_refl _) _
  have HN : Hid (n = rs.length) := hn
  have HF : Hid (firstOpen rs = -1) := hf
  have HW : Hid (w1 = w.alloc (.cells #[.int .i64 0, .int .i64 0] 53)) := hw1
  clear h8 h9 hc hall hn hf hw1
  go_enter Try.func37, Try.ntmps37
  go_wp2_with fail
  rw [← HW.out]
  clear HW h10
  refine (index44 a n cap qs rs w1 HN.out hm hc1.out).mono ?_
  rintro e w' ⟨rfl, rfl⟩
  rw [HF.out]
  go_wp2
  go_quiet (fail)
  go_wp2
  refine bodyPost_ret (v := .agg #[.int .i64 fi, .int .i64 fo]) (by simp [results, Try.results37, go_sem, r0, r1]) rfl ⟨rfl, ?_⟩
  exact ((belowN hbel nq).setCell (Nat.le_refl _) _).setCell (Nat.le_refl _) _

set_option maxHeartbeats 2000000 in
theorem seen37some (b g q k n cap : Nat) (qs : List Nat) (fi fo : Int) (rs : List Rec) (r : Rec) (w : World) (hn : n = rs.length) (hm : n ≤ 16384)
    (h8 : w.cell? ⟨b, 8, none⟩ = some (.int .i64 fi)) (h9 : w.cell? ⟨b, 9, none⟩ = some (.int .i64 fo)) (h10 : w.cell? ⟨b, 10, none⟩ = some (.slice (some ⟨g, 0, none⟩) n cap))
    (hc : ∀ j, j < rs.length → ∃ g', (some ⟨g, 0, none⟩ : Option Addr) = some ⟨g', 0, none⟩ ∧ w.cell? ⟨g', j, none⟩ = some (.pointer (some ⟨qs.getD j 0, 0, none⟩)) ∧ w.heap[qs.getD j 0]? = some (.cells (recCells (rs.getD j zero)) 93))
    (hk : k < n) (hf : firstOpen rs = k) (hgk : w.cell? ⟨g, k, none⟩ = some (.pointer (some ⟨q, 0, none⟩))) (hq : w.heap[q]? = some (.cells (recCells r) 93)) :
    Calls Try.prog 37 #[.pointer (some ⟨b, 0, none⟩)] w fun e w' => e = .returned (if pb r.ai r.ao fi fo then .agg #[.int .i64 r.ai, .int .i64 r.ao] else .agg #[.int .i64 fi, .int .i64 fo]) ∧ Below w.heap.size w w' := by
  have lb := lt_of_cell h8
  have lg := lt_of_cell hgk
  have lq := lt_of hq
  have hq0 : w.cell? ⟨q, 0, none⟩ = some (.int .i64 r.ai) := cell_of hq 0
  have hq1 : w.cell? ⟨q, 1, none⟩ = some (.int .i64 r.ao) := cell_of hq 1
  obtain ⟨w1, hw1⟩ : ∃ w1, w1 = w.alloc (.cells #[.int .i64 0, .int .i64 0] 53) := ⟨_, rfl⟩
  have k8 : w1.cell? ⟨b, 8, none⟩ = some (.int .i64 fi) := by rw [hw1]; go_simp
  have k9 : w1.cell? ⟨b, 9, none⟩ = some (.int .i64 fo) := by rw [hw1]; go_simp
  have k10 : w1.cell? ⟨b, 10, none⟩ = some (.slice (some ⟨g, 0, none⟩) n cap) := by rw [hw1]; go_simp
  have kgk : w1.cell? ⟨g, k, none⟩ = some (.pointer (some ⟨q, 0, none⟩)) := by rw [hw1]; go_simp
  have kq0 : w1.cell? ⟨q, 0, none⟩ = some (.int .i64 r.ai) := by rw [hw1]; go_simp
  have kq1 : w1.cell? ⟨q, 1, none⟩ = some (.int .i64 r.ao) := by rw [hw1]; go_simp
  have r0 : w1.cell? ⟨w.heap.size, 0, none⟩ = some (.int .i64 0) := by rw [hw1]; go_simp
  have r1 : w1.cell? ⟨w.heap.size, 1, none⟩ = some (.int .i64 0) := by rw [hw1]; go_simp
  have z0 : w1.frozen? ⟨w.heap.size, 0, none⟩ = false := by rw [hw1]; go_simp
  have z1 : w1.frozen? ⟨w.heap.size, 1, none⟩ = false := by rw [hw1]; go_simp
  have hc1 : Hid (∀ j, j < rs.length → ∃ g', (some ⟨g, 0, none⟩ : Option Addr) = some ⟨g', 0, none⟩ ∧ w1.cell? ⟨g', j, none⟩ = some (.pointer (some ⟨qs.getD j 0, 0, none⟩)) ∧ w1.heap[qs.getD j 0]? = some (.cells (recCells (rs.getD j zero)) 93)) := by
    intro j hj
    obtain ⟨g', h1, h2, h3⟩ := hc j hj
    refine ⟨g', h1, ?_, ?_⟩
    · rw [hw1, World.cell?_of_block (w := w) (Below.heap_alloc _ _ _ (lt_of_cell h2))]; exact h2
    · rw [hw1, Below.heap_alloc _ _ _ (lt_of h3)]; exact h3
  have hbel : Below w.heap.size w w1 := by rw [hw1]; exact (Below.refl _ _).alloc (Nat.le_refl _) _
  have HN : Hid (n = rs.length) := hn
  have HF : Hid (firstOpen rs = k) := hf
  have HW : Hid (w1 = w.alloc (.cells #[.int .i64 0, .int .i64 0] 53)) := hw1
  have hsz : w.heap.size < w1.heap.size := by rw [hw1]; simp
  clear h8 h9 hc hn hf hw1 hgk hq hq0 hq1
  have hkz : (k : Int) < (n : Int) := by omega
  cases hpb : pb r.ai r.ao fi fo with
  | true =>
    rw [if_pos rfl]
    go_enter Try.func37, Try.ntmps37
    go_wp2_with fail
    rw [← HW.out]
    clear HW h10
    refine (index44 _ n cap qs rs w1 HN.out hm hc1.out).mono ?_
    rintro e w' ⟨rfl, rfl⟩
    rw [HF.out]
    clear hc1 HF HN
    go_wp2
    go_region_held3 (fun w' => w'.cell? ⟨b, 8, none⟩ = some (.int .i64 fi) ∧ w'.cell? ⟨b, 9, none⟩ = some (.int .i64 fo) ∧ w'.cell? ⟨b, 10, none⟩ = some (.slice (some ⟨g, 0, none⟩) n cap) ∧ w'.cell? ⟨g, k, none⟩ = some (.pointer (some ⟨q, 0, none⟩)) ∧ w'.cell? ⟨q, 0, none⟩ = some (.int .i64 r.ai) ∧ w'.cell? ⟨q, 1, none⟩ = some (.int .i64 r.ao)) (go_keep)
      (first | (go_at_call 38; refine (after38' _ _ _ _ _ hpb).mono ?_; rintro e w' ⟨rfl, rfl⟩))
    rename_i hH
    replace r0 : ((w'.alloc (.cells #[.int .i64 fi, .int .i64 fo] 53)).alloc (.cells #[.int .i64 r.ai, .int .i64 r.ao] 53)).drew.cell? ⟨w.heap.size, 0, none⟩ = some (.int .i64 0) := by go_simp
    replace r1 : ((w'.alloc (.cells #[.int .i64 fi, .int .i64 fo] 53)).alloc (.cells #[.int .i64 r.ai, .int .i64 r.ao] 53)).drew.cell? ⟨w.heap.size, 1, none⟩ = some (.int .i64 0) := by go_simp
    replace z0 : ((w'.alloc (.cells #[.int .i64 fi, .int .i64 fo] 53)).alloc (.cells #[.int .i64 r.ai, .int .i64 r.ao] 53)).drew.frozen? ⟨w.heap.size, 0, none⟩ = false := by go_simp
    replace z1 : ((w'.alloc (.cells #[.int .i64 fi, .int .i64 fo] 53)).alloc (.cells #[.int .i64 r.ai, .int .i64 r.ao] 53)).drew.frozen? ⟨w.heap.size, 1, none⟩ = false := by go_simp
    replace hbel := ((hbel.alloc hbel.size (.cells #[.int .i64 fi, .int .i64 fo] 53)).alloc (by simp; omega) (.cells #[.int .i64 r.ai, .int .i64 r.ao] 53)).drew
    clear k8 k9 k10 kgk kq0 kq1 hsz
    generalize ((w'.alloc (.cells #[.int .i64 fi, .int .i64 fo] 53)).alloc (.cells #[.int .i64 r.ai, .int .i64 r.ao] 53)).drew = w2 at *
    obtain ⟨k8, k9, k10, kgk, kq0, kq1⟩ := hH
    go_wp2
    refine bodyPost_ret (v := .agg #[.int .i64 r.ai, .int .i64 r.ao]) (by simp [results, Try.results37, go_sem, r0, r1]) rfl ⟨rfl, ?_⟩
    exact (hbel.setCell (Nat.le_refl _) _).setCell (Nat.le_refl _) _
  | false =>
    rw [if_neg (by simp)]
    go_enter Try.func37, Try.ntmps37
    go_wp2_with fail
    rw [← HW.out]
    clear HW h10
    refine (index44 _ n cap qs rs w1 HN.out hm hc1.out).mono ?_
    rintro e w' ⟨rfl, rfl⟩
    rw [HF.out]
    clear hc1 HF HN
    go_wp2
    go_region_held3 (fun w' => w'.cell? ⟨b, 8, none⟩ = some (.int .i64 fi) ∧ w'.cell? ⟨b, 9, none⟩ = some (.int .i64 fo) ∧ w'.cell? ⟨b, 10, none⟩ = some (.slice (some ⟨g, 0, none⟩) n cap) ∧ w'.cell? ⟨g, k, none⟩ = some (.pointer (some ⟨q, 0, none⟩)) ∧ w'.cell? ⟨q, 0, none⟩ = some (.int .i64 r.ai) ∧ w'.cell? ⟨q, 1, none⟩ = some (.int .i64 r.ao)) (go_keep)
      (first | (go_at_call 38; refine (after38' _ _ _ _ _ hpb).mono ?_; rintro e w' ⟨rfl, rfl⟩))
    rename_i hH
    replace r0 : ((w'.alloc (.cells #[.int .i64 fi, .int .i64 fo] 53)).alloc (.cells #[.int .i64 r.ai, .int .i64 r.ao] 53)).drew.cell? ⟨w.heap.size, 0, none⟩ = some (.int .i64 0) := by go_simp
    replace r1 : ((w'.alloc (.cells #[.int .i64 fi, .int .i64 fo] 53)).alloc (.cells #[.int .i64 r.ai, .int .i64 r.ao] 53)).drew.cell? ⟨w.heap.size, 1, none⟩ = some (.int .i64 0) := by go_simp
    replace z0 : ((w'.alloc (.cells #[.int .i64 fi, .int .i64 fo] 53)).alloc (.cells #[.int .i64 r.ai, .int .i64 r.ao] 53)).drew.frozen? ⟨w.heap.size, 0, none⟩ = false := by go_simp
    replace z1 : ((w'.alloc (.cells #[.int .i64 fi, .int .i64 fo] 53)).alloc (.cells #[.int .i64 r.ai, .int .i64 r.ao] 53)).drew.frozen? ⟨w.heap.size, 1, none⟩ = false := by go_simp
    replace hbel := ((hbel.alloc hbel.size (.cells #[.int .i64 fi, .int .i64 fo] 53)).alloc (by simp; omega) (.cells #[.int .i64 r.ai, .int .i64 r.ao] 53)).drew
    clear k8 k9 k10 kgk kq0 kq1 hsz
    generalize ((w'.alloc (.cells #[.int .i64 fi, .int .i64 fo] 53)).alloc (.cells #[.int .i64 r.ai, .int .i64 r.ao] 53)).drew = w2 at *
    obtain ⟨k8, k9, k10, kgk, kq0, kq1⟩ := hH
    go_wp2
    refine bodyPost_ret (v := .agg #[.int .i64 fi, .int .i64 fo]) (by simp [results, Try.results37, go_sem, r0, r1]) rfl ⟨rfl, ?_⟩
    exact (hbel.setCell (Nat.le_refl _) _).setCell (Nat.le_refl _) _

/-- '(*binlog).seen': the plain function's answer; nothing that was there has turned. -/
theorem seen37 (base b : Nat) (fi fo : Int) (rs : List Rec) (fired : Bool) (w : World) (h : IsBl base w b fi fo rs fired) (hm : rs.length ≤ 16384) :
    Calls Try.prog 37 #[.pointer (some ⟨b, 0, none⟩)] w fun e w' => e = .returned (.agg #[.int .i64 (seen fi fo rs).1, .int .i64 (seen fi fo rs).2]) ∧ Below w.heap.size w w' := by
  obtain ⟨v, c, qs, H⟩ := h
  obtain ⟨a, cap, hv⟩ := H.slice
  subst hv
  have h8 : w.cell? ⟨b, 8, none⟩ = some (.int .i64 fi) := cell_of H.blk 8
  have h9 : w.cell? ⟨b, 9, none⟩ = some (.int .i64 fo) := cell_of H.blk 9
  have h10 : w.cell? ⟨b, 10, none⟩ = some (.slice a rs.length cap) := cell_of H.blk 10
  have hc : ∀ j, j < rs.length → ∃ g, a = some ⟨g, 0, none⟩ ∧ w.cell? ⟨g, j, none⟩ = some (.pointer (some ⟨qs.getD j 0, 0, none⟩)) ∧ w.heap[qs.getD j 0]? = some (.cells (recCells (rs.getD j zero)) 93) := by
    intro j hj
    obtain ⟨g, cap', e, hg⟩ := H.at_ j hj
    simp at e
    exact ⟨g, e.1, hg, (H.recs j hj).2⟩
  by_cases hall : ∀ k, k < rs.length → (rs.getD k zero).st = true
  · rw [seen_of_all fi fo rs hall]
    exact seen37none b rs.length cap a qs fi fo rs w rfl hm h8 h9 h10 hc hall
  · obtain ⟨k, hk, h1, h2⟩ : ∃ k, k < rs.length ∧ (∀ j, j < k → (rs.getD j zero).st = true) ∧ (rs.getD k zero).st = false := by
      by_cases hex : ∃ k, k < rs.length ∧ (rs.getD k zero).st = false
      · have : ∀ m, ∀ k, k ≤ m → k < rs.length → (rs.getD k zero).st = false → ∃ k, k < rs.length ∧ (∀ j, j < k → (rs.getD j zero).st = true) ∧ (rs.getD k zero).st = false := by
          intro m
          induction m with
          | zero => intro k hk hl hs; exact ⟨0, by omega, fun j hj => absurd hj (Nat.not_lt_zero _), by rw [show k = 0 by omega] at hs; exact hs⟩
          | succ m ih =>
            intro k hk hl hs
            by_cases hall' : ∀ j, j < k → (rs.getD j zero).st = true
            · exact ⟨k, hl, hall', hs⟩
            · by_cases hex' : ∃ j, j < k ∧ (rs.getD j zero).st = false
              · obtain ⟨j, hj, hjs⟩ := hex'
                exact ih j (by omega) (by omega) hjs
              · exfalso; apply hall'; intro j hj
                cases hb : (rs.getD j zero).st with
                | true => rfl
                | false => exact absurd ⟨j, hj, hb⟩ hex'
        obtain ⟨k, hk, hs⟩ := hex
        exact this k k (Nat.le_refl _) hk hs
      · exfalso; apply hall; intro j hj
        cases hb : (rs.getD j zero).st with
        | true => rfl
        | false => exact absurd ⟨j, hj, hb⟩ hex
    obtain ⟨g, rfl, hgk, hq⟩ := hc k hk
    have := seen37some b g (qs.getD k 0) k rs.length cap qs fi fo rs (rs.getD k zero) w rfl hm h8 h9 h10 hc hk (firstOpen_at rs k hk h1 h2) hgk hq
    refine this.mono ?_
    rintro e w' ⟨rfl, hb⟩
    refine ⟨?_, hb⟩
    rw [seen_at fi fo rs k hk h1 h2]
    cases pb (rs.getD k zero).ai (rs.getD k zero).ao fi fo <;> rfl
end Go.Proofs.Qxb6616008a.Pos
