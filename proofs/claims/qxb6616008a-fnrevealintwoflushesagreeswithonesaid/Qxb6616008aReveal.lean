import Derived.Test.Qxb6616008aFire
namespace Go.Proofs.Qxb6616008a.Pos
open Go.RowKit

theorem cell_below {B : Nat} {w w' : World} {p : Addr} {v : Value} (h : w.cell? p = some v) (hb : Below B w w') (hp : p.block < B) : w'.cell? p = some v := by rw [hb.cell hp]; exact h

theorem seen37' (base b : Nat) (fi fo si so : Int) (rs : List Rec) (fired : Bool) (w : World) (h : IsBl base w b fi fo rs fired) (hm : rs.length ≤ 16384) (hs : Hid (seen fi fo rs = (si, so))) :
    Calls Try.prog 37 #[.pointer (some ⟨b, 0, none⟩)] w fun e w' => e = .returned (.agg #[.int .i64 si, .int .i64 so]) ∧ Below w.heap.size w w' := by
  have := seen37 base b fi fo rs fired w h hm
  rw [hs.out] at this
  exact this

set_option maxHeartbeats 2000000 in
theorem reveal27 (base b x y z : Nat) (fi fo ti to bi bo si so : Int) (rs : List Rec) (fired : Bool) (w : World) (h : IsBl base w b fi fo rs fired) (hbase : base ≤ w.heap.size) (hm : rs.length ≤ 16384)
    (hx : w.cell? ⟨x, 0, none⟩ = some (.int .i64 ti)) (hy : w.cell? ⟨y, 0, none⟩ = some (.int .i64 to)) (hz : w.cell? ⟨z, 0, none⟩ = some (.pointer (some ⟨b, 0, none⟩)))
    (hbf : Hid (seen fi fo rs = (bi, bo))) (hsp : Hid (seen ti to rs = (si, so))) :
    Calls Try.prog 27 #[.pointer (some ⟨b, 0, none⟩), .func (.func 28) #[] #[.pointer (some ⟨x, 0, none⟩), .pointer (some ⟨y, 0, none⟩), .pointer (some ⟨z, 0, none⟩)]] w fun e w' =>
      e = .returned (.tuple #[]) ∧ IsBl base w' b ti to (rs.drop (gone si so rs)) (fired || pb bi bo si so) ∧ Below base w w' := by
  have lx := lt_of_cell hx
  have ly := lt_of_cell hy
  have lz := lt_of_cell hz
  obtain ⟨v, c, qs, H⟩ := h
  have hvlt : Hid (∀ g, v.ownBlock = some g → g < w.heap.size) := fun g hg => (H.own.lt g hg).2
  have lb : b < w.heap.size := lt_of H.blk
  go_enter Try.func27, Try.ntmps27
  go_wp2_with fail
  refine (seen37' base b fi fo bi bo rs fired w ⟨_, _, _, H⟩ hm hbf).mono ?_
  rintro e w1 ⟨rfl, hb1⟩
  have s1 := hb1.size
  go_wp2_with fail
  have hb2 : Below w.heap.size w (w1.alloc (.cells #[.int .i64 bi, .int .i64 bo] 53)) := hb1.alloc s1 _
  have n0 : (w1.alloc (.cells #[.int .i64 bi, .int .i64 bo] 53)).cell? ⟨w1.heap.size, 0, none⟩ = some (.int .i64 bi) := by go_simp
  have n1 : (w1.alloc (.cells #[.int .i64 bi, .int .i64 bo] 53)).cell? ⟨w1.heap.size, 1, none⟩ = some (.int .i64 bo) := by go_simp
  have ln : w1.heap.size < (w1.alloc (.cells #[.int .i64 bi, .int .i64 bo] 53)).heap.size := by simp
  generalize w1.alloc (.cells #[.int .i64 bi, .int .i64 bo] 53) = w2 at *
  have H2 := H.kept hb2.block
  replace hx := cell_below hx hb2 lx
  replace hy := cell_below hy hb2 ly
  replace hz := cell_below hz hb2 lz
  refine (flush28 b x y z ti to _ _ w2 hx hy hz (cell_of H2.blk 8) (cell_of H2.blk 9) (frozen_of H2.blk 8) (frozen_of H2.blk 9)).mono ?_
  rintro e w3 ⟨rfl, hw3⟩
  have hnb : b ≠ w1.heap.size := by omega
  have H3 : Bl base w3 b ti to rs fired v c qs := by rw [hw3]; exact H2.flushed ti to
  have hb3 : Below base w w3 := by rw [hw3]; exact ((hb2.mono hbase).setCell H2.hb _).setCell H2.hb _
  replace n0 : w3.cell? ⟨w1.heap.size, 0, none⟩ = some (.int .i64 bi) := by
    rw [hw3, World.cell?_of_block (w := w2) (by rw [Below.heap_setCell _ _ _ _ (Ne.symm hnb), Below.heap_setCell _ _ _ _ (Ne.symm hnb)])]; exact n0
  replace n1 : w3.cell? ⟨w1.heap.size, 1, none⟩ = some (.int .i64 bo) := by
    rw [hw3, World.cell?_of_block (w := w2) (by rw [Below.heap_setCell _ _ _ _ (Ne.symm hnb), Below.heap_setCell _ _ _ _ (Ne.symm hnb)])]; exact n1
  clear hw3 H2 hx hy hz hb2 ln
  generalize w1.heap.size = nb at *
  clear hb1 lx ly lz
  go_wp2_with fail
  refine (seen37' base b ti to si so rs fired w3 ⟨_, _, _, H3⟩ hm hsp).mono ?_
  rintro e w4 ⟨rfl, hb4⟩
  have HG : Hid (gone si so rs ≤ rs.length ∧ (∀ k, k < gone si so rs → pb (rs.getD k zero).ai (rs.getD k zero).ao si so = true) ∧ (gone si so rs < rs.length → pb (rs.getD (gone si so rs) zero).ai (rs.getD (gone si so rs) zero).ao si so = false)) := ⟨gone_le _ _ _, gone_lt _ _ _, gone_at _ _ _⟩
  have s4 := hb4.size
  go_wp2
  have hb5 : Below w3.heap.size w3 (w4.alloc (.cells #[.int .i64 si, .int .i64 so] 53)) := hb4.alloc s4 _
  have m0 : (w4.alloc (.cells #[.int .i64 si, .int .i64 so] 53)).cell? ⟨w4.heap.size, 0, none⟩ = some (.int .i64 si) := by go_simp
  have m1 : (w4.alloc (.cells #[.int .i64 si, .int .i64 so] 53)).cell? ⟨w4.heap.size, 1, none⟩ = some (.int .i64 so) := by go_simp
  generalize w4.alloc (.cells #[.int .i64 si, .int .i64 so] 53) = w5 at *
  have hsb : w.heap.size ≤ w4.heap.size := Nat.le_trans hb3.size s4
  generalize w4.heap.size = sb at *
  have H5 := H3.kept hb5.block
  replace n0 := cell_below n0 hb5 (lt_of_cell n0)
  replace n1 := cell_below n1 hb5 (lt_of_cell n1)
  have hbase3 : base ≤ w3.heap.size := Nat.le_trans hbase hb3.size
  replace hb5 : Below base w w5 := hb3.trans (hb5.mono hbase3)
  clear hb4 s4 hb3 H3
  obtain ⟨a, cap, hv⟩ := H5.slice
  subst hv
  have hbase5 : base ≤ w5.heap.size := Nat.le_trans hbase hb5.size
  go_loopw [6] (fun i wr => ∃ k : Nat, k ≤ gone si so rs ∧ i = .int .i64 k ∧ Below w5.heap.size w5 wr) (fun i _ => gone si so rs - (intOf i).toNat)
  case atStart => exact ⟨0, Nat.zero_le _, rfl, Below.refl _ _⟩
  case round =>
    obtain ⟨k, hk, rfl, hbr⟩ := hrel
    have Hr := H5.kept hbr.block
    have l0 := lt_of_cell m0
    have ln := lt_of_cell n0
    have p0 := cell_below m0 hbr l0
    have p1 := cell_below m1 hbr l0
    have q0 := cell_below n0 hbr ln
    have q1 := cell_below n1 hbr ln
    have b10 : wr.cell? ⟨b, 10, none⟩ = some (.slice a rs.length cap) := cell_of Hr.blk 10
    have l0r : sb < wr.heap.size := lt_of_cell p0
    have lnr : nb < wr.heap.size := lt_of_cell q0
    have lbr : b < wr.heap.size := lt_of Hr.blk
    by_cases hkl : k < rs.length
    · obtain ⟨g, cap', e, hgk⟩ := Hr.at_ k hkl
      simp at e
      obtain ⟨rfl, rfl⟩ := e
      have hq := (Hr.recs k hkl).2
      generalize hqk : qs.getD k 0 = q at hgk hq
      have hq0 : wr.cell? ⟨q, 0, none⟩ = some (.int .i64 (rs.getD k zero).ai) := cell_of hq 0
      have hq1 : wr.cell? ⟨q, 1, none⟩ = some (.int .i64 (rs.getD k zero).ao) := cell_of hq 1
      have lq := lt_of hq
      have lg := lt_of_cell hgk
      clear hq hqk
      have hkz : (k : Int) < (rs.length : Int) := by omega
      by_cases hlt : k < gone si so rs
      · have hpb : pb (rs.getD k zero).ai (rs.getD k zero).ao si so = true := HG.out.2.1 k hlt
        generalize rs.getD k zero = r at *
        have HH : Hid (Bl base wr b ti to rs fired (.slice (some ⟨g, 0, none⟩) rs.length cap) c qs) := Hr
        clear Hr
        go_wp2
        go_region_held3 (fun w' => w'.cell? ⟨b, 10, none⟩ = some (.slice (some ⟨g, 0, none⟩) rs.length cap) ∧ w'.cell? ⟨sb, 0, none⟩ = some (.int .i64 si) ∧ w'.cell? ⟨sb, 1, none⟩ = some (.int .i64 so) ∧ w'.cell? ⟨g, k, none⟩ = some (.pointer (some ⟨q, 0, none⟩)) ∧ w'.cell? ⟨q, 0, none⟩ = some (.int .i64 r.ai) ∧ w'.cell? ⟨q, 1, none⟩ = some (.int .i64 r.ao)) (go_keep)
          (first | (go_at_call 38; refine (after38' _ _ _ _ _ hpb).mono ?_; rintro e w' ⟨rfl, rfl⟩))
        go_wp2
        go_roundw
        case rel => exact ⟨k + 1, by omega, by go_num, ((hbr.alloc hbr.size _).alloc (by simp; have := hbr.size; omega) _).drew⟩
        case measure => simp [intOf]; omega
      · have hkg : k = gone si so rs := by omega
        have hpb : pb (rs.getD k zero).ai (rs.getD k zero).ao si so = false := by have := HG.out.2.2 (by omega); rwa [← hkg] at this
        generalize rs.getD k zero = r at *
        clear Hr
        have HK : Hid (k = gone si so rs) := hkg
        clear hkg hlt
        go_wp2
        go_region_held3 (fun w' => w'.cell? ⟨b, 10, none⟩ = some (.slice (some ⟨g, 0, none⟩) rs.length cap) ∧ w'.cell? ⟨sb, 0, none⟩ = some (.int .i64 si) ∧ w'.cell? ⟨sb, 1, none⟩ = some (.int .i64 so) ∧ w'.cell? ⟨g, k, none⟩ = some (.pointer (some ⟨q, 0, none⟩)) ∧ w'.cell? ⟨q, 0, none⟩ = some (.int .i64 r.ai) ∧ w'.cell? ⟨q, 1, none⟩ = some (.int .i64 r.ao)) (go_keep)
          (first | (go_at_call 38; refine (after38' _ _ _ _ _ hpb).mono ?_; rintro e w' ⟨rfl, rfl⟩))
        rename_i hH
        clear hH
        have hb6 : Below w5.heap.size w5 ((wr.alloc (.cells #[.int .i64 si, .int .i64 so] 53)).alloc (.cells #[.int .i64 r.ai, .int .i64 r.ao] 53)).drew := ((hbr.alloc hbr.size _).alloc (by simp; have := hbr.size; omega) _).drew
        generalize ((wr.alloc (.cells #[.int .i64 si, .int .i64 so] 53)).alloc (.cells #[.int .i64 r.ai, .int .i64 r.ao] 53)).drew = w6 at *
        clear b10 hgk hq0 hq1
        have hk' := HK.out
        clear HK
        subst hk'
        have Hr := H5.kept hb6.block
        replace p0 := cell_below m0 hb6 l0
        replace p1 := cell_below m1 hb6 l0
        replace q0 := cell_below n0 hb6 ln
        replace q1 := cell_below n1 hb6 ln
        have b10 : w6.cell? ⟨b, 10, none⟩ = some (.slice (some ⟨g, 0, none⟩) rs.length cap) := cell_of Hr.blk 10
        have hbase6 : base ≤ w6.heap.size := Nat.le_trans hbase5 hb6.size
        replace hb5 : Below base w w6 := hb5.trans (hb6.mono hbase5)
        clear m0 m1 n0 n1 H5 hb6 hbr
        go_wp2_with fail
        refine (delBl base b ti to rs fired _ c qs (gone si so rs) w6 Hr HG.out.1).mono ?_
        rintro e w7 ⟨a', cap', rfl, hown, hg⟩
        have D := Hr.deleted HG.out.1 hbase6 hown hg
        have hsg : (Value.slice (some ⟨g, 0, none⟩) rs.length cap).ownBlock ≠ some sb := fun e => by have := hvlt.out sb e; omega
        have hng : (Value.slice (some ⟨g, 0, none⟩) rs.length cap).ownBlock ≠ some nb := fun e => by have := hvlt.out nb e; omega
        have hbg := row_ne Hr.own Hr.blk (by decide)
        have B7 : w7.heap[b]? = some (.cells (blCells ti to (.slice (some ⟨g, 0, none⟩) rs.length cap) c) 74) := by rw [hg.block b (lt_of Hr.blk) (fun e => hbg e.symm)]; exact Hr.blk
        have b7 : w7.cell? ⟨b, 10, none⟩ = some (.slice (some ⟨g, 0, none⟩) rs.length cap) := cell_of B7 10
        have z7 : w7.frozen? ⟨b, 10, none⟩ = false := frozen_of B7 10
        replace p0 : w7.cell? ⟨sb, 0, none⟩ = some (.int .i64 si) := by rw [World.cell?_of_block (w := w6) (hg.block sb (lt_of_cell p0) (fun e => hsg e.symm))]; exact p0
        replace p1 : w7.cell? ⟨sb, 1, none⟩ = some (.int .i64 so) := by rw [World.cell?_of_block (w := w6) (hg.block sb (lt_of_cell p1) (fun e => hsg e.symm))]; exact p1
        replace q0 : w7.cell? ⟨nb, 0, none⟩ = some (.int .i64 bi) := by rw [World.cell?_of_block (w := w6) (hg.block nb (lt_of_cell q0) (fun e => hng e.symm))]; exact q0
        replace q1 : w7.cell? ⟨nb, 1, none⟩ = some (.int .i64 bo) := by rw [World.cell?_of_block (w := w6) (hg.block nb (lt_of_cell q1) (fun e => hng e.symm))]; exact q1
        replace p0 : (w7.setCell ⟨b, 10, none⟩ (.slice a' (rs.length - gone si so rs) cap')).cell? ⟨sb, 0, none⟩ = some (.int .i64 si) := by rw [World.cell?_of_block (w := w7) (Below.heap_setCell _ _ _ _ (by show sb ≠ b; omega))]; exact p0
        replace p1 : (w7.setCell ⟨b, 10, none⟩ (.slice a' (rs.length - gone si so rs) cap')).cell? ⟨sb, 1, none⟩ = some (.int .i64 so) := by rw [World.cell?_of_block (w := w7) (Below.heap_setCell _ _ _ _ (by show sb ≠ b; omega))]; exact p1
        replace q0 : (w7.setCell ⟨b, 10, none⟩ (.slice a' (rs.length - gone si so rs) cap')).cell? ⟨nb, 0, none⟩ = some (.int .i64 bi) := by rw [World.cell?_of_block (w := w7) (Below.heap_setCell _ _ _ _ (by show nb ≠ b; omega))]; exact q0
        replace q1 : (w7.setCell ⟨b, 10, none⟩ (.slice a' (rs.length - gone si so rs) cap')).cell? ⟨nb, 1, none⟩ = some (.int .i64 bo) := by rw [World.cell?_of_block (w := w7) (Below.heap_setCell _ _ _ _ (by show nb ≠ b; omega))]; exact q1
        obtain ⟨D1, D2⟩ := D
        have D1' : Hid (IsBl base (w7.setCell ⟨b, 10, none⟩ (.slice a' (rs.length - gone si so rs) cap')) b ti to (rs.drop (gone si so rs)) fired) := ⟨_, _, _, D1⟩
        replace D2 : Hid (Below base w (w7.setCell ⟨b, 10, none⟩ (.slice a' (rs.length - gone si so rs) cap'))) := hb5.trans D2
        clear D1 Hr hown hg B7 b10 hb5 hsg hng hbg H
        cases hpb2 : pb bi bo si so with
        | true =>
          go_wp2_with fail
          generalize w7.setCell ⟨b, 10, none⟩ (.slice a' (rs.length - gone si so rs) cap') = w8 at *
          refine (after38' _ _ _ _ _ hpb2).mono ?_
          rintro e w9 ⟨rfl, rfl⟩
          go_wp2_with fail
          have s8 := D2.out.size
          refine (fireBl base b ti to (rs.drop (gone si so rs)) fired _ (D1'.out.kept (fun k hk => by rw [Below.heap_alloc _ _ _ (by simp; omega), Below.heap_alloc _ _ _ hk]))).mono ?_
          rintro e w10 ⟨rfl, E1, E2⟩
          go_wp2
          go_end0
          exact ⟨rfl, by rw [hpb2, Bool.or_true]; exact E1, ((D2.out.alloc (by omega) _).alloc (by simp; omega) _).trans E2⟩
        | false =>
          go_wp2_with fail
          generalize w7.setCell ⟨b, 10, none⟩ (.slice a' (rs.length - gone si so rs) cap') = w8 at *
          refine (after38' _ _ _ _ _ hpb2).mono ?_
          rintro e w9 ⟨rfl, rfl⟩
          go_wp2
          have s8 := D2.out.size
          go_end0
          refine ⟨rfl, ?_, (D2.out.alloc (by omega) _).alloc (by simp; omega) _⟩
          rw [hpb2, Bool.or_false]
          exact D1'.out.kept (fun k hk => by rw [Below.heap_alloc _ _ _ (by simp; omega), Below.heap_alloc _ _ _ hk])
    · have hkg : k = gone si so rs := by have := HG.out.1; omega
      have hd : decide ((k : Int) < (rs.length : Int)) = false := by simp; omega
      have HK : Hid (k = gone si so rs) := hkg
      clear hkg Hr
      go_wp2
      go_quiet (fail)
      have hb6 : Below w5.heap.size w5 (wr.drewN nq) := belowN hbr nq
      generalize wr.drewN nq = w6 at *
      clear b10 hd
      have hk' := HK.out
      clear HK
      subst hk'
      have Hr := H5.kept hb6.block
      replace p0 := cell_below m0 hb6 l0
      replace p1 := cell_below m1 hb6 l0
      replace q0 := cell_below n0 hb6 ln
      replace q1 := cell_below n1 hb6 ln
      have b10 : w6.cell? ⟨b, 10, none⟩ = some (.slice a rs.length cap) := cell_of Hr.blk 10
      have hbase6 : base ≤ w6.heap.size := Nat.le_trans hbase5 hb6.size
      replace hb5 : Below base w w6 := hb5.trans (hb6.mono hbase5)
      clear m0 m1 n0 n1 H5 hb6 hbr
      go_wp2_with fail
      refine (delBl base b ti to rs fired _ c qs (gone si so rs) w6 Hr HG.out.1).mono ?_
      rintro e w7 ⟨a', cap', rfl, hown, hg⟩
      have D := Hr.deleted HG.out.1 hbase6 hown hg
      have hsg : (Value.slice a rs.length cap).ownBlock ≠ some sb := fun e => by have := hvlt.out sb e; omega
      have hng : (Value.slice a rs.length cap).ownBlock ≠ some nb := fun e => by have := hvlt.out nb e; omega
      have hbg := row_ne Hr.own Hr.blk (by decide)
      have B7 : w7.heap[b]? = some (.cells (blCells ti to (.slice a rs.length cap) c) 74) := by rw [hg.block b (lt_of Hr.blk) (fun e => hbg e.symm)]; exact Hr.blk
      have b7 : w7.cell? ⟨b, 10, none⟩ = some (.slice a rs.length cap) := cell_of B7 10
      have z7 : w7.frozen? ⟨b, 10, none⟩ = false := frozen_of B7 10
      replace p0 : w7.cell? ⟨sb, 0, none⟩ = some (.int .i64 si) := by rw [World.cell?_of_block (w := w6) (hg.block sb (lt_of_cell p0) (fun e => hsg e.symm))]; exact p0
      replace p1 : w7.cell? ⟨sb, 1, none⟩ = some (.int .i64 so) := by rw [World.cell?_of_block (w := w6) (hg.block sb (lt_of_cell p1) (fun e => hsg e.symm))]; exact p1
      replace q0 : w7.cell? ⟨nb, 0, none⟩ = some (.int .i64 bi) := by rw [World.cell?_of_block (w := w6) (hg.block nb (lt_of_cell q0) (fun e => hng e.symm))]; exact q0
      replace q1 : w7.cell? ⟨nb, 1, none⟩ = some (.int .i64 bo) := by rw [World.cell?_of_block (w := w6) (hg.block nb (lt_of_cell q1) (fun e => hng e.symm))]; exact q1
      replace p0 : (w7.setCell ⟨b, 10, none⟩ (.slice a' (rs.length - gone si so rs) cap')).cell? ⟨sb, 0, none⟩ = some (.int .i64 si) := by rw [World.cell?_of_block (w := w7) (Below.heap_setCell _ _ _ _ (by show sb ≠ b; omega))]; exact p0
      replace p1 : (w7.setCell ⟨b, 10, none⟩ (.slice a' (rs.length - gone si so rs) cap')).cell? ⟨sb, 1, none⟩ = some (.int .i64 so) := by rw [World.cell?_of_block (w := w7) (Below.heap_setCell _ _ _ _ (by show sb ≠ b; omega))]; exact p1
      replace q0 : (w7.setCell ⟨b, 10, none⟩ (.slice a' (rs.length - gone si so rs) cap')).cell? ⟨nb, 0, none⟩ = some (.int .i64 bi) := by rw [World.cell?_of_block (w := w7) (Below.heap_setCell _ _ _ _ (by show nb ≠ b; omega))]; exact q0
      replace q1 : (w7.setCell ⟨b, 10, none⟩ (.slice a' (rs.length - gone si so rs) cap')).cell? ⟨nb, 1, none⟩ = some (.int .i64 bo) := by rw [World.cell?_of_block (w := w7) (Below.heap_setCell _ _ _ _ (by show nb ≠ b; omega))]; exact q1
      obtain ⟨D1, D2⟩ := D
      have D1' : Hid (IsBl base (w7.setCell ⟨b, 10, none⟩ (.slice a' (rs.length - gone si so rs) cap')) b ti to (rs.drop (gone si so rs)) fired) := ⟨_, _, _, D1⟩
      replace D2 : Hid (Below base w (w7.setCell ⟨b, 10, none⟩ (.slice a' (rs.length - gone si so rs) cap'))) := hb5.trans D2
      clear D1 Hr hown hg B7 b10 hb5 hsg hng hbg H
      cases hpb2 : pb bi bo si so with
      | true =>
        go_wp2_with fail
        generalize w7.setCell ⟨b, 10, none⟩ (.slice a' (rs.length - gone si so rs) cap') = w8 at *
        refine (after38' _ _ _ _ _ hpb2).mono ?_
        rintro e w9 ⟨rfl, rfl⟩
        go_wp2_with fail
        have s8 := D2.out.size
        refine (fireBl base b ti to (rs.drop (gone si so rs)) fired _ (D1'.out.kept (fun k hk => by rw [Below.heap_alloc _ _ _ (by simp; omega), Below.heap_alloc _ _ _ hk]))).mono ?_
        rintro e w10 ⟨rfl, E1, E2⟩
        go_wp2
        go_end0
        exact ⟨rfl, by rw [hpb2, Bool.or_true]; exact E1, ((D2.out.alloc (by omega) _).alloc (by simp; omega) _).trans E2⟩
      | false =>
        go_wp2_with fail
        generalize w7.setCell ⟨b, 10, none⟩ (.slice a' (rs.length - gone si so rs) cap') = w8 at *
        refine (after38' _ _ _ _ _ hpb2).mono ?_
        rintro e w9 ⟨rfl, rfl⟩
        go_wp2
        have s8 := D2.out.size
        go_end0
        refine ⟨rfl, ?_, (D2.out.alloc (by omega) _).alloc (by simp; omega) _⟩
        rw [hpb2, Bool.or_false]
        exact D1'.out.kept (fun k hk => by rw [Below.heap_alloc _ _ _ (by simp; omega), Below.heap_alloc _ _ _ hk])

set_option maxHeartbeats 1000000 in
theorem reveal12 (base b : Nat) (fi fo ti to : Int) (rs : List Rec) (fired : Bool) (w : World) (h : IsBl base w b fi fo rs fired) (hbase : base ≤ w.heap.size) (hm : rs.length ≤ 16384) :
    Calls Try.prog 12 #[.pointer (some ⟨b, 0, none⟩), .int .i64 ti, .int .i64 to] w fun e w' =>
      e = .returned (.tuple #[]) ∧ IsBl base w' b ti to (rest (seen ti to rs).1 (seen ti to rs).2 rs) (fired || pb (seen fi fo rs).1 (seen fi fo rs).2 (seen ti to rs).1 (seen ti to rs).2) ∧ Below base w w' := by
  have hmf : ∀ (fn : Fn) (first cap : Array Value) (w : World), (Instr.makeFunc fn first cap).run Try.prog w = .ok (.func fn first cap) w := fun _ _ _ _ => rfl
  rw [rest_eq]
  generalize hbf : seen fi fo rs = bf
  obtain ⟨bi, bo⟩ := bf
  generalize hsp : seen ti to rs = sp
  obtain ⟨si, so⟩ := sp
  have HBF : Hid (seen fi fo rs = (bi, bo)) := hbf
  have HSP : Hid (seen ti to rs = (si, so)) := hsp
  clear hbf hsp
  simp only
  obtain ⟨w1, hw1⟩ : ∃ w1, w1 = ((w.alloc (.cells #[.pointer (some ⟨b, 0, none⟩)] 27)).alloc (.cells #[.int .i64 ti] 3)).alloc (.cells #[.int .i64 to] 2) := ⟨_, rfl⟩
  have c0 : w1.cell? ⟨w.heap.size, 0, none⟩ = some (.pointer (some ⟨b, 0, none⟩)) := by rw [hw1]; go_simp
  have c1 : w1.cell? ⟨w.heap.size + 1, 0, none⟩ = some (.int .i64 ti) := by rw [hw1]; go_simp
  have c2 : w1.cell? ⟨w.heap.size + 2, 0, none⟩ = some (.int .i64 to) := by rw [hw1]; go_simp
  have hb1 : Below w.heap.size w w1 := by rw [hw1]; exact (((Below.refl _ _).alloc (Nat.le_refl _) _).alloc (by simp) _).alloc (by simp; omega) _
  have HW : Hid (w1 = ((w.alloc (.cells #[.pointer (some ⟨b, 0, none⟩)] 27)).alloc (.cells #[.int .i64 ti] 3)).alloc (.cells #[.int .i64 to] 2)) := hw1
  clear hw1
  go_enter Try.func12, Try.ntmps12
  go_wp2_with fail
  rw [← HW.out]
  clear HW
  refine (reveal27 base b _ _ _ fi fo ti to bi bo si so rs fired w1 (h.below hb1) (Nat.le_trans hbase hb1.size) hm c1 c2 c0 HBF HSP).mono ?_
  rintro e w2 ⟨rfl, h2, hb2⟩
  go_wp2
  go_end0
  exact ⟨rfl, h2, (hb1.mono hbase).trans hb2⟩
end Go.Proofs.Qxb6616008a.Pos
