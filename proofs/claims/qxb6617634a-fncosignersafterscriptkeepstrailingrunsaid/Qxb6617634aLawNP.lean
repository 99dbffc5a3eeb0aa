import Derived.Test.Qxb6617634aPre
namespace Go.Proofs.Qxb6617634a.Mp
open Go.RowKit Go.Maps Go.Shelf

set_option maxHeartbeats 8000000 in
set_option maxRecDepth 100000 in
theorem lawNP (s0 : Int) (a b : Option Addr) (n m c d : Nat) (nm : Nat → ByteArray) (vl : Nat → Bool) (sz : Nat → Int) (wt : Nat → ByteArray) (w : World) (hE : EntIs w a n nm vl) (hS : StpIs w b m sz wt) (hn : n ≤ 4096) (hm : m ≤ 4096) (hn0 : n = 0) (hm0 : 0 < m) :
    Calls Try.prog 3 #[.int .u64 s0, .slice a n c, .slice b m d] w fun e w' => e = .returned (.bool true) ∧ Below w.heap.size w w' := by
  have hmm := run_makeMap_hint
  have HE : Hid (EntIs w a n nm vl) := hE
  have HS : Hid (StpIs w b m sz wt) := hS
  obtain ⟨i9, hi9, hy9, hs9, hb9⟩ := info_parts info9
  obtain ⟨i4, hi4, hy4, hs4, hb4⟩ := info_parts info4
  have hB4 := bytes4 s0 a b n m c d nm vl sz wt w hE hS
  clear hE hS
  have n1 : ¬ (4096 : Int) < (n : Int) := by omega
  have m1 : ¬ (4096 : Int) < (m : Int) := by omega
  have HN0 : Hid (n = 0) := hn0
  clear hn0
  go_enter Try.func3, Try.ntmps3
  go_wp2_with fail
  refine hB4.mono ?_
  rintro e w' ⟨hb, hw⟩
  subst w'
  clear hB4
  rcases hb with rfl | rfl
  case inr =>
    go_wp2
    go_ret
    exact ⟨rfl, Below.refl _ _⟩
  case inl =>
    go_wp2_with fail
    go_loop [7, 8] (fun vt vi => ∃ t k : Nat, t ≤ 1048576 ∧ k ≤ n ∧ vt = .int .i64 t ∧ vi = .int .i64 k ∧ Hid (∀ j, j < k → (nm j).size ≤ 1048576)) (fun _ vi => n - (intOf vi).toNat)
    case atStart => exact ⟨0, 0, by omega, Nat.zero_le _, rfl, rfl, fun j hj => absurd hj (Nat.not_lt_zero _)⟩
    case round =>
      obtain ⟨t, k, ht, hk, rfl, rfl, HK⟩ := hrel
      by_cases hlt : k < n
      · exact absurd hlt (by have := HN0.out; omega)
      · have hkn : k = n := by omega
        subst hkn
        have hkz : ¬ (k : Int) < (k : Int) := by omega
        have HN : Hid (∀ j, j < k → (nm j).size ≤ 1048576) := HK
        clear HK
        go_wp2_with fail
        go_loop [7, 9] (fun vt vi => ∃ t j : Nat, t ≤ 1048576 ∧ j ≤ m ∧ vt = .int .i64 t ∧ vi = .int .i64 j ∧ Hid (∀ i, i < j → (wt i).size ≤ 1048576)) (fun _ vi => m - (intOf vi).toNat)
        case atStart => exact ⟨t, 0, by omega, Nat.zero_le _, rfl, rfl, fun j hj => absurd hj (Nat.not_lt_zero _)⟩
        case round =>
          obtain ⟨t, j, ht, hj, rfl, rfl, HK⟩ := hrel
          by_cases hlt : j < m
          · obtain ⟨blk, off, rfl, c0, c1⟩ := HS.out j hlt
            have hkz : (j : Int) < (m : Int) := by omega
            by_cases h2 : 1048576 < (wt j).size
            · generalize wt j = s at c1 h2
              have g2 : (1048576 : Int) < (s.size : Int) := by omega
              go_wp2
              go_ret
              exact ⟨rfl, Below.refl _ _⟩
            · have HK2 : Hid (∀ i, i < j + 1 → (wt i).size ≤ 1048576) := fun i hi => by
                by_cases e : i = j
                · subst e; omega
                · exact HK.out i (by omega)
              clear HK
              generalize wt j = s at c1 h2
              have g2 : ¬ (1048576 : Int) < (s.size : Int) := by omega
              by_cases h3 : 1048576 < t + (24 + s.size)
              · have g3 : (1048576 : Int) < (t : Int) + (24 + (s.size : Int)) := by omega
                go_wp2
                go_ret
                exact ⟨rfl, Below.refl _ _⟩
              · have g3 : ¬ (1048576 : Int) < (t : Int) + (24 + (s.size : Int)) := by omega
                go_wp2
                go_round
                case rel => exact ⟨t + (24 + s.size), j + 1, by omega, by omega, by go_num, by go_num, HK2⟩
                case measure => simp [intOf]; omega
          · have hjm : j = m := by omega
            subst hjm
            have HW : Hid (∀ i, i < j → (wt i).size ≤ 1048576) := HK
            clear HK
            have k0 : ¬ (0 : Int) < (k : Int) := by have := HN0.out; omega
            have M0 : Hid (MapIs w none (f0 nm vl k) k) := by
              rw [HN0.out]
              exact ⟨.nil, .inl ⟨rfl, rfl⟩, rf_nil, Nat.le_refl _⟩
            have HB5 : Hid (Below w.heap.size w w) := Below.refl _ _
            go_wp2_with fail
            go_loopw [12, 13, 14] (fun v12 v13 v14 wr => ∃ (y : Nat) (q : Option Nat), y ≤ j ∧ v12 = .int .u64 (zk s0 sz y) ∧ v13 = .map q ∧ v14 = .int .i64 y ∧ Hid (MapIs wr q (fk s0 sz wt (f0 nm vl k) y) (k + y)) ∧ Hid (MapIs wr none (f0 nm vl k) k) ∧ Hid (Below w.heap.size w wr)) (fun _ _ v14 _ => j - (intOf v14).toNat)
            case atStart => exact ⟨0, none, Nat.zero_le _, rfl, rfl, rfl, M0, M0, HB5⟩
            case round =>
              clear M0 HB5
              obtain ⟨y, q, hy, rfl, rfl, rfl, HQ, M0, HB⟩ := hrel
              rename World => w6
              by_cases hlt : y < j
              · obtain ⟨blk, off, rfl, c0, c1⟩ := (HS.out.below HB.out) y hlt
                have hkz : (y : Int) < (j : Int) := by omega
                have hs := HW.out y hlt
                have HF : Hid (fk s0 sz wt (f0 nm vl k) (y + 1) = stepf (fk s0 sz wt (f0 nm vl k) y) (sz y == zk s0 sz y) (wt y)) := rfl
                have HZ : Hid (zk s0 sz (y + 1) = sz y) := rfl
                generalize fk s0 sz wt (f0 nm vl k) y = F at HQ HF
                generalize zk s0 sz y = z0 at HF ⊢
                generalize sz y = z at c0 HF HZ
                generalize wt y = s at c1 hs HF
                go_wp2
                go_region_held3 (fun w' => w'.cell? ⟨blk, off + y * 2, none⟩ = some (.int .u64 z) ∧ w'.cell? ⟨blk, off + y * 2 + 1, none⟩ = some (.string s)) (go_keep)
                  (first | (go_at_call 5; refine (cosig5' z0 z q s F (k + y) blk (off + y * 2) _ (show MapIs w6.drew q F (k + y) from HQ.out) hs (by omega) (by simpa using c0) (by simpa using c1)).mono ?_; rintro e w' ⟨b', rfl, hm, hB, d0, d1⟩))
                rename World => w7
                have HQ7 : Hid (MapIs w7 (some b') (fk s0 sz wt (f0 nm vl k) (y + 1)) (k + (y + 1))) := by rw [HF.out]; exact hm
                have M7 : Hid (MapIs w7 none (f0 nm vl k) k) := (show MapIs w6.drew none (f0 nm vl k) k from M0.out).below hB.out (show MapIs w6.drew none (f0 nm vl k) k from M0.out).lt
                have HB7 : Hid (Below w.heap.size w w7) := HB.out.drew.trans (hB.out.mono HB.out.size)
                clear hm hB HQ M0 HB HF
                go_wp2
                go_roundw
                case rel => exact ⟨y + 1, some b', by omega, by rw [HZ.out], rfl, by go_num, HQ7, M7, HB7⟩
                case measure => simp [intOf]; omega
              · have hyj : y = j := by omega
                subst hyj
                have HS6 : Hid (StpIs w6 b y sz wt) := HS.out.below HB.out
                have HE6 : Hid (EntIs w6 a k nm vl) := HE.out.below HB.out
                obtain ⟨y', hy'⟩ : ∃ y', y = y' + 1 := ⟨y - 1, by omega⟩
                obtain ⟨wa, hwa⟩ : ∃ wa, wa = sz y' := ⟨_, rfl⟩
                have hzy : zk s0 sz y = wa := by rw [hy', hwa]; rfl
                obtain ⟨blk, off, rfl, c0, c1⟩ := HS6.out y' (by omega)
                rw [← hwa] at c0
                have y0 : (0 : Int) < (y : Int) := by omega
                have y1 : (y : Int) - 1 = (y' : Int) := by omega
                have HWA : Hid (wa = sz y') := hwa
                have HY : Hid (y = y' + 1) := hy'
                have yz : (y' : Int) < (y : Int) := by omega
                clear hwa c1 hy'
                rw [hzy]
                have HZY : Hid (zk s0 sz y = wa) := hzy
                clear hzy
                go_wp2_with fail
                go_loop [16] (fun v => ∃ g : Nat, g ≤ y ∧ v = .int .i64 g ∧ Hid (∀ i, g ≤ i → i < y → sz i = wa)) (fun v => (intOf v).toNat)
                case atStart => exact ⟨y, Nat.le_refl _, rfl, fun i h0 h1 => by omega⟩
                case round =>
                  obtain ⟨g, hg, rfl, HG⟩ := hrel
                  by_cases hg0 : g = 0
                  · subst hg0
                    by_cases hws : wa = s0
                    · subst hws
                      have HFK : Hid (∀ s, fk wa sz wt (f0 nm vl k) y s = gA (f0 nm vl k) wt y s) := fk_keeps wa sz wt (f0 nm vl k) y (fun i hi => HG.out i (Nat.zero_le _) hi) y (Nat.le_refl _)
                      clear HG
                      go_wp2_with (at_make; refine wpList_make_own _ rfl _ _ 33 rfl 0 9 i9 (.string ⟨#[]⟩) 1 Try.underlying33 hi9 hy9 hs9 .i64 .i64 _ (k + y) rfl rfl (by first | rfl | omega) ?c1 ?c2 (Nat.zero_le _) ?_)
                      case c1 => first | omega | (rw [hb9]; omega)
                      case c2 => unfold maxLen; omega
                      intro w8 hown8 hg8
                      have HK8 : Hid (w8.ownsRow 0 9 1 (.slice (some ⟨w6.heap.size, 0, none⟩) 0 (k + y)) 0 []) := hown8
                      have HG8 : Hid (w6.grownBy w8 none) := hg8
                      clear hown8 hg8
                      go_wp2_with (at_make; refine wpList_make_own _ rfl _ _ 34 rfl 0 4 i4 (.bool false) 1 Try.underlying34 hi4 hy4 hs4 .i64 .i64 _ (k + y) rfl rfl (by first | rfl | omega) ?e1 ?e2 (Nat.zero_le _) ?_)
                      case e1 => first | omega | (rw [hb4]; omega)
                      case e2 => unfold maxLen; omega
                      intro w9 hown9 hg9
                      have gkne : w6.heap.size ≠ w8.heap.size := by have := row_lt HK8.out; omega
                      have HKV : Hid (KV w9 w6.heap.size w8.heap.size (k + y) []) := ⟨row_kept HK8.out (hg9.block _ (row_lt HK8.out) (by simp)), hown9⟩
                      have HB9 : Hid (Below w6.heap.size w6 w9) := ((Below.refl _ w6).grown HG8.out (Nat.le_refl _) (fun k hk => by cases hk)).grown hg9 HG8.out.size (fun k hk => by cases hk)
                      have hgv : w6.heap.size ≤ w8.heap.size := HG8.out.size
                      clear hown9 hg9 HK8 HG8
                      generalize w8.heap.size = gv at gkne HKV hgv ⊢
                      obtain ⟨gk, hgk⟩ : ∃ gk, gk = w6.heap.size := ⟨_, rfl⟩
                      rw [← hgk] at gkne HKV hgv ⊢
                      have HGK : Hid (gk = w6.heap.size) := hgk
                      clear hgk
                      have HB0 : Hid (Below w.heap.size w w6) := HB
                      clear HB
                      go_wp2_with fail
                      go_loopw [18, 19, 20] (fun v18 v19 v20 wr => ∃ (i : Nat) (kv : List (ByteArray × Bool)), i ≤ k ∧ kv.length ≤ i ∧ v18 = .slice (some ⟨gk, 0, none⟩) kv.length (k + y) ∧ v19 = .slice (some ⟨gv, 0, none⟩) kv.length (k + y) ∧ v20 = .int .i64 i ∧ Hid (KV wr gk gv (k + y) kv) ∧ Hid (Fin kv (g6 nm vl k i)) ∧ Hid (Below w6.heap.size w6 wr)) (fun _ _ v20 _ => k - (intOf v20).toNat)
                      case atStart => exact ⟨0, [], Nat.zero_le _, Nat.le_refl _, rfl, rfl, rfl, HKV, fin_nil (g6_zero nm vl k), HB9⟩
                      case round =>
                        clear HKV HB9
                        obtain ⟨i, kv, hi, hkv, rfl, rfl, rfl, HKV, HF, HBR⟩ := hrel
                        rename World => w10
                        by_cases hlt : i < k
                        · exact absurd hlt (by have := HN0.out; omega)
                        · have hiK : i = k := by omega
                          have HF7 : Hid (Fin kv (gA (f0 nm vl k) wt 0)) := HF.out.congr (fun s => by rw [gA_zero, ← g6_end, hiK])
                          have hiz : ¬ (i : Int) < (k : Int) := by omega
                          have hkv7 : kv.length ≤ k + 0 := by omega
                          clear HF
                          go_wp2_with fail
                          go_loopw [18, 19, 21] (fun v18 v19 v20 wr => ∃ (l : Nat) (kv : List (ByteArray × Bool)), l ≤ y ∧ kv.length ≤ k + l ∧ v18 = .slice (some ⟨gk, 0, none⟩) kv.length (k + y) ∧ v19 = .slice (some ⟨gv, 0, none⟩) kv.length (k + y) ∧ v20 = .int .i64 l ∧ Hid (KV wr gk gv (k + y) kv) ∧ Hid (Fin kv (gA (f0 nm vl k) wt l)) ∧ Hid (Below w6.heap.size w6 wr)) (fun _ _ v20 _ => y - (intOf v20).toNat)
                          case atStart => exact ⟨0, kv, Nat.zero_le _, hkv7, rfl, rfl, rfl, HKV, HF7, HBR⟩
                          case round =>
                            clear HKV HF7 HBR hkv hkv7
                            obtain ⟨l, kv, hl, hkv, rfl, rfl, rfl, HKV, HF, HBR⟩ := hrel
                            rename World => w11
                            by_cases hlt : l < y
                            · have hlz : (l : Int) < (y : Int) := by omega
                              obtain ⟨blk3, off3, hb3, e30, e31⟩ := HS6.out l hlt
                              obtain ⟨rfl, rfl⟩ : blk = blk3 ∧ off = off3 := by simpa using hb3
                              have c31 : w11.cell? ⟨blk, off + l * 2 + 1, none⟩ = some (.string (wt l)) := by rw [HBR.out.cell (lt_of_cell e31)]; exact e31
                              have A1 : Hid (ex (fun j => decide (nm j = wt l)) 0 k = true → Fin kv (gA (f0 nm vl k) wt (l + 1))) := fun h => HF.out.congr (gA_old _ wt l (.inl (by rw [f0_isSome]; exact h)))
                              have A2 : Hid (ex (fun j => decide (wt j = wt l)) 0 l = true → Fin kv (gA (f0 nm vl k) wt (l + 1))) := fun h => HF.out.congr (gA_old _ wt l (.inr h))
                              have A3 : Hid (ex (fun j => decide (nm j = wt l)) 0 k = false → ex (fun j => decide (wt j = wt l)) 0 l = false → Fin (kv ++ [(wt l, true)]) (gA (f0 nm vl k) wt (l + 1))) := fun h h2 => HF.out.snoc (gA_none _ wt l (by rw [f0_isSome]; exact h) h2) (gA_new _ wt l (by rw [f0_isSome]; exact h))
                              have HC7 : Hid (∀ s, Calls Try.prog 7 #[.slice a k c, .string s] w11 fun e w' => e = .returned (.bool (ex (fun j => decide (nm j = s)) 0 k)) ∧ w' = w11) := fun s => nameIn7 _ k c nm vl s w11 (HE6.out.below HBR.out) (by omega)
                              have HC8 : Hid (∀ s, Calls Try.prog 8 #[.slice (some ⟨blk, off, none⟩) y d, .int .i64 0, .int .i64 l, .string s] w11 fun e w' => e = .returned (.bool (ex (fun j => decide (wt j = s)) 0 l)) ∧ w' = w11) := fun s => witIn8 _ y d sz wt 0 l s w11 (HS6.out.below HBR.out) (by omega) (Nat.zero_le _) hl
                              clear e30 e31 hb3 HF
                              generalize wt l = s2 at c31 A1 A2 A3
                              go_wp2_with fail
                              refine (HC7.out s2).mono ?_
                              rintro e w' ⟨rfl, hw⟩
                              subst w'
                              cases h1 : ex (fun j => decide (nm j = s2)) 0 k with
                              | true =>
                                have HF2 : Hid (Fin kv (gA (f0 nm vl k) wt (l + 1))) := A1.out h1
                                clear A1 A2 A3 HC7 HC8 h1
                                go_wp2
                                go_roundw
                                case rel => exact ⟨l + 1, kv, by omega, by omega, rfl, rfl, by go_num, HKV, HF2, HBR⟩
                                case measure => simp [intOf]; omega
                              | false =>
                                go_wp2_with fail
                                refine (HC8.out s2).mono ?_
                                rintro e w' ⟨rfl, hw⟩
                                subst w'
                                cases h2 : ex (fun j => decide (wt j = s2)) 0 l with
                                | true =>
                                  have HF2 : Hid (Fin kv (gA (f0 nm vl k) wt (l + 1))) := A2.out h2
                                  clear A1 A2 A3 HC7 HC8 h1 h2
                                  go_wp2
                                  go_roundw
                                  case rel => exact ⟨l + 1, kv, by omega, by omega, rfl, rfl, by go_num, HKV, HF2, HBR⟩
                                  case measure => simp [intOf]; omega
                                | false =>
                                  have HF2 : Hid (Fin (kv ++ [(s2, true)]) (gA (f0 nm vl k) wt (l + 1))) := A3.out h1 h2
                                  clear A1 A2 A3 HC7 HC8 h1 h2
                                  go_wp2_with (at_builtin; refine wpList_append_fits _ rfl _ _ 33 rfl 0 9 i9 1 Try.underlying33 hi9 hs9 gk kv.length (k + y) _ rfl (row_kept HKV.out.1 (heap_alloc_old _ _ _ (row_lt HKV.out.1))) ⟨w11.heap.size, 0, none⟩ 1 1 [.string s2] rfl rfl ?d1 ?d2 ?d3 ?_)
                                  case d1 => exact cell_one_new _ _ _
                                  case d2 => exact one_of rfl
                                  case d3 => omega
                                  intro w12 hk12 hg12
                                  have HV12 : Hid (w12.ownsRow 0 4 1 (.slice (some ⟨gv, 0, none⟩) kv.length (k + y)) kv.length (kv.map fun p => Value.bool p.2)) := row_kept HKV.out.2 ((hg12.block gv (by have := row_lt HKV.out.2; simp; omega) (by simp; omega)).trans (heap_alloc_old _ _ _ (row_lt HKV.out.2)))
                                  have HK12 : Hid (w12.ownsRow 0 9 1 (.slice (some ⟨gk, 0, none⟩) (kv.length + 1) (k + y)) (kv.length + 1) (kv.map (fun p => Value.string p.1) ++ [.string s2])) := hk12
                                  have HB12 : Hid (Below w6.heap.size w6 w12) := (HBR.out.alloc HBR.out.size _).grown hg12 (by have := HBR.out.size; simp; omega) (fun k hk => by cases hk; rw [HGK.out]; exact Nat.le_refl _)
                                  clear hk12 hg12 HKV HBR
                                  go_wp2_with (at_builtin; refine wpList_append_fits _ rfl _ _ 34 rfl 0 4 i4 1 Try.underlying34 hi4 hs4 gv kv.length (k + y) _ rfl (row_kept HV12.out (heap_alloc_old _ _ _ (row_lt HV12.out))) ⟨w12.heap.size, 0, none⟩ 1 1 [.bool true] rfl rfl ?f1 ?f2 ?f3 ?_)
                                  case f1 => exact cell_one_new _ _ _
                                  case f2 => exact one_of rfl
                                  case f3 => omega
                                  intro w13 hv13 hg13
                                  have HKV13 : Hid (KV w13 gk gv (k + y) (kv ++ [(s2, true)])) := by
                                    have hk13 := row_kept HK12.out ((hg13.block gk (by have := row_lt HK12.out; simp; omega) (by simp; omega)).trans (heap_alloc_old _ _ _ (row_lt HK12.out)))
                                    refine ⟨?_, ?_⟩
                                    · simpa using hk13
                                    · simpa using hv13
                                  have HB13 : Hid (Below w6.heap.size w6 w13) := (HB12.out.alloc HB12.out.size _).grown hg13 (by have := HB12.out.size; simp; omega) (fun k hk => by cases hk; have := HGK.out; omega)
                                  clear hv13 hg13 HK12 HV12 HB12
                                  go_wp2
                                  go_roundw
                                  case rel => exact ⟨l + 1, kv ++ [(s2, true)], by omega, by simp; omega, by simp, by simp, by go_num, HKV13, HF2, HB13⟩
                                  case measure => simp [intOf]; omega
                            · have hlY : l = y := by omega
                              have hlz : ¬ (l : Int) < (y : Int) := by omega
                              have HFF : Hid (Fin kv (fk wa sz wt (f0 nm vl k) y)) := HF.out.congr (fun s => by rw [hlY]; exact HFK.out s)
                              have HSZ : Hid (∀ i (hi : i < kv.length), (kv[i]'hi).1.size ≤ 1048576) := fun i hi => dom_gA nm vl wt k l 1048576 (fun j hj => HN.out j hj) (fun j hj => HW.out j (by omega)) _ _ (HF.out.at i hi)
                              clear HF HFK hlY
                              have HQ2 : Hid (MapIs w11 q (fk wa sz wt (f0 nm vl k) y) (k + y)) := HQ.out.below HBR.out HQ.out.lt
                              have M2 : Hid (MapIs w11 none (f0 nm vl k) k) := M0.out.below HBR.out M0.out.lt
                              have hlen : ∀ ty, (Builtin.len_ #[30] ty #[.map q]).run Try.prog w11 = .ok (.int .i64 kv.length) w11 := fun ty => HQ2.out.len' HFF.out ty
                              have hkl : kv.length ≤ 8192 := by omega
                              go_wp2_with fail
                              go_loop [25] (fun v => ∃ e : Nat, e ≤ kv.length ∧ v = .int .i64 e) (fun v => kv.length - (intOf v).toNat)
                              case atStart => exact ⟨0, Nat.zero_le _, rfl⟩
                              case round =>
                                obtain ⟨e, he, rfl⟩ := hrel
                                by_cases hle : e < kv.length
                                · have hez : (e : Int) < (kv.length : Int) := by omega
                                  have k1 := HKV.out.key e hle
                                  have k2 := HKV.out.val e hle
                                  have hlk := HQ2.out.look (HSZ.out e hle)
                                  rw [HFF.out.at e hle] at hlk
                                  generalize (kv[e]'hle).1 = s2 at k1 hlk
                                  generalize (kv[e]'hle).2 = v2 at k2 hlk
                                  have hlk2 : (Instr.lookup 30 (.map q) (.string s2) true).run Try.prog w11 = .ok (.tuple #[.bool v2, .bool true]) w11 := hlk
                                  have hvb : (v2 != v2) = false := by simp
                                  clear hlk
                                  go_wp2
                                  go_round
                                  case rel => exact ⟨e + 1, by omega, by go_num⟩
                                  case measure => simp [intOf]; omega
                                · have hez : ¬ (e : Int) < (kv.length : Int) := by omega
                                  have HBZ : Hid (Below w.heap.size w w11) := HB0.out.trans (HBR.out.mono HB0.out.size)
                                  have HE11 : Hid (EntIs w11 a k nm vl) := HE6.out.below HBR.out
                                  clear HKV HQ2 HFF HSZ HQ HBR hlen
                                  go_wp2_with fail
                                  go_loopw [28, 29] (fun v28 v29 wr => ∃ (i : Nat) (kz : List (ByteArray × Bool)), i ≤ k ∧ kz.length ≤ i ∧ v28 = .int .i64 kz.length ∧ v29 = .int .i64 i ∧ Hid (Fin kz (g6 nm vl k i)) ∧ Hid (∃ r, wr = w11.drewN r)) (fun _ v29 _ => k - (intOf v29).toNat)
                                  case atStart => exact ⟨0, [], Nat.zero_le _, Nat.le_refl _, rfl, rfl, fin_nil (g6_zero nm vl k), 0, rfl⟩
                                  case round =>
                                    obtain ⟨i, kz, hi, hkz, rfl, rfl, HF, HR⟩ := hrel
                                    rename World => w14
                                    obtain ⟨r, hr⟩ := HR.out
                                    subst hr
                                    by_cases hlt : i < k
                                    · exact absurd hlt (by have := HN0.out; omega)
                                    · have hiK : i = k := by omega
                                      have hiz : ¬ (i : Int) < (k : Int) := by omega
                                      have HFZ : Hid (Fin kz (f0 nm vl k)) := HF.out.congr (fun s => by rw [← g6_end, hiK])
                                      have hlen2 : ∀ ty, (Builtin.len_ #[30] ty #[.map none]).run Try.prog (w11.drewN r) = .ok (.int .i64 kz.length) (w11.drewN r) := fun ty => (show MapIs (w11.drewN r) none (f0 nm vl k) k from M2.out).len' HFZ.out ty
                                      have HBZ2 : Hid (Below w.heap.size w (w11.drewN r)) := below_drewN HBZ.out r
                                      clear HF
                                      go_wp2
                                      go_ret
                                      exact ⟨by simp, HBZ2⟩
                    · have hwb : (wa == s0) = false := by simpa using hws
                      have HFK : Hid (∀ s, fk s0 sz wt (f0 nm vl k) y s = gB wt 0 y s) := fk_run s0 sz wt (f0 nm vl k) y 0 wa (fun i _ hi => HG.out i (Nat.zero_le _) hi) (fun e => hws e.symm) y (by omega) (Nat.le_refl _)
                      clear HG
                      go_wp2_with (at_make; refine wpList_make_own _ rfl _ _ 33 rfl 0 9 i9 (.string ⟨#[]⟩) 1 Try.underlying33 hi9 hy9 hs9 .i64 .i64 _ (k + y) rfl rfl (by first | rfl | omega) ?c1 ?c2 (Nat.zero_le _) ?_)
                      case c1 => first | omega | (rw [hb9]; omega)
                      case c2 => unfold maxLen; omega
                      intro w8 hown8 hg8
                      have HK8 : Hid (w8.ownsRow 0 9 1 (.slice (some ⟨w6.heap.size, 0, none⟩) 0 (k + y)) 0 []) := hown8
                      have HG8 : Hid (w6.grownBy w8 none) := hg8
                      clear hown8 hg8
                      go_wp2_with (at_make; refine wpList_make_own _ rfl _ _ 34 rfl 0 4 i4 (.bool false) 1 Try.underlying34 hi4 hy4 hs4 .i64 .i64 _ (k + y) rfl rfl (by first | rfl | omega) ?e1 ?e2 (Nat.zero_le _) ?_)
                      case e1 => first | omega | (rw [hb4]; omega)
                      case e2 => unfold maxLen; omega
                      intro w9 hown9 hg9
                      have gkne : w6.heap.size ≠ w8.heap.size := by have := row_lt HK8.out; omega
                      have HKV : Hid (KV w9 w6.heap.size w8.heap.size (k + y) []) := ⟨row_kept HK8.out (hg9.block _ (row_lt HK8.out) (by simp)), hown9⟩
                      have HB9 : Hid (Below w6.heap.size w6 w9) := ((Below.refl _ w6).grown HG8.out (Nat.le_refl _) (fun k hk => by cases hk)).grown hg9 HG8.out.size (fun k hk => by cases hk)
                      have hgv : w6.heap.size ≤ w8.heap.size := HG8.out.size
                      clear hown9 hg9 HK8 HG8
                      generalize w8.heap.size = gv at gkne HKV hgv ⊢
                      obtain ⟨gk, hgk⟩ : ∃ gk, gk = w6.heap.size := ⟨_, rfl⟩
                      rw [← hgk] at gkne HKV hgv ⊢
                      have HGK : Hid (gk = w6.heap.size) := hgk
                      clear hgk
                      have HB0 : Hid (Below w.heap.size w w6) := HB
                      clear HB
                      go_wp2_with fail
                      go_loopw [18, 19, 23] (fun v18 v19 v20 wr => ∃ (l : Nat) (kv : List (ByteArray × Bool)), 0 ≤ l ∧ l ≤ y ∧ kv.length ≤ l ∧ v18 = .slice (some ⟨gk, 0, none⟩) kv.length (k + y) ∧ v19 = .slice (some ⟨gv, 0, none⟩) kv.length (k + y) ∧ v20 = .int .i64 l ∧ Hid (KV wr gk gv (k + y) kv) ∧ Hid (Fin kv (gB wt 0 l)) ∧ Hid (Below w6.heap.size w6 wr)) (fun _ _ v20 _ => y - (intOf v20).toNat)
                      case atStart => exact ⟨0, [], Nat.le_refl _, by omega, Nat.zero_le _, rfl, rfl, rfl, HKV, fin_nil (gB_start wt 0), HB9⟩
                      case round =>
                        clear HKV HB9
                        obtain ⟨l, kv, hl0, hl, hkv, rfl, rfl, rfl, HKV, HF, HBR⟩ := hrel
                        rename World => w11
                        by_cases hlt : l < y
                        · have hlz : (l : Int) < (y : Int) := by omega
                          obtain ⟨blk3, off3, hb3, e30, e31⟩ := HS6.out l hlt
                          obtain ⟨rfl, rfl⟩ : blk = blk3 ∧ off = off3 := by simpa using hb3
                          have c31 : w11.cell? ⟨blk, off + l * 2 + 1, none⟩ = some (.string (wt l)) := by rw [HBR.out.cell (lt_of_cell e31)]; exact e31
                          have A2 : Hid (ex (fun j => decide (wt j = wt l)) 0 l = true → Fin kv (gB wt 0 (l + 1))) := fun h => HF.out.congr (gB_old wt 0 l hl0 h)
                          have A3 : Hid (ex (fun j => decide (wt j = wt l)) 0 l = false → Fin (kv ++ [(wt l, true)]) (gB wt 0 (l + 1))) := fun h => HF.out.snoc (gB_none wt 0 l h) (gB_new wt 0 l hl0)
                          have HC8 : Hid (∀ s, Calls Try.prog 8 #[.slice (some ⟨blk, off, none⟩) y d, .int .i64 0, .int .i64 l, .string s] w11 fun e w' => e = .returned (.bool (ex (fun j => decide (wt j = s)) 0 l)) ∧ w' = w11) := fun s => witIn8 _ y d sz wt 0 l s w11 (HS6.out.below HBR.out) (by omega) hl0 hl
                          clear e30 e31 hb3 HF
                          generalize wt l = s2 at c31 A2 A3
                          go_wp2_with fail
                          refine (HC8.out s2).mono ?_
                          rintro e w' ⟨rfl, hw⟩
                          subst w'
                          cases h2 : ex (fun j => decide (wt j = s2)) 0 l with
                          | true =>
                            have HF2 : Hid (Fin kv (gB wt 0 (l + 1))) := A2.out h2
                            clear A2 A3 HC8 h2
                            go_wp2
                            go_roundw
                            case rel => exact ⟨l + 1, kv, by omega, by omega, by omega, rfl, rfl, by go_num, HKV, HF2, HBR⟩
                            case measure => simp [intOf]; omega
                          | false =>
                            have HF2 : Hid (Fin (kv ++ [(s2, true)]) (gB wt 0 (l + 1))) := A3.out h2
                            clear A2 A3 HC8 h2
                            go_wp2_with (at_builtin; refine wpList_append_fits _ rfl _ _ 33 rfl 0 9 i9 1 Try.underlying33 hi9 hs9 gk kv.length (k + y) _ rfl (row_kept HKV.out.1 (heap_alloc_old _ _ _ (row_lt HKV.out.1))) ⟨w11.heap.size, 0, none⟩ 1 1 [.string s2] rfl rfl ?d1 ?d2 ?d3 ?_)
                            case d1 => exact cell_one_new _ _ _
                            case d2 => exact one_of rfl
                            case d3 => omega
                            intro w12 hk12 hg12
                            have HV12 : Hid (w12.ownsRow 0 4 1 (.slice (some ⟨gv, 0, none⟩) kv.length (k + y)) kv.length (kv.map fun p => Value.bool p.2)) := row_kept HKV.out.2 ((hg12.block gv (by have := row_lt HKV.out.2; simp; omega) (by simp; omega)).trans (heap_alloc_old _ _ _ (row_lt HKV.out.2)))
                            have HK12 : Hid (w12.ownsRow 0 9 1 (.slice (some ⟨gk, 0, none⟩) (kv.length + 1) (k + y)) (kv.length + 1) (kv.map (fun p => Value.string p.1) ++ [.string s2])) := hk12
                            have HB12 : Hid (Below w6.heap.size w6 w12) := (HBR.out.alloc HBR.out.size _).grown hg12 (by have := HBR.out.size; simp; omega) (fun k hk => by cases hk; rw [HGK.out]; exact Nat.le_refl _)
                            clear hk12 hg12 HKV HBR
                            go_wp2_with (at_builtin; refine wpList_append_fits _ rfl _ _ 34 rfl 0 4 i4 1 Try.underlying34 hi4 hs4 gv kv.length (k + y) _ rfl (row_kept HV12.out (heap_alloc_old _ _ _ (row_lt HV12.out))) ⟨w12.heap.size, 0, none⟩ 1 1 [.bool true] rfl rfl ?f1 ?f2 ?f3 ?_)
                            case f1 => exact cell_one_new _ _ _
                            case f2 => exact one_of rfl
                            case f3 => omega
                            intro w13 hv13 hg13
                            have HKV13 : Hid (KV w13 gk gv (k + y) (kv ++ [(s2, true)])) := by
                              have hk13 := row_kept HK12.out ((hg13.block gk (by have := row_lt HK12.out; simp; omega) (by simp; omega)).trans (heap_alloc_old _ _ _ (row_lt HK12.out)))
                              refine ⟨?_, ?_⟩
                              · simpa using hk13
                              · simpa using hv13
                            have HB13 : Hid (Below w6.heap.size w6 w13) := (HB12.out.alloc HB12.out.size _).grown hg13 (by have := HB12.out.size; simp; omega) (fun k hk => by cases hk; have := HGK.out; omega)
                            clear hv13 hg13 HK12 HV12 HB12
                            go_wp2
                            go_roundw
                            case rel => exact ⟨l + 1, kv ++ [(s2, true)], by omega, by omega, by simp; omega, by simp, by simp, by go_num, HKV13, HF2, HB13⟩
                            case measure => simp [intOf]; omega
                        · have hlY : l = y := by omega
                          have hlz : ¬ (l : Int) < (y : Int) := by omega
                          have HFF : Hid (Fin kv (fk s0 sz wt (f0 nm vl k) y)) := HF.out.congr (fun s => by rw [hlY]; exact HFK.out s)
                          have HSZ : Hid (∀ i (hi : i < kv.length), (kv[i]'hi).1.size ≤ 1048576) := fun i hi => dom_gB wt 0 l 1048576 (fun j hj => HW.out j (by omega)) _ _ (HF.out.at i hi)
                          clear HF HFK hlY
                          have HQ2 : Hid (MapIs w11 q (fk s0 sz wt (f0 nm vl k) y) (k + y)) := HQ.out.below HBR.out HQ.out.lt
                          have M2 : Hid (MapIs w11 none (f0 nm vl k) k) := M0.out.below HBR.out M0.out.lt
                          have hlen : ∀ ty, (Builtin.len_ #[30] ty #[.map q]).run Try.prog w11 = .ok (.int .i64 kv.length) w11 := fun ty => HQ2.out.len' HFF.out ty
                          have hkl : kv.length ≤ 8192 := by omega
                          go_wp2_with fail
                          go_loop [25] (fun v => ∃ e : Nat, e ≤ kv.length ∧ v = .int .i64 e) (fun v => kv.length - (intOf v).toNat)
                          case atStart => exact ⟨0, Nat.zero_le _, rfl⟩
                          case round =>
                            obtain ⟨e, he, rfl⟩ := hrel
                            by_cases hle : e < kv.length
                            · have hez : (e : Int) < (kv.length : Int) := by omega
                              have k1 := HKV.out.key e hle
                              have k2 := HKV.out.val e hle
                              have hlk := HQ2.out.look (HSZ.out e hle)
                              rw [HFF.out.at e hle] at hlk
                              generalize (kv[e]'hle).1 = s2 at k1 hlk
                              generalize (kv[e]'hle).2 = v2 at k2 hlk
                              have hlk2 : (Instr.lookup 30 (.map q) (.string s2) true).run Try.prog w11 = .ok (.tuple #[.bool v2, .bool true]) w11 := hlk
                              have hvb : (v2 != v2) = false := by simp
                              clear hlk
                              go_wp2
                              go_round
                              case rel => exact ⟨e + 1, by omega, by go_num⟩
                              case measure => simp [intOf]; omega
                            · have hez : ¬ (e : Int) < (kv.length : Int) := by omega
                              have HBZ : Hid (Below w.heap.size w w11) := HB0.out.trans (HBR.out.mono HB0.out.size)
                              have HE11 : Hid (EntIs w11 a k nm vl) := HE6.out.below HBR.out
                              clear HKV HQ2 HFF HSZ HQ HBR hlen
                              go_wp2_with fail
                              go_loopw [28, 29] (fun v28 v29 wr => ∃ (i : Nat) (kz : List (ByteArray × Bool)), i ≤ k ∧ kz.length ≤ i ∧ v28 = .int .i64 kz.length ∧ v29 = .int .i64 i ∧ Hid (Fin kz (g6 nm vl k i)) ∧ Hid (∃ r, wr = w11.drewN r)) (fun _ v29 _ => k - (intOf v29).toNat)
                              case atStart => exact ⟨0, [], Nat.zero_le _, Nat.le_refl _, rfl, rfl, fin_nil (g6_zero nm vl k), 0, rfl⟩
                              case round =>
                                obtain ⟨i, kz, hi, hkz, rfl, rfl, HF, HR⟩ := hrel
                                rename World => w14
                                obtain ⟨r, hr⟩ := HR.out
                                subst hr
                                by_cases hlt : i < k
                                · exact absurd hlt (by have := HN0.out; omega)
                                · have hiK : i = k := by omega
                                  have hiz : ¬ (i : Int) < (k : Int) := by omega
                                  have HFZ : Hid (Fin kz (f0 nm vl k)) := HF.out.congr (fun s => by rw [← g6_end, hiK])
                                  have hlen2 : ∀ ty, (Builtin.len_ #[30] ty #[.map none]).run Try.prog (w11.drewN r) = .ok (.int .i64 kz.length) (w11.drewN r) := fun ty => (show MapIs (w11.drewN r) none (f0 nm vl k) k from M2.out).len' HFZ.out ty
                                  have HBZ2 : Hid (Below w.heap.size w (w11.drewN r)) := below_drewN HBZ.out r
                                  clear HF
                                  go_wp2
                                  go_ret
                                  exact ⟨by simp, HBZ2⟩
                  · obtain ⟨g', hg'⟩ : ∃ g', g = g' + 1 := ⟨g - 1, by omega⟩
                    obtain ⟨blk', off', hbo, e0, e1⟩ := HS6.out g' (by omega)
                    obtain ⟨rfl, rfl⟩ : blk = blk' ∧ off = off' := by simpa using hbo
                    have gz : (0 : Int) < (g : Int) := by omega
                    have gy : (g' : Int) < (y : Int) := by omega
                    have g1 : (g : Int) - 1 = (g' : Int) := by omega
                    by_cases hsg : sz g' = wa
                    · have HG2 : Hid (∀ i, g' ≤ i → i < y → sz i = wa) := fun i h0 h1 => by
                        by_cases e : i = g'
                        · subst e; exact hsg
                        · exact HG.out i (by omega) h1
                      rw [hsg] at e0
                      clear HG hbo e1 hsg
                      go_wp2
                      go_round
                      case rel => exact ⟨g', by omega, by first | rfl | (congr 1; omega), HG2⟩
                      case measure => simp [intOf]; omega
                    · have hwb : (sz g' == wa) = false := by simpa using hsg
                      have hlt2 : g < y := by
                        rcases Nat.lt_or_ge g y with h | h
                        · exact h
                        · exfalso
                          have : y' = g' := by have := HY.out; omega
                          exact hsg (by rw [← this]; exact HWA.out.symm)
                      have HFK : Hid (∀ s, fk s0 sz wt (f0 nm vl k) y s = gB wt g y s) := fk_run s0 sz wt (f0 nm vl k) y g wa (fun i h0 hi => HG.out i h0 hi) (by rw [hg']; exact hsg) y (by omega) (Nat.le_refl _)
                      have gb : ((g : Int) == 0) = false := by simp; omega
                      have gn : ¬ (g : Int) = 0 := by omega
                      clear HG hbo e1 hsg
                      generalize sz g' = zg at e0 hwb
                      have HGG : Hid (g = g' + 1) := hg'
                      clear hg'
                      go_wp2_with (at_make; refine wpList_make_own _ rfl _ _ 33 rfl 0 9 i9 (.string ⟨#[]⟩) 1 Try.underlying33 hi9 hy9 hs9 .i64 .i64 _ (k + y) rfl rfl (by first | rfl | omega) ?c1 ?c2 (Nat.zero_le _) ?_)
                      case c1 => first | omega | (rw [hb9]; omega)
                      case c2 => unfold maxLen; omega
                      intro w8 hown8 hg8
                      have HK8 : Hid (w8.ownsRow 0 9 1 (.slice (some ⟨w6.heap.size, 0, none⟩) 0 (k + y)) 0 []) := hown8
                      have HG8 : Hid (w6.grownBy w8 none) := hg8
                      clear hown8 hg8
                      go_wp2_with (at_make; refine wpList_make_own _ rfl _ _ 34 rfl 0 4 i4 (.bool false) 1 Try.underlying34 hi4 hy4 hs4 .i64 .i64 _ (k + y) rfl rfl (by first | rfl | omega) ?e1 ?e2 (Nat.zero_le _) ?_)
                      case e1 => first | omega | (rw [hb4]; omega)
                      case e2 => unfold maxLen; omega
                      intro w9 hown9 hg9
                      have gkne : w6.heap.size ≠ w8.heap.size := by have := row_lt HK8.out; omega
                      have HKV : Hid (KV w9 w6.heap.size w8.heap.size (k + y) []) := ⟨row_kept HK8.out (hg9.block _ (row_lt HK8.out) (by simp)), hown9⟩
                      have HB9 : Hid (Below w6.heap.size w6 w9) := ((Below.refl _ w6).grown HG8.out (Nat.le_refl _) (fun k hk => by cases hk)).grown hg9 HG8.out.size (fun k hk => by cases hk)
                      have hgv : w6.heap.size ≤ w8.heap.size := HG8.out.size
                      clear hown9 hg9 HK8 HG8
                      generalize w8.heap.size = gv at gkne HKV hgv ⊢
                      obtain ⟨gk, hgk⟩ : ∃ gk, gk = w6.heap.size := ⟨_, rfl⟩
                      rw [← hgk] at gkne HKV hgv ⊢
                      have HGK : Hid (gk = w6.heap.size) := hgk
                      clear hgk
                      have HB0 : Hid (Below w.heap.size w w6) := HB
                      clear HB
                      go_wp2_with fail
                      go_loopw [18, 19, 23] (fun v18 v19 v20 wr => ∃ (l : Nat) (kv : List (ByteArray × Bool)), g ≤ l ∧ l ≤ y ∧ kv.length ≤ l ∧ v18 = .slice (some ⟨gk, 0, none⟩) kv.length (k + y) ∧ v19 = .slice (some ⟨gv, 0, none⟩) kv.length (k + y) ∧ v20 = .int .i64 l ∧ Hid (KV wr gk gv (k + y) kv) ∧ Hid (Fin kv (gB wt g l)) ∧ Hid (Below w6.heap.size w6 wr)) (fun _ _ v20 _ => y - (intOf v20).toNat)
                      case atStart => exact ⟨g, [], Nat.le_refl _, by omega, Nat.zero_le _, rfl, rfl, rfl, HKV, fin_nil (gB_start wt g), HB9⟩
                      case round =>
                        clear HKV HB9
                        obtain ⟨l, kv, hl0, hl, hkv, rfl, rfl, rfl, HKV, HF, HBR⟩ := hrel
                        rename World => w11
                        by_cases hlt : l < y
                        · have hlz : (l : Int) < (y : Int) := by omega
                          obtain ⟨blk3, off3, hb3, e30, e31⟩ := HS6.out l hlt
                          obtain ⟨rfl, rfl⟩ : blk = blk3 ∧ off = off3 := by simpa using hb3
                          have c31 : w11.cell? ⟨blk, off + l * 2 + 1, none⟩ = some (.string (wt l)) := by rw [HBR.out.cell (lt_of_cell e31)]; exact e31
                          have A2 : Hid (ex (fun j => decide (wt j = wt l)) g l = true → Fin kv (gB wt g (l + 1))) := fun h => HF.out.congr (gB_old wt g l hl0 h)
                          have A3 : Hid (ex (fun j => decide (wt j = wt l)) g l = false → Fin (kv ++ [(wt l, true)]) (gB wt g (l + 1))) := fun h => HF.out.snoc (gB_none wt g l h) (gB_new wt g l hl0)
                          have HC8 : Hid (∀ s, Calls Try.prog 8 #[.slice (some ⟨blk, off, none⟩) y d, .int .i64 g, .int .i64 l, .string s] w11 fun e w' => e = .returned (.bool (ex (fun j => decide (wt j = s)) g l)) ∧ w' = w11) := fun s => witIn8 _ y d sz wt g l s w11 (HS6.out.below HBR.out) (by omega) hl0 hl
                          clear e30 e31 hb3 HF
                          generalize wt l = s2 at c31 A2 A3
                          go_wp2_with fail
                          refine (HC8.out s2).mono ?_
                          rintro e w' ⟨rfl, hw⟩
                          subst w'
                          cases h2 : ex (fun j => decide (wt j = s2)) g l with
                          | true =>
                            have HF2 : Hid (Fin kv (gB wt g (l + 1))) := A2.out h2
                            clear A2 A3 HC8 h2
                            go_wp2
                            go_roundw
                            case rel => exact ⟨l + 1, kv, by omega, by omega, by omega, rfl, rfl, by go_num, HKV, HF2, HBR⟩
                            case measure => simp [intOf]; omega
                          | false =>
                            have HF2 : Hid (Fin (kv ++ [(s2, true)]) (gB wt g (l + 1))) := A3.out h2
                            clear A2 A3 HC8 h2
                            go_wp2_with (at_builtin; refine wpList_append_fits _ rfl _ _ 33 rfl 0 9 i9 1 Try.underlying33 hi9 hs9 gk kv.length (k + y) _ rfl (row_kept HKV.out.1 (heap_alloc_old _ _ _ (row_lt HKV.out.1))) ⟨w11.heap.size, 0, none⟩ 1 1 [.string s2] rfl rfl ?d1 ?d2 ?d3 ?_)
                            case d1 => exact cell_one_new _ _ _
                            case d2 => exact one_of rfl
                            case d3 => omega
                            intro w12 hk12 hg12
                            have HV12 : Hid (w12.ownsRow 0 4 1 (.slice (some ⟨gv, 0, none⟩) kv.length (k + y)) kv.length (kv.map fun p => Value.bool p.2)) := row_kept HKV.out.2 ((hg12.block gv (by have := row_lt HKV.out.2; simp; omega) (by simp; omega)).trans (heap_alloc_old _ _ _ (row_lt HKV.out.2)))
                            have HK12 : Hid (w12.ownsRow 0 9 1 (.slice (some ⟨gk, 0, none⟩) (kv.length + 1) (k + y)) (kv.length + 1) (kv.map (fun p => Value.string p.1) ++ [.string s2])) := hk12
                            have HB12 : Hid (Below w6.heap.size w6 w12) := (HBR.out.alloc HBR.out.size _).grown hg12 (by have := HBR.out.size; simp; omega) (fun k hk => by cases hk; rw [HGK.out]; exact Nat.le_refl _)
                            clear hk12 hg12 HKV HBR
                            go_wp2_with (at_builtin; refine wpList_append_fits _ rfl _ _ 34 rfl 0 4 i4 1 Try.underlying34 hi4 hs4 gv kv.length (k + y) _ rfl (row_kept HV12.out (heap_alloc_old _ _ _ (row_lt HV12.out))) ⟨w12.heap.size, 0, none⟩ 1 1 [.bool true] rfl rfl ?f1 ?f2 ?f3 ?_)
                            case f1 => exact cell_one_new _ _ _
                            case f2 => exact one_of rfl
                            case f3 => omega
                            intro w13 hv13 hg13
                            have HKV13 : Hid (KV w13 gk gv (k + y) (kv ++ [(s2, true)])) := by
                              have hk13 := row_kept HK12.out ((hg13.block gk (by have := row_lt HK12.out; simp; omega) (by simp; omega)).trans (heap_alloc_old _ _ _ (row_lt HK12.out)))
                              refine ⟨?_, ?_⟩
                              · simpa using hk13
                              · simpa using hv13
                            have HB13 : Hid (Below w6.heap.size w6 w13) := (HB12.out.alloc HB12.out.size _).grown hg13 (by have := HB12.out.size; simp; omega) (fun k hk => by cases hk; have := HGK.out; omega)
                            clear hv13 hg13 HK12 HV12 HB12
                            go_wp2
                            go_roundw
                            case rel => exact ⟨l + 1, kv ++ [(s2, true)], by omega, by omega, by simp; omega, by simp, by simp, by go_num, HKV13, HF2, HB13⟩
                            case measure => simp [intOf]; omega
                        · have hlY : l = y := by omega
                          have hlz : ¬ (l : Int) < (y : Int) := by omega
                          have HFF : Hid (Fin kv (fk s0 sz wt (f0 nm vl k) y)) := HF.out.congr (fun s => by rw [hlY]; exact HFK.out s)
                          have HSZ : Hid (∀ i (hi : i < kv.length), (kv[i]'hi).1.size ≤ 1048576) := fun i hi => dom_gB wt g l 1048576 (fun j hj => HW.out j (by omega)) _ _ (HF.out.at i hi)
                          clear HF HFK hlY
                          have HQ2 : Hid (MapIs w11 q (fk s0 sz wt (f0 nm vl k) y) (k + y)) := HQ.out.below HBR.out HQ.out.lt
                          have M2 : Hid (MapIs w11 none (f0 nm vl k) k) := M0.out.below HBR.out M0.out.lt
                          have hlen : ∀ ty, (Builtin.len_ #[30] ty #[.map q]).run Try.prog w11 = .ok (.int .i64 kv.length) w11 := fun ty => HQ2.out.len' HFF.out ty
                          have hkl : kv.length ≤ 8192 := by omega
                          go_wp2_with fail
                          go_loop [25] (fun v => ∃ e : Nat, e ≤ kv.length ∧ v = .int .i64 e) (fun v => kv.length - (intOf v).toNat)
                          case atStart => exact ⟨0, Nat.zero_le _, rfl⟩
                          case round =>
                            obtain ⟨e, he, rfl⟩ := hrel
                            by_cases hle : e < kv.length
                            · have hez : (e : Int) < (kv.length : Int) := by omega
                              have k1 := HKV.out.key e hle
                              have k2 := HKV.out.val e hle
                              have hlk := HQ2.out.look (HSZ.out e hle)
                              rw [HFF.out.at e hle] at hlk
                              generalize (kv[e]'hle).1 = s2 at k1 hlk
                              generalize (kv[e]'hle).2 = v2 at k2 hlk
                              have hlk2 : (Instr.lookup 30 (.map q) (.string s2) true).run Try.prog w11 = .ok (.tuple #[.bool v2, .bool true]) w11 := hlk
                              have hvb : (v2 != v2) = false := by simp
                              clear hlk
                              go_wp2
                              go_round
                              case rel => exact ⟨e + 1, by omega, by go_num⟩
                              case measure => simp [intOf]; omega
                            · have hez : ¬ (e : Int) < (kv.length : Int) := by omega
                              have HBZ : Hid (Below w.heap.size w w11) := HB0.out.trans (HBR.out.mono HB0.out.size)
                              have HE11 : Hid (EntIs w11 a k nm vl) := HE6.out.below HBR.out
                              clear HKV HQ2 HFF HSZ HQ HBR hlen
                              go_wp2_with fail
                              go_loopw [28, 29] (fun v28 v29 wr => ∃ (i : Nat) (kz : List (ByteArray × Bool)), i ≤ k ∧ kz.length ≤ i ∧ v28 = .int .i64 kz.length ∧ v29 = .int .i64 i ∧ Hid (Fin kz (g6 nm vl k i)) ∧ Hid (∃ r, wr = w11.drewN r)) (fun _ v29 _ => k - (intOf v29).toNat)
                              case atStart => exact ⟨0, [], Nat.zero_le _, Nat.le_refl _, rfl, rfl, fin_nil (g6_zero nm vl k), 0, rfl⟩
                              case round =>
                                obtain ⟨i, kz, hi, hkz, rfl, rfl, HF, HR⟩ := hrel
                                rename World => w14
                                obtain ⟨r, hr⟩ := HR.out
                                subst hr
                                by_cases hlt : i < k
                                · exact absurd hlt (by have := HN0.out; omega)
                                · have hiK : i = k := by omega
                                  have hiz : ¬ (i : Int) < (k : Int) := by omega
                                  have HFZ : Hid (Fin kz (f0 nm vl k)) := HF.out.congr (fun s => by rw [← g6_end, hiK])
                                  have hlen2 : ∀ ty, (Builtin.len_ #[30] ty #[.map none]).run Try.prog (w11.drewN r) = .ok (.int .i64 kz.length) (w11.drewN r) := fun ty => (show MapIs (w11.drewN r) none (f0 nm vl k) k from M2.out).len' HFZ.out ty
                                  have HBZ2 : Hid (Below w.heap.size w (w11.drewN r)) := below_drewN HBZ.out r
                                  clear HF
                                  go_wp2
                                  go_ret
                                  exact ⟨by simp, HBZ2⟩
end Go.Proofs.Qxb6617634a.Mp
