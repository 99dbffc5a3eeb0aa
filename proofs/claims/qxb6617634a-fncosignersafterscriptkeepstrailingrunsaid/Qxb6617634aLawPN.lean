import Derived.Test.Qxb6617634aPre
namespace Go.Proofs.Qxb6617634a.Mp
open Go.RowKit Go.Maps Go.Shelf

set_option maxHeartbeats 8000000 in
set_option maxRecDepth 100000 in
theorem lawPN (s0 : Int) (a b : Option Addr) (n m c d : Nat) (nm : Nat → ByteArray) (vl : Nat → Bool) (sz : Nat → Int) (wt : Nat → ByteArray) (w : World) (hE : EntIs w a n nm vl) (hS : StpIs w b m sz wt) (hn : n ≤ 4096) (hm : m ≤ 4096) (hn0 : 0 < n) (hm0 : m = 0) :
    Calls Try.prog 3 #[.int .u64 s0, .slice a n c, .slice b m d] w fun e w' => e = .returned (.bool true) ∧ Below w.heap.size w w' := by
  have hmm := run_makeMap_hint
  have HE : Hid (EntIs w a n nm vl) := hE
  have HS : Hid (StpIs w b m sz wt) := hS
  obtain ⟨i9, hi9, hy9, hs9, hb9⟩ := info_parts info9
  obtain ⟨i4, hi4, hy4, hs4, hb4⟩ := info_parts info4
  have hB4 := bytes4 s0 a b n m c d nm vl sz wt w hE hS
  clear hE hS
  have n1 : ¬ (4096 : Int) < (n : Int) := by omega
  have m1 : ¬ (4096 : Int) < (m : Int) := by omega
  have HM0 : Hid (m = 0) := hm0
  clear hm0
  go_enter Try.func3, Try.ntmps3
  go_wp2_with fail
  refine hB4.mono ?_
  rintro e w' ⟨hb, hw⟩
  subst w'
  clear hB4
  rcases hb with rfl | rfl
  case inr =>
    go_wp2
    go_ret
    exact ⟨rfl, Below.refl _ _⟩
  case inl =>
    go_wp2_with fail
    go_loop [7, 8] (fun vt vi => ∃ t k : Nat, t ≤ 1048576 ∧ k ≤ n ∧ vt = .int .i64 t ∧ vi = .int .i64 k ∧ Hid (∀ j, j < k → (nm j).size ≤ 1048576)) (fun _ vi => n - (intOf vi).toNat)
    case atStart => exact ⟨0, 0, by omega, Nat.zero_le _, rfl, rfl, fun j hj => absurd hj (Nat.not_lt_zero _)⟩
    case round =>
      obtain ⟨t, k, ht, hk, rfl, rfl, HK⟩ := hrel
      by_cases hlt : k < n
      · obtain ⟨blk, off, rfl, c0, c1⟩ := HE.out k hlt
        have hkz : (k : Int) < (n : Int) := by omega
        by_cases h2 : 1048576 < (nm k).size
        · generalize nm k = s at c0 h2
          have g2 : (1048576 : Int) < (s.size : Int) := by omega
          go_wp2
          go_ret
          exact ⟨rfl, Below.refl _ _⟩
        · have HK2 : Hid (∀ j, j < k + 1 → (nm j).size ≤ 1048576) := fun j hj => by
            by_cases e : j = k
            · subst e; omega
            · exact HK.out j (by omega)
          clear HK
          generalize nm k = s at c0 h2
          have g2 : ¬ (1048576 : Int) < (s.size : Int) := by omega
          by_cases h3 : 1048576 < t + (24 + s.size)
          · have g3 : (1048576 : Int) < (t : Int) + (24 + (s.size : Int)) := by omega
            go_wp2
            go_ret
            exact ⟨rfl, Below.refl _ _⟩
          · have g3 : ¬ (1048576 : Int) < (t : Int) + (24 + (s.size : Int)) := by omega
            go_wp2
            go_round
            case rel => exact ⟨t + (24 + s.size), k + 1, by omega, by omega, by go_num, by go_num, HK2⟩
            case measure => simp [intOf]; omega
      · have hkn : k = n := by omega
        subst hkn
        have hkz : ¬ (k : Int) < (k : Int) := by omega
        have HN : Hid (∀ j, j < k → (nm j).size ≤ 1048576) := HK
        clear HK
        go_wp2_with fail
        go_loop [7, 9] (fun vt vi => ∃ t j : Nat, t ≤ 1048576 ∧ j ≤ m ∧ vt = .int .i64 t ∧ vi = .int .i64 j ∧ Hid (∀ i, i < j → (wt i).size ≤ 1048576)) (fun _ vi => m - (intOf vi).toNat)
        case atStart => exact ⟨t, 0, by omega, Nat.zero_le _, rfl, rfl, fun j hj => absurd hj (Nat.not_lt_zero _)⟩
        case round =>
          obtain ⟨t, j, ht, hj, rfl, rfl, HK⟩ := hrel
          by_cases hlt : j < m
          · exact absurd hlt (by have := HM0.out; omega)
          · have hjm : j = m := by omega
            subst hjm
            have HW : Hid (∀ i, i < j → (wt i).size ≤ 1048576) := HK
            clear HK
            have k0 : (0 : Int) < (k : Int) := by omega
            have HO : Hid (MapO (w.alloc (.map #[] 0)) w.heap.size (f0 nm vl 0) 0) := mapO_made w
            have HB : Hid (Below w.heap.size w (w.alloc (.map #[] 0))) := (Below.refl _ w).alloc (Nat.le_refl _) _
            go_wp2_with fail
            go_loopw [11] (fun v wr => ∃ x : Nat, x ≤ k ∧ v = .int .i64 x ∧ Hid (MapO wr w.heap.size (f0 nm vl x) x) ∧ Hid (Below w.heap.size w wr)) (fun v _ => k - (intOf v).toNat)
            case atStart => exact ⟨0, Nat.zero_le _, rfl, HO, HB⟩
            case round =>
              clear HO HB
              obtain ⟨x, hx, rfl, HO, HB⟩ := hrel
              rename World => w5
              by_cases hlt : x < k
              · obtain ⟨blk, off, rfl, c0, c1⟩ := (HE.out.below HB.out) x hlt
                have hkz : (x : Int) < (k : Int) := by omega
                obtain ⟨w6, hrun, hO6, hg6⟩ := (show MapO w5.drew w.heap.size (f0 nm vl x) x from HO.out).put (HN.out x hlt) (vl x) (by omega)
                have HO6 : Hid (MapO w6 w.heap.size (f0 nm vl (x + 1)) (x + 1)) := hO6
                have HB6 : Hid (Below w.heap.size w w6) := HB.out.drew.grown hg6 HB.out.size (fun i hi => by cases hi; exact Nat.le_refl _)
                generalize nm x = s at c0 hrun
                generalize vl x = v at c1 hrun
                clear hO6 hg6 HO HB
                go_wp2
                go_region
                go_wp2
                go_roundw
                case rel => exact ⟨x + 1, by omega, by go_num, HO6, HB6⟩
                case measure => simp [intOf]; omega
              · have hxk : x = k := by omega
                subst hxk
                have M0 : Hid (MapIs w5 (some w.heap.size) (f0 nm vl x) x) := HO.out.is
                have HB5 : Hid (Below w.heap.size w w5) := HB
                clear HO HB
                go_wp2_with fail
                go_loopw [12, 13, 14] (fun v12 v13 v14 wr => ∃ (y : Nat) (q : Option Nat), y ≤ j ∧ v12 = .int .u64 (zk s0 sz y) ∧ v13 = .map q ∧ v14 = .int .i64 y ∧ Hid (MapIs wr q (fk s0 sz wt (f0 nm vl x) y) (x + y)) ∧ Hid (MapIs wr (some w.heap.size) (f0 nm vl x) x) ∧ Hid (Below w.heap.size w wr)) (fun _ _ v14 _ => j - (intOf v14).toNat)
                case atStart => exact ⟨0, (some w.heap.size), Nat.zero_le _, rfl, rfl, rfl, M0, M0, HB5⟩
                case round =>
                  clear M0 HB5
                  obtain ⟨y, q, hy, rfl, rfl, rfl, HQ, M0, HB⟩ := hrel
                  rename World => w6
                  by_cases hlt : y < j
                  · exact absurd hlt (by have := HM0.out; omega)
                  · have hyj : y = j := by omega
                    subst hyj
                    have HS6 : Hid (StpIs w6 b y sz wt) := HS.out.below HB.out
                    have HE6 : Hid (EntIs w6 a x nm vl) := HE.out.below HB.out
                    have y0 : ¬ (0 : Int) < (y : Int) := by have := HM0.out; omega
                    obtain ⟨wa, hwa⟩ : ∃ wa, wa = s0 := ⟨_, rfl⟩
                    have hzy : zk s0 sz y = wa := by rw [HM0.out]; exact hwa.symm
                    rw [hzy]
                    have HZY : Hid (zk s0 sz y = wa) := hzy
                    have HWA : Hid (wa = s0) := hwa
                    clear hzy hwa
                    go_wp2_with fail
                    go_loop [16] (fun v => ∃ g : Nat, g ≤ y ∧ v = .int .i64 g ∧ Hid (∀ i, g ≤ i → i < y → sz i = wa)) (fun v => (intOf v).toNat)
                    case atStart => exact ⟨y, Nat.le_refl _, rfl, fun i h0 h1 => by omega⟩
                    case round =>
                      obtain ⟨g, hg, rfl, HG⟩ := hrel
                      by_cases hg0 : g = 0
                      · subst hg0
                        by_cases hws : wa = s0
                        · subst hws
                          have HFK : Hid (∀ s, fk wa sz wt (f0 nm vl x) y s = gA (f0 nm vl x) wt y s) := fk_keeps wa sz wt (f0 nm vl x) y (fun i hi => HG.out i (Nat.zero_le _) hi) y (Nat.le_refl _)
                          clear HG
                          go_wp2_with (at_make; refine wpList_make_own _ rfl _ _ 33 rfl 0 9 i9 (.string ⟨#[]⟩) 1 Try.underlying33 hi9 hy9 hs9 .i64 .i64 _ (x + y) rfl rfl (by first | rfl | omega) ?c1 ?c2 (Nat.zero_le _) ?_)
                          case c1 => first | omega | (rw [hb9]; omega)
                          case c2 => unfold maxLen; omega
                          intro w8 hown8 hg8
                          have HK8 : Hid (w8.ownsRow 0 9 1 (.slice (some ⟨w6.heap.size, 0, none⟩) 0 (x + y)) 0 []) := hown8
                          have HG8 : Hid (w6.grownBy w8 none) := hg8
                          clear hown8 hg8
                          go_wp2_with (at_make; refine wpList_make_own _ rfl _ _ 34 rfl 0 4 i4 (.bool false) 1 Try.underlying34 hi4 hy4 hs4 .i64 .i64 _ (x + y) rfl rfl (by first | rfl | omega) ?e1 ?e2 (Nat.zero_le _) ?_)
                          case e1 => first | omega | (rw [hb4]; omega)
                          case e2 => unfold maxLen; omega
                          intro w9 hown9 hg9
                          have gkne : w6.heap.size ≠ w8.heap.size := by have := row_lt HK8.out; omega
                          have HKV : Hid (KV w9 w6.heap.size w8.heap.size (x + y) []) := ⟨row_kept HK8.out (hg9.block _ (row_lt HK8.out) (by simp)), hown9⟩
                          have HB9 : Hid (Below w6.heap.size w6 w9) := ((Below.refl _ w6).grown HG8.out (Nat.le_refl _) (fun k hk => by cases hk)).grown hg9 HG8.out.size (fun k hk => by cases hk)
                          have hgv : w6.heap.size ≤ w8.heap.size := HG8.out.size
                          clear hown9 hg9 HK8 HG8
                          generalize w8.heap.size = gv at gkne HKV hgv ⊢
                          obtain ⟨gk, hgk⟩ : ∃ gk, gk = w6.heap.size := ⟨_, rfl⟩
                          rw [← hgk] at gkne HKV hgv ⊢
                          have HGK : Hid (gk = w6.heap.size) := hgk
                          clear hgk
                          have HB0 : Hid (Below w.heap.size w w6) := HB
                          clear HB
                          go_wp2_with fail
                          go_loopw [18, 19, 20] (fun v18 v19 v20 wr => ∃ (i : Nat) (kv : List (ByteArray × Bool)), i ≤ x ∧ kv.length ≤ i ∧ v18 = .slice (some ⟨gk, 0, none⟩) kv.length (x + y) ∧ v19 = .slice (some ⟨gv, 0, none⟩) kv.length (x + y) ∧ v20 = .int .i64 i ∧ Hid (KV wr gk gv (x + y) kv) ∧ Hid (Fin kv (g6 nm vl x i)) ∧ Hid (Below w6.heap.size w6 wr)) (fun _ _ v20 _ => x - (intOf v20).toNat)
                          case atStart => exact ⟨0, [], Nat.zero_le _, Nat.le_refl _, rfl, rfl, rfl, HKV, fin_nil (g6_zero nm vl x), HB9⟩
                          case round =>
                            clear HKV HB9
                            obtain ⟨i, kv, hi, hkv, rfl, rfl, rfl, HKV, HF, HBR⟩ := hrel
                            rename World => w10
                            by_cases hlt : i < x
                            · have hiz : (i : Int) < (x : Int) := by omega
                              go_wp2_with fail
                              refine (later6 _ x c nm vl i _ (HE6.out.below HBR.out) (by omega) hlt).mono ?_
                              rintro e w' ⟨rfl, r, hw⟩
                              subst w'
                              have hlat : ex (fun j => decide (nm j = nm i)) (i + 1) x = later nm x i := rfl
                              rw [hlat]
                              have HKV2 : Hid (KV (w10.drewN r) gk gv (x + y) kv) := HKV
                              have HBR2 : Hid (Below w6.heap.size w6 (w10.drewN r)) := below_drewN HBR.out r
                              clear HKV HBR hlat
                              generalize w10.drewN r = w11 at *
                              cases hl : later nm x i with
                              | true =>
                                have HF2 : Hid (Fin kv (g6 nm vl x (i + 1))) := HF.out.congr (g6_later nm vl x i hl)
                                clear HF hl
                                go_wp2
                                go_roundw
                                case rel => exact ⟨i + 1, kv, by omega, by omega, rfl, rfl, by go_num, HKV2, HF2, HBR2⟩
                                case measure => simp [intOf]; omega
                              | false =>
                                have HF2 : Hid (Fin (kv ++ [(nm i, vl i)]) (g6 nm vl x (i + 1))) := HF.out.snoc (g6_none nm vl x i hlt) (g6_last nm vl x i hlt hl)
                                obtain ⟨blk2, off2, ha2, e20, e21⟩ := HE6.out i hlt
                                subst ha2
                                have c20 : w11.cell? ⟨blk2, off2 + i * 2, none⟩ = some (.string (nm i)) := by rw [HBR2.out.cell (lt_of_cell e20)]; exact e20
                                generalize nm i = s2 at c20 HF2 e20
                                generalize vl i = v2 at e21 HF2
                                have E21 : Hid (w6.cell? ⟨blk2, off2 + i * 2 + 1, none⟩ = some (.bool v2)) := e21
                                clear e20 e21
                                have HKV := HKV2
                                have HBR := HBR2
                                clear HKV2 HBR2 HF hl
                                go_wp2_with (at_builtin; refine wpList_append_fits _ rfl _ _ 33 rfl 0 9 i9 1 Try.underlying33 hi9 hs9 gk kv.length (x + y) _ rfl (row_kept HKV.out.1 (heap_alloc_old _ _ _ (row_lt HKV.out.1))) ⟨w11.heap.size, 0, none⟩ 1 1 [.string s2] rfl rfl ?d1 ?d2 ?d3 ?_)
                                case d1 => exact cell_one_new _ _ _
                                case d2 => exact one_of rfl
                                case d3 => omega
                                intro w12 hk12 hg12
                                have HV12 : Hid (w12.ownsRow 0 4 1 (.slice (some ⟨gv, 0, none⟩) kv.length (x + y)) kv.length (kv.map fun p => Value.bool p.2)) := row_kept HKV.out.2 ((hg12.block gv (by have := row_lt HKV.out.2; simp; omega) (by simp; omega)).trans (heap_alloc_old _ _ _ (row_lt HKV.out.2)))
                                have HK12 : Hid (w12.ownsRow 0 9 1 (.slice (some ⟨gk, 0, none⟩) (kv.length + 1) (x + y)) (kv.length + 1) (kv.map (fun p => Value.string p.1) ++ [.string s2])) := hk12
                                have HB12 : Hid (Below w6.heap.size w6 w12) := (HBR.out.alloc HBR.out.size _).grown hg12 (by have := HBR.out.size; simp; omega) (fun k hk => by cases hk; rw [HGK.out]; exact Nat.le_refl _)
                                clear hk12 hg12 HKV HBR
                                have c22 : w12.cell? ⟨blk2, off2 + i * 2 + 1, none⟩ = some (.bool v2) := by rw [HB12.out.cell (lt_of_cell E21.out)]; exact E21.out
                                go_wp2_with (at_builtin; refine wpList_append_fits _ rfl _ _ 34 rfl 0 4 i4 1 Try.underlying34 hi4 hs4 gv kv.length (x + y) _ rfl (row_kept HV12.out (heap_alloc_old _ _ _ (row_lt HV12.out))) ⟨w12.heap.size, 0, none⟩ 1 1 [.bool v2] rfl rfl ?f1 ?f2 ?f3 ?_)
                                case f1 => exact cell_one_new _ _ _
                                case f2 => exact one_of rfl
                                case f3 => omega
                                intro w13 hv13 hg13
                                have HKV13 : Hid (KV w13 gk gv (x + y) (kv ++ [(s2, v2)])) := by
                                  have hk13 := row_kept HK12.out ((hg13.block gk (by have := row_lt HK12.out; simp; omega) (by simp; omega)).trans (heap_alloc_old _ _ _ (row_lt HK12.out)))
                                  refine ⟨?_, ?_⟩
                                  · simpa using hk13
                                  · simpa using hv13
                                have HB13 : Hid (Below w6.heap.size w6 w13) := (HB12.out.alloc HB12.out.size _).grown hg13 (by have := HB12.out.size; simp; omega) (fun k hk => by cases hk; have := HGK.out; omega)
                                clear hv13 hg13 HK12 HV12 HB12
                                go_wp2
                                go_roundw
                                case rel => exact ⟨i + 1, kv ++ [(s2, v2)], by omega, by simp; omega, by simp, by simp, by go_num, HKV13, HF2, HB13⟩
                                case measure => simp [intOf]; omega
                            · have hiK : i = x := by omega
                              have HF7 : Hid (Fin kv (gA (f0 nm vl x) wt 0)) := HF.out.congr (fun s => by rw [gA_zero, ← g6_end, hiK])
                              have hiz : ¬ (i : Int) < (x : Int) := by omega
                              have hkv7 : kv.length ≤ x + 0 := by omega
                              clear HF
                              go_wp2_with fail
                              go_loopw [18, 19, 21] (fun v18 v19 v20 wr => ∃ (l : Nat) (kv : List (ByteArray × Bool)), l ≤ y ∧ kv.length ≤ x + l ∧ v18 = .slice (some ⟨gk, 0, none⟩) kv.length (x + y) ∧ v19 = .slice (some ⟨gv, 0, none⟩) kv.length (x + y) ∧ v20 = .int .i64 l ∧ Hid (KV wr gk gv (x + y) kv) ∧ Hid (Fin kv (gA (f0 nm vl x) wt l)) ∧ Hid (Below w6.heap.size w6 wr)) (fun _ _ v20 _ => y - (intOf v20).toNat)
                              case atStart => exact ⟨0, kv, Nat.zero_le _, hkv7, rfl, rfl, rfl, HKV, HF7, HBR⟩
                              case round =>
                                clear HKV HF7 HBR hkv hkv7
                                obtain ⟨l, kv, hl, hkv, rfl, rfl, rfl, HKV, HF, HBR⟩ := hrel
                                rename World => w11
                                by_cases hlt : l < y
                                · exact absurd hlt (by have := HM0.out; omega)
                                · have hlY : l = y := by omega
                                  have hlz : ¬ (l : Int) < (y : Int) := by omega
                                  have HFF : Hid (Fin kv (fk wa sz wt (f0 nm vl x) y)) := HF.out.congr (fun s => by rw [hlY]; exact HFK.out s)
                                  have HSZ : Hid (∀ i (hi : i < kv.length), (kv[i]'hi).1.size ≤ 1048576) := fun i hi => dom_gA nm vl wt x l 1048576 (fun j hj => HN.out j hj) (fun j hj => HW.out j (by omega)) _ _ (HF.out.at i hi)
                                  clear HF HFK hlY
                                  have HQ2 : Hid (MapIs w11 q (fk wa sz wt (f0 nm vl x) y) (x + y)) := HQ.out.below HBR.out HQ.out.lt
                                  have M2 : Hid (MapIs w11 (some w.heap.size) (f0 nm vl x) x) := M0.out.below HBR.out M0.out.lt
                                  have hlen : ∀ ty, (Builtin.len_ #[30] ty #[.map q]).run Try.prog w11 = .ok (.int .i64 kv.length) w11 := fun ty => HQ2.out.len' HFF.out ty
                                  have hkl : kv.length ≤ 8192 := by omega
                                  go_wp2_with fail
                                  go_loop [25] (fun v => ∃ e : Nat, e ≤ kv.length ∧ v = .int .i64 e) (fun v => kv.length - (intOf v).toNat)
                                  case atStart => exact ⟨0, Nat.zero_le _, rfl⟩
                                  case round =>
                                    obtain ⟨e, he, rfl⟩ := hrel
                                    by_cases hle : e < kv.length
                                    · have hez : (e : Int) < (kv.length : Int) := by omega
                                      have k1 := HKV.out.key e hle
                                      have k2 := HKV.out.val e hle
                                      have hlk := HQ2.out.look (HSZ.out e hle)
                                      rw [HFF.out.at e hle] at hlk
                                      generalize (kv[e]'hle).1 = s2 at k1 hlk
                                      generalize (kv[e]'hle).2 = v2 at k2 hlk
                                      have hlk2 : (Instr.lookup 30 (.map q) (.string s2) true).run Try.prog w11 = .ok (.tuple #[.bool v2, .bool true]) w11 := hlk
                                      have hvb : (v2 != v2) = false := by simp
                                      clear hlk
                                      go_wp2
                                      go_round
                                      case rel => exact ⟨e + 1, by omega, by go_num⟩
                                      case measure => simp [intOf]; omega
                                    · have hez : ¬ (e : Int) < (kv.length : Int) := by omega
                                      have HBZ : Hid (Below w.heap.size w w11) := HB0.out.trans (HBR.out.mono HB0.out.size)
                                      have HE11 : Hid (EntIs w11 a x nm vl) := HE6.out.below HBR.out
                                      clear HKV HQ2 HFF HSZ HQ HBR hlen
                                      go_wp2_with fail
                                      go_loopw [28, 29] (fun v28 v29 wr => ∃ (i : Nat) (kz : List (ByteArray × Bool)), i ≤ x ∧ kz.length ≤ i ∧ v28 = .int .i64 kz.length ∧ v29 = .int .i64 i ∧ Hid (Fin kz (g6 nm vl x i)) ∧ Hid (∃ r, wr = w11.drewN r)) (fun _ v29 _ => x - (intOf v29).toNat)
                                      case atStart => exact ⟨0, [], Nat.zero_le _, Nat.le_refl _, rfl, rfl, fin_nil (g6_zero nm vl x), 0, rfl⟩
                                      case round =>
                                        obtain ⟨i, kz, hi, hkz, rfl, rfl, HF, HR⟩ := hrel
                                        rename World => w14
                                        obtain ⟨r, hr⟩ := HR.out
                                        subst hr
                                        by_cases hlt : i < x
                                        · have hiz : (i : Int) < (x : Int) := by omega
                                          go_wp2_with fail
                                          refine (later6 _ x c nm vl i _ (show EntIs (w11.drewN r) a x nm vl from HE11.out) (by omega) hlt).mono ?_
                                          rintro e w' ⟨rfl, r2, hw⟩
                                          subst w'
                                          have hlat : ex (fun j => decide (nm j = nm i)) (i + 1) x = later nm x i := rfl
                                          rw [hlat]
                                          cases hl : later nm x i with
                                          | true =>
                                            have HF2 : Hid (Fin kz (g6 nm vl x (i + 1))) := HF.out.congr (g6_later nm vl x i hl)
                                            clear HF hl hlat
                                            go_wp2
                                            go_roundw
                                            case rel => exact ⟨i + 1, kz, by omega, by omega, rfl, by go_num, HF2, _, by first | rfl | exact World.drewN_drewN ..⟩
                                            case measure => simp [intOf]; omega
                                          | false =>
                                            have HF2 : Hid (Fin (kz ++ [(nm i, vl i)]) (g6 nm vl x (i + 1))) := HF.out.snoc (g6_none nm vl x i hlt) (g6_last nm vl x i hlt hl)
                                            obtain ⟨blk2, off2, ha2, c20, c21⟩ := HE11.out i hlt
                                            subst ha2
                                            have hlk : ∀ t, (Instr.lookup 30 (.map (some w.heap.size)) (.string (nm i)) true).run Try.prog (w11.drewN t) = .ok (.tuple #[.bool (vl i), .bool true]) (w11.drewN t) := fun t => by
                                              have h := (show MapIs (w11.drewN t) (some w.heap.size) (f0 nm vl x) x from M2.out).look (HN.out i hlt)
                                              rw [f0_last nm vl x i hlt hl] at h
                                              exact h
                                            generalize nm i = s2 at c20 hlk HF2
                                            generalize vl i = v2 at c21 hlk HF2
                                            have hdd : (w11.drewN r).drewN r2 = w11.drewN (r + r2) := World.drewN_drewN ..
                                            rw [hdd]
                                            have hlk2 := hlk (r + r2)
                                            have hvb : (v2 != v2) = false := by simp
                                            clear HF hl hlat hlk hdd
                                            go_wp2
                                            go_roundw
                                            case rel => exact ⟨i + 1, kz ++ [(s2, v2)], by omega, by simp; omega, by simp, by go_num, HF2, _, rfl⟩
                                            case measure => simp [intOf]; omega
                                        · have hiK : i = x := by omega
                                          have hiz : ¬ (i : Int) < (x : Int) := by omega
                                          have HFZ : Hid (Fin kz (f0 nm vl x)) := HF.out.congr (fun s => by rw [← g6_end, hiK])
                                          have hlen2 : ∀ ty, (Builtin.len_ #[30] ty #[.map (some w.heap.size)]).run Try.prog (w11.drewN r) = .ok (.int .i64 kz.length) (w11.drewN r) := fun ty => (show MapIs (w11.drewN r) (some w.heap.size) (f0 nm vl x) x from M2.out).len' HFZ.out ty
                                          have HBZ2 : Hid (Below w.heap.size w (w11.drewN r)) := below_drewN HBZ.out r
                                          clear HF
                                          go_wp2
                                          go_ret
                                          exact ⟨by simp, HBZ2⟩
                        · exact absurd HWA.out hws
                      · exact absurd hg (by have := HM0.out; omega)
end Go.Proofs.Qxb6617634a.Mp
