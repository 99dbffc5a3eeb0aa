import Derived.Test.Qxb6617634aPre
namespace Go.Proofs.Qxb6617634a.Mp
open Go.RowKit Go.Maps Go.Shelf

set_option maxHeartbeats 8000000 in
set_option maxRecDepth 100000 in
theorem lawNN (s0 : Int) (a b : Option Addr) (n m c d : Nat) (nm : Nat → ByteArray) (vl : Nat → Bool) (sz : Nat → Int) (wt : Nat → ByteArray) (w : World) (hE : EntIs w a n nm vl) (hS : StpIs w b m sz wt) (hn : n ≤ 4096) (hm : m ≤ 4096) (hn0 : n = 0) (hm0 : m = 0) :
    Calls Try.prog 3 #[.int .u64 s0, .slice a n c, .slice b m d] w fun e w' => e = .returned (.bool true) ∧ Below w.heap.size w w' := by
  have hmm := run_makeMap_hint
  have HE : Hid (EntIs w a n nm vl) := hE
  have HS : Hid (StpIs w b m sz wt) := hS
  obtain ⟨i9, hi9, hy9, hs9, hb9⟩ := info_parts info9
  obtain ⟨i4, hi4, hy4, hs4, hb4⟩ := info_parts info4
  have hB4 := bytes4 s0 a b n m c d nm vl sz wt w hE hS
  clear hE hS
  have n1 : ¬ (4096 : Int) < (n : Int) := by omega
  have m1 : ¬ (4096 : Int) < (m : Int) := by omega
  have HN0 : Hid (n = 0) := hn0
  clear hn0
  have HM0 : Hid (m = 0) := hm0
  clear hm0
  go_enter Try.func3, Try.ntmps3
  go_wp2_with fail
  refine hB4.mono ?_
  rintro e w' ⟨hb, hw⟩
  subst w'
  clear hB4
  rcases hb with rfl | rfl
  case inr =>
    go_wp2
    go_ret
    exact ⟨rfl, Below.refl _ _⟩
  case inl =>
    go_wp2_with fail
    go_loop [7, 8] (fun vt vi => ∃ t k : Nat, t ≤ 1048576 ∧ k ≤ n ∧ vt = .int .i64 t ∧ vi = .int .i64 k ∧ Hid (∀ j, j < k → (nm j).size ≤ 1048576)) (fun _ vi => n - (intOf vi).toNat)
    case atStart => exact ⟨0, 0, by omega, Nat.zero_le _, rfl, rfl, fun j hj => absurd hj (Nat.not_lt_zero _)⟩
    case round =>
      obtain ⟨t, k, ht, hk, rfl, rfl, HK⟩ := hrel
      by_cases hlt : k < n
      · exact absurd hlt (by have := HN0.out; omega)
      · have hkn : k = n := by omega
        subst hkn
        have hkz : ¬ (k : Int) < (k : Int) := by omega
        have HN : Hid (∀ j, j < k → (nm j).size ≤ 1048576) := HK
        clear HK
        go_wp2_with fail
        go_loop [7, 9] (fun vt vi => ∃ t j : Nat, t ≤ 1048576 ∧ j ≤ m ∧ vt = .int .i64 t ∧ vi = .int .i64 j ∧ Hid (∀ i, i < j → (wt i).size ≤ 1048576)) (fun _ vi => m - (intOf vi).toNat)
        case atStart => exact ⟨t, 0, by omega, Nat.zero_le _, rfl, rfl, fun j hj => absurd hj (Nat.not_lt_zero _)⟩
        case round =>
          obtain ⟨t, j, ht, hj, rfl, rfl, HK⟩ := hrel
          by_cases hlt : j < m
          · exact absurd hlt (by have := HM0.out; omega)
          · have hjm : j = m := by omega
            subst hjm
            have HW : Hid (∀ i, i < j → (wt i).size ≤ 1048576) := HK
            clear HK
            have k0 : ¬ (0 : Int) < (k : Int) := by have := HN0.out; omega
            have M0 : Hid (MapIs w none (f0 nm vl k) k) := by
              rw [HN0.out]
              exact ⟨.nil, .inl ⟨rfl, rfl⟩, rf_nil, Nat.le_refl _⟩
            have HB5 : Hid (Below w.heap.size w w) := Below.refl _ _
            go_wp2_with fail
            go_loopw [12, 13, 14] (fun v12 v13 v14 wr => ∃ (y : Nat) (q : Option Nat), y ≤ j ∧ v12 = .int .u64 (zk s0 sz y) ∧ v13 = .map q ∧ v14 = .int .i64 y ∧ Hid (MapIs wr q (fk s0 sz wt (f0 nm vl k) y) (k + y)) ∧ Hid (MapIs wr none (f0 nm vl k) k) ∧ Hid (Below w.heap.size w wr)) (fun _ _ v14 _ => j - (intOf v14).toNat)
            case atStart => exact ⟨0, none, Nat.zero_le _, rfl, rfl, rfl, M0, M0, HB5⟩
            case round =>
              clear M0 HB5
              obtain ⟨y, q, hy, rfl, rfl, rfl, HQ, M0, HB⟩ := hrel
              rename World => w6
              by_cases hlt : y < j
              · exact absurd hlt (by have := HM0.out; omega)
              · have hyj : y = j := by omega
                subst hyj
                have HS6 : Hid (StpIs w6 b y sz wt) := HS.out.below HB.out
                have HE6 : Hid (EntIs w6 a k nm vl) := HE.out.below HB.out
                have y0 : ¬ (0 : Int) < (y : Int) := by have := HM0.out; omega
                obtain ⟨wa, hwa⟩ : ∃ wa, wa = s0 := ⟨_, rfl⟩
                have hzy : zk s0 sz y = wa := by rw [HM0.out]; exact hwa.symm
                rw [hzy]
                have HZY : Hid (zk s0 sz y = wa) := hzy
                have HWA : Hid (wa = s0) := hwa
                clear hzy hwa
                go_wp2_with fail
                go_loop [16] (fun v => ∃ g : Nat, g ≤ y ∧ v = .int .i64 g ∧ Hid (∀ i, g ≤ i → i < y → sz i = wa)) (fun v => (intOf v).toNat)
                case atStart => exact ⟨y, Nat.le_refl _, rfl, fun i h0 h1 => by omega⟩
                case round =>
                  obtain ⟨g, hg, rfl, HG⟩ := hrel
                  by_cases hg0 : g = 0
                  · subst hg0
                    by_cases hws : wa = s0
                    · subst hws
                      have HFK : Hid (∀ s, fk wa sz wt (f0 nm vl k) y s = gA (f0 nm vl k) wt y s) := fk_keeps wa sz wt (f0 nm vl k) y (fun i hi => HG.out i (Nat.zero_le _) hi) y (Nat.le_refl _)
                      clear HG
                      go_wp2_with (at_make; refine wpList_make_own _ rfl _ _ 33 rfl 0 9 i9 (.string ⟨#[]⟩) 1 Try.underlying33 hi9 hy9 hs9 .i64 .i64 _ (k + y) rfl rfl (by first | rfl | omega) ?c1 ?c2 (Nat.zero_le _) ?_)
                      case c1 => first | omega | (rw [hb9]; omega)
                      case c2 => unfold maxLen; omega
                      intro w8 hown8 hg8
                      have HK8 : Hid (w8.ownsRow 0 9 1 (.slice (some ⟨w6.heap.size, 0, none⟩) 0 (k + y)) 0 []) := hown8
                      have HG8 : Hid (w6.grownBy w8 none) := hg8
                      clear hown8 hg8
                      go_wp2_with (at_make; refine wpList_make_own _ rfl _ _ 34 rfl 0 4 i4 (.bool false) 1 Try.underlying34 hi4 hy4 hs4 .i64 .i64 _ (k + y) rfl rfl (by first | rfl | omega) ?e1 ?e2 (Nat.zero_le _) ?_)
                      case e1 => first | omega | (rw [hb4]; omega)
                      case e2 => unfold maxLen; omega
                      intro w9 hown9 hg9
                      have gkne : w6.heap.size ≠ w8.heap.size := by have := row_lt HK8.out; omega
                      have HKV : Hid (KV w9 w6.heap.size w8.heap.size (k + y) []) := ⟨row_kept HK8.out (hg9.block _ (row_lt HK8.out) (by simp)), hown9⟩
                      have HB9 : Hid (Below w6.heap.size w6 w9) := ((Below.refl _ w6).grown HG8.out (Nat.le_refl _) (fun k hk => by cases hk)).grown hg9 HG8.out.size (fun k hk => by cases hk)
                      have hgv : w6.heap.size ≤ w8.heap.size := HG8.out.size
                      clear hown9 hg9 HK8 HG8
                      generalize w8.heap.size = gv at gkne HKV hgv ⊢
                      obtain ⟨gk, hgk⟩ : ∃ gk, gk = w6.heap.size := ⟨_, rfl⟩
                      rw [← hgk] at gkne HKV hgv ⊢
                      have HGK : Hid (gk = w6.heap.size) := hgk
                      clear hgk
                      have HB0 : Hid (Below w.heap.size w w6) := HB
                      clear HB
                      go_wp2_with fail
                      go_loopw [18, 19, 20] (fun v18 v19 v20 wr => ∃ (i : Nat) (kv : List (ByteArray × Bool)), i ≤ k ∧ kv.length ≤ i ∧ v18 = .slice (some ⟨gk, 0, none⟩) kv.length (k + y) ∧ v19 = .slice (some ⟨gv, 0, none⟩) kv.length (k + y) ∧ v20 = .int .i64 i ∧ Hid (KV wr gk gv (k + y) kv) ∧ Hid (Fin kv (g6 nm vl k i)) ∧ Hid (Below w6.heap.size w6 wr)) (fun _ _ v20 _ => k - (intOf v20).toNat)
                      case atStart => exact ⟨0, [], Nat.zero_le _, Nat.le_refl _, rfl, rfl, rfl, HKV, fin_nil (g6_zero nm vl k), HB9⟩
                      case round =>
                        clear HKV HB9
                        obtain ⟨i, kv, hi, hkv, rfl, rfl, rfl, HKV, HF, HBR⟩ := hrel
                        rename World => w10
                        by_cases hlt : i < k
                        · exact absurd hlt (by have := HN0.out; omega)
                        · have hiK : i = k := by omega
                          have HF7 : Hid (Fin kv (gA (f0 nm vl k) wt 0)) := HF.out.congr (fun s => by rw [gA_zero, ← g6_end, hiK])
                          have hiz : ¬ (i : Int) < (k : Int) := by omega
                          have hkv7 : kv.length ≤ k + 0 := by omega
                          clear HF
                          go_wp2_with fail
                          go_loopw [18, 19, 21] (fun v18 v19 v20 wr => ∃ (l : Nat) (kv : List (ByteArray × Bool)), l ≤ y ∧ kv.length ≤ k + l ∧ v18 = .slice (some ⟨gk, 0, none⟩) kv.length (k + y) ∧ v19 = .slice (some ⟨gv, 0, none⟩) kv.length (k + y) ∧ v20 = .int .i64 l ∧ Hid (KV wr gk gv (k + y) kv) ∧ Hid (Fin kv (gA (f0 nm vl k) wt l)) ∧ Hid (Below w6.heap.size w6 wr)) (fun _ _ v20 _ => y - (intOf v20).toNat)
                          case atStart => exact ⟨0, kv, Nat.zero_le _, hkv7, rfl, rfl, rfl, HKV, HF7, HBR⟩
                          case round =>
                            clear HKV HF7 HBR hkv hkv7
                            obtain ⟨l, kv, hl, hkv, rfl, rfl, rfl, HKV, HF, HBR⟩ := hrel
                            rename World => w11
                            by_cases hlt : l < y
                            · exact absurd hlt (by have := HM0.out; omega)
                            · have hlY : l = y := by omega
                              have hlz : ¬ (l : Int) < (y : Int) := by omega
                              have HFF : Hid (Fin kv (fk wa sz wt (f0 nm vl k) y)) := HF.out.congr (fun s => by rw [hlY]; exact HFK.out s)
                              have HSZ : Hid (∀ i (hi : i < kv.length), (kv[i]'hi).1.size ≤ 1048576) := fun i hi => dom_gA nm vl wt k l 1048576 (fun j hj => HN.out j hj) (fun j hj => HW.out j (by omega)) _ _ (HF.out.at i hi)
                              clear HF HFK hlY
                              have HQ2 : Hid (MapIs w11 q (fk wa sz wt (f0 nm vl k) y) (k + y)) := HQ.out.below HBR.out HQ.out.lt
                              have M2 : Hid (MapIs w11 none (f0 nm vl k) k) := M0.out.below HBR.out M0.out.lt
                              have hlen : ∀ ty, (Builtin.len_ #[30] ty #[.map q]).run Try.prog w11 = .ok (.int .i64 kv.length) w11 := fun ty => HQ2.out.len' HFF.out ty
                              have hkl : kv.length ≤ 8192 := by omega
                              go_wp2_with fail
                              go_loop [25] (fun v => ∃ e : Nat, e ≤ kv.length ∧ v = .int .i64 e) (fun v => kv.length - (intOf v).toNat)
                              case atStart => exact ⟨0, Nat.zero_le _, rfl⟩
                              case round =>
                                obtain ⟨e, he, rfl⟩ := hrel
                                by_cases hle : e < kv.length
                                · have hez : (e : Int) < (kv.length : Int) := by omega
                                  have k1 := HKV.out.key e hle
                                  have k2 := HKV.out.val e hle
                                  have hlk := HQ2.out.look (HSZ.out e hle)
                                  rw [HFF.out.at e hle] at hlk
                                  generalize (kv[e]'hle).1 = s2 at k1 hlk
                                  generalize (kv[e]'hle).2 = v2 at k2 hlk
                                  have hlk2 : (Instr.lookup 30 (.map q) (.string s2) true).run Try.prog w11 = .ok (.tuple #[.bool v2, .bool true]) w11 := hlk
                                  have hvb : (v2 != v2) = false := by simp
                                  clear hlk
                                  go_wp2
                                  go_round
                                  case rel => exact ⟨e + 1, by omega, by go_num⟩
                                  case measure => simp [intOf]; omega
                                · have hez : ¬ (e : Int) < (kv.length : Int) := by omega
                                  have HBZ : Hid (Below w.heap.size w w11) := HB0.out.trans (HBR.out.mono HB0.out.size)
                                  have HE11 : Hid (EntIs w11 a k nm vl) := HE6.out.below HBR.out
                                  clear HKV HQ2 HFF HSZ HQ HBR hlen
                                  go_wp2_with fail
                                  go_loopw [28, 29] (fun v28 v29 wr => ∃ (i : Nat) (kz : List (ByteArray × Bool)), i ≤ k ∧ kz.length ≤ i ∧ v28 = .int .i64 kz.length ∧ v29 = .int .i64 i ∧ Hid (Fin kz (g6 nm vl k i)) ∧ Hid (∃ r, wr = w11.drewN r)) (fun _ v29 _ => k - (intOf v29).toNat)
                                  case atStart => exact ⟨0, [], Nat.zero_le _, Nat.le_refl _, rfl, rfl, fin_nil (g6_zero nm vl k), 0, rfl⟩
                                  case round =>
                                    obtain ⟨i, kz, hi, hkz, rfl, rfl, HF, HR⟩ := hrel
                                    rename World => w14
                                    obtain ⟨r, hr⟩ := HR.out
                                    subst hr
                                    by_cases hlt : i < k
                                    · exact absurd hlt (by have := HN0.out; omega)
                                    · have hiK : i = k := by omega
                                      have hiz : ¬ (i : Int) < (k : Int) := by omega
                                      have HFZ : Hid (Fin kz (f0 nm vl k)) := HF.out.congr (fun s => by rw [← g6_end, hiK])
                                      have hlen2 : ∀ ty, (Builtin.len_ #[30] ty #[.map none]).run Try.prog (w11.drewN r) = .ok (.int .i64 kz.length) (w11.drewN r) := fun ty => (show MapIs (w11.drewN r) none (f0 nm vl k) k from M2.out).len' HFZ.out ty
                                      have HBZ2 : Hid (Below w.heap.size w (w11.drewN r)) := below_drewN HBZ.out r
                                      clear HF
                                      go_wp2
                                      go_ret
                                      exact ⟨by simp, HBZ2⟩
                    · exact absurd HWA.out hws
                  · exact absurd hg (by have := HM0.out; omega)
end Go.Proofs.Qxb6617634a.Mp
