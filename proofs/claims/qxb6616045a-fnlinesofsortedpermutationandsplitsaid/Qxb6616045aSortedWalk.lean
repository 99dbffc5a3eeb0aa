import Derived.Test.Qxb6616045aSl
namespace Go.Proofs.Qxb6616045a.Ln
open Go.RowKit

set_option maxRecDepth 100000 in
set_option maxHeartbeats 4000000 in
theorem sortedWalk (a : Option Addr) (cap : Nat) (kk : Int) (rs : List Row) (w : World) (hm : rs.length ≤ 9223372036854775807) (hl : ∀ j, j < rs.length → (rs.getD j nilRow).zs.length ≤ 9223372036854775807) (hp : LsIs w a rs)
    (hnc : rs.length ≤ cap) (hcm : cap ≤ 9223372036854775807) (ha : a = none → cap = 0) :
    Calls Try.prog 3 #[.slice a rs.length cap, .int .i64 kk] w fun e w' => e = .returned (.bool true) ∧ Below w.heap.size w w' := by
  have HP : Hid (LsIs w a rs) := hp
  have HL : Hid (∀ j, j < rs.length → (rs.getD j nilRow).zs.length ≤ 9223372036854775807) := hl
  have HAN : Hid (a = none → cap = 0) := ha
  clear hp hl ha
  by_cases hbig : rs.length ≤ 4096
  case neg =>
    go_enter Try.func3, Try.ntmps3
    go_wp2_with fail
    refine (bytes5 a cap kk rs w hm HL.out HP.out).mono ?_
    rintro e w' ⟨b, rfl, hw', _⟩
    subst w'
    cases b with
    | false =>
      go_wp2
      go_ret
      exact ⟨rfl, Below.refl _ _⟩
    | true =>
      go_wp2
      go_ret
      exact ⟨rfl, Below.refl _ _⟩
  have hd : decide ((4096 : Int) < (rs.length : Int)) = false := by simp; omega
  go_enter Try.func3, Try.ntmps3
  go_wp2_with fail
  refine (bytes5 a cap kk rs w hm HL.out HP.out).mono ?_
  rintro e w' ⟨b, rfl, hw', hb⟩
  subst w'
  cases b with
  | false =>
    clear hb
    go_wp2
    go_ret
    exact ⟨rfl, Below.refl _ _⟩
  | true =>
  have HS : Hid (∀ j, j < rs.length → (rs.getD j nilRow).zs.length ≤ 1048576) := hb rfl
  clear hb HL
  go_wp2
  go_loop [5, 21] (fun t i => ∃ k : Nat, k ≤ rs.length ∧ i = .int .i64 k ∧ t = .int .i64 ((flat (rs.take k)).length : Nat) ∧ (flat (rs.take k)).length ≤ 4096) (fun _ i => rs.length - (intOf i).toNat)
  case atStart => exact ⟨0, Nat.zero_le _, rfl, rfl, by simp [flat]⟩
  case round =>
    obtain ⟨k, hk, rfl, rfl, ht⟩ := hrel
    by_cases hlt : k < rs.length
    · obtain ⟨blk, off, rfl, c0, _⟩ := HP.out k hlt
      have hs := HS.out k hlt
      have hft : (flat (rs.take (k + 1))).length = (flat (rs.take k)).length + (rs.getD k nilRow).zs.length := by rw [flat_take rs k hlt, List.length_append]
      have HFT : Hid ((flat (rs.take (k + 1))).length = (flat (rs.take k)).length + (rs.getD k nilRow).zs.length) := hft
      clear hft
      generalize rs.getD k nilRow = r at *
      unfold Row.v at c0
      have hkz : (k : Int) < (rs.length : Int) := by omega
      by_cases hov : 4096 < (flat (rs.take k)).length + r.zs.length
      · go_wp2
        go_ret
        exact ⟨rfl, Below.refl _ _⟩
      · go_wp2
        go_round
        case rel => exact ⟨k + 1, by omega, by go_num, by rw [HFT.out]; go_num, by rw [HFT.out]; omega⟩
        case measure => simp [intOf]; omega
    · have hkn : k = rs.length := by omega
      rw [hkn, List.take_length] at ht ⊢
      clear hkn hlt hk
      by_cases hp0 : kk < 0
      · go_wp2
        go_ret
        exact ⟨rfl, Below.refl _ _⟩
      by_cases hpn : (rs.length : Int) < kk
      · go_wp2
        go_ret
        exact ⟨rfl, Below.refl _ _⟩
      obtain ⟨pn, rfl⟩ := Int.eq_ofNat_of_zero_le (show 0 ≤ kk by omega)
      have hpl : pn ≤ rs.length := by omega
      have hd2 : decide ((pn : Int) < 0) = false := by simp
      have hd3 : decide ((rs.length : Int) < (pn : Int)) = false := by simp; omega
      clear hp0 hpn
      have hpc : (pn : Int) ≤ (cap : Int) := by omega
      have hpl' : (pn : Int) ≤ (rs.length : Int) := by omega
      go_wp2_with fail
      refine (loans7 a cap rs w (by omega) HP.out).mono ?_
      rintro e w7 ⟨g1, rfl, hg1, hL1, hb7⟩
      go_wp2_with fail
      refine (repaid6 g1 rs w7 (by omega) (by omega) hL1 (fun j hj => by obtain ⟨_, _, _, _, h⟩ := HP.out j hj; exact h.below hb7)).mono ?_
      rintro e w8 ⟨v1, rfl, ho1, hb8⟩
      have hb8' : Below w.heap.size w w8 := hb7.trans (hb8.mono hb7.size)
      have HO1 : Hid (Owns w7.heap.size w8 v1 (srt (flat rs))) := ho1
      replace HP : Hid (LsIs w8 a rs) := HP.out.below hb8'
      clear ho1 hL1 hb7 hb8
      have hs8 := hb8'.size
      have htl : (rs.take pn).length = pn := by rw [List.length_take]; omega
      have hft : (flat (rs.take pn)).length + (flat (rs.drop pn)).length = (flat rs).length := by
        have : flat rs = flat (rs.take pn) ++ flat (rs.drop pn) := by unfold flat; rw [← List.flatMap_append, List.take_append_drop]
        rw [this, List.length_append]
      have HSM : Hid (srt (flat rs) = mrg (srt (flat (rs.take pn))) (srt (flat (rs.drop pn)))) := by
        refine srt_mrg _ _ _ ?_
        have : flat rs = flat (rs.take pn) ++ flat (rs.drop pn) := by unfold flat; rw [← List.flatMap_append, List.take_append_drop]
        rw [this]
      have HLT : Hid (LsIs w8 a (rs.take pn)) := HP.out.take pn
      generalize hrt : rs.take pn = rt at *
      clear hrt
      go_wp2_with fail
      have C2 := loans7 a cap rt w8 (by omega) HLT.out
      rw [htl] at C2
      refine C2.mono ?_
      clear C2
      rintro e w9 ⟨g2, rfl, hg2, hL2, hb9⟩
      go_wp2_with fail
      have C3 := repaid6 g2 rt w9 (by omega) (by omega) (by rw [htl]; exact hL2) (fun j hj => by obtain ⟨_, _, _, _, h⟩ := HLT.out j hj; exact h.below hb9)
      rw [htl] at C3
      refine C3.mono ?_
      clear C3
      rintro e w10 ⟨v2, rfl, ho2, hb10⟩
      have hb10' : Below w8.heap.size w8 w10 := hb9.trans (hb10.mono hb9.size)
      replace HO1 : Hid (Owns w7.heap.size w10 v1 (srt (flat rs))) := HO1.out.below hb10'
      have HO2 : Hid (Owns w9.heap.size w10 v2 (srt (flat rt))) := ho2
      replace HP : Hid (LsIs w10 a rs) := HP.out.below hb10'
      replace hb8' : Below w.heap.size w w10 := hb8'.trans (hb10'.mono hs8)
      clear ho2 hL2 hb9 hb10 hb10' hs8 HLT
      have hs10 := hb8'.size
      obtain ⟨a2, hA, HLD⟩ : ∃ a2, (if cap = pn then a else Option.map (fun x => x.add pn) a) = a2 ∧ Hid (LsIs w10 a2 (rs.drop pn)) := by
        refine ⟨_, rfl, ?_⟩
        by_cases hpe : pn = rs.length
        · rw [hpe, List.drop_length]; exact LsIs.empty _ _
        · obtain ⟨blk, off, h1, _⟩ := HP.out 0 (by omega)
          rw [if_neg (by omega), h1]
          have e : Option.map (fun x : Addr => x.add pn) (some ⟨blk, off, none⟩) = some ⟨blk, off + pn, none⟩ := by
            simp [Addr.add]
          rw [e]
          exact LsIs.drop (by rw [← h1]; exact HP.out) pn
      have hdl : (rs.drop pn).length = rs.length - pn := List.length_drop
      generalize hrd : rs.drop pn = rd at *
      clear hrd
      go_wp2_with fail
      have C4 := loans7 a2 (cap - pn) rd w10 (by omega) HLD.out
      rw [hdl] at C4
      refine C4.mono ?_
      clear C4 hA
      rintro e w11 ⟨g3, rfl, hg3, hL3, hb11⟩
      go_wp2_with fail
      have C5 := repaid6 g3 rd w11 (by omega) (by omega) (by rw [hdl]; exact hL3) (fun j hj => by obtain ⟨_, _, _, _, h⟩ := HLD.out j hj; exact h.below hb11)
      rw [hdl] at C5
      refine C5.mono ?_
      clear C5
      rintro e w12 ⟨v3, rfl, ho3, hb12⟩
      have hb12' : Below w10.heap.size w10 w12 := hb11.trans (hb12.mono hb11.size)
      replace HO1 : Hid (Owns w7.heap.size w12 v1 (srt (flat rs))) := HO1.out.below hb12'
      replace HO2 : Hid (Owns w9.heap.size w12 v2 (srt (flat rt))) := HO2.out.below hb12'
      have HO3 : Hid (Owns w11.heap.size w12 v3 (srt (flat rd))) := ho3
      replace HP : Hid (LsIs w12 a rs) := HP.out.below hb12'
      replace hb8' : Below w.heap.size w w12 := hb8'.trans (hb12'.mono hs10)
      clear ho3 hL3 hb11 hb12 hb12' hs10 HLD
      obtain ⟨gA, cA, hv1⟩ := HO1.out.2
      obtain ⟨gB, cB, hv2⟩ := HO2.out.2
      obtain ⟨gC, cC, hv3⟩ := HO3.out.2
      rw [srt_length] at hv1 hv2 hv3
      rw [hv1] at HO1 ⊢
      rw [hv2] at HO2 ⊢
      rw [hv3] at HO3 ⊢
      clear hv1 hv2 hv3
      have hne1 : (((flat rs).length : Int) != ((flat rs).length : Int)) = false := by simp
      have hne2 : (((flat rt).length : Int) + ((flat rd).length : Int) != ((flat rs).length : Int)) = false := by rw [← hft]; simp
      have HST : Hid (∀ i, i + 1 < (flat rs).length → (srt (flat rs)).getD i 0 ≤ (srt (flat rs)).getD (i + 1) 0) := fun i hi => by
        have hl := srt_length (flat rs)
        have := (List.pairwise_iff_getElem.1 (srt_sorted (flat rs))) i (i + 1) (by omega) (by omega) (by omega)
        simp only [List.getD, List.getElem?_eq_getElem (show i < (srt (flat rs)).length by omega), List.getElem?_eq_getElem (show i + 1 < (srt (flat rs)).length by omega), Option.getD_some]
        exact this
      have HCT : Hid (∀ x, cnt x (srt (flat rs)) = cnt x (flat rs)) := fun x => cnt_perm x (srt_perm (flat rs))
      have HSL : Hid ((srt (flat rs)).length = (flat rs).length) := srt_length _
      have HC : Hid (∀ i, i < (flat rs).length → w12.cell? ⟨gA, i, none⟩ = some (.int .i64 ((srt (flat rs)).getD i 0))) := fun i hi => HO1.out.cell i (by rw [HSL.out]; exact hi)
      generalize hss : srt (flat rs) = ss at *
      have HSS : Hid (srt (flat rs) = ss) := hss
      have hlt1 : (flat rt).length ≤ 4096 := by omega
      have hlt2 : (flat rd).length ≤ 4096 := by omega
      clear hss hft
      go_wp2
      go_loopw [10] (fun i wr => ∃ k : Nat, (k = 0 ∨ k < (flat rs).length) ∧ i = .int .i64 ((k + 1 : Nat) : Int) ∧ Below w12.heap.size w12 wr) (fun i _ => (flat rs).length + 1 - (intOf i).toNat)
      case atStart => exact ⟨0, Or.inl rfl, rfl, Below.refl _ _⟩
      case round =>
        obtain ⟨k, hk, rfl, hbr⟩ := hrel
        by_cases hlt : k + 1 < (flat rs).length
        · have hkz : ((k + 1 : Nat) : Int) < ((flat rs).length : Int) := by omega
          have hkz0 : (k : Int) < ((flat rs).length : Int) := by omega
          have c0 := HC.out k (by omega)
          have c1 := HC.out (k + 1) hlt
          have d0 := hbr.cell (lt_of_cell c0)
          have d1 := hbr.cell (lt_of_cell c1)
          rw [c0] at d0
          rw [c1] at d1
          have hle := HST.out k hlt
          clear c0 c1
          generalize ss.getD k 0 = x at *
          generalize ss.getD (k + 1) 0 = y at *
          have hnlt : ¬ y < x := by omega
          go_wp2
          go_quiet (fail)
          go_wp2
          go_roundw
          case rel => exact ⟨k + 1, Or.inr (by omega), by go_num, hbr.trans ⟨rfl, rfl, rfl, Nat.le_refl _, fun _ _ => rfl⟩⟩
          case measure => simp [intOf]; omega
        · rename World => w13
          replace HO1 : Hid (Owns w7.heap.size w13 (.slice (some ⟨gA, 0, none⟩) (flat rs).length cA) ss) := HO1.out.below hbr
          replace HO2 : Hid (Owns w9.heap.size w13 (.slice (some ⟨gB, 0, none⟩) (flat rt).length cB) (srt (flat rt))) := HO2.out.below hbr
          replace HO3 : Hid (Owns w11.heap.size w13 (.slice (some ⟨gC, 0, none⟩) (flat rd).length cC) (srt (flat rd))) := HO3.out.below hbr
          replace HP : Hid (LsIs w13 a rs) := HP.out.below hbr
          replace HC : Hid (∀ i, i < (flat rs).length → w13.cell? ⟨gA, i, none⟩ = some (.int .i64 (ss.getD i 0))) := fun i hi => HO1.out.cell i (by rw [HSL.out]; exact hi)
          have hs12 := hb8'.size
          replace hb8' : Below w.heap.size w w13 := hb8'.trans (hbr.mono hs12)
          clear hbr hs12
          go_wp2
          go_loopw [86] (fun i wr => ∃ k : Nat, k ≤ (flat rs).length ∧ i = .int .i64 k ∧ Below w13.heap.size w13 wr) (fun i _ => (flat rs).length - (intOf i).toNat)
          case atStart => exact ⟨0, Nat.zero_le _, rfl, Below.refl _ _⟩
          case round =>
            obtain ⟨k, hk, rfl, hbr⟩ := hrel
            by_cases hlt : k < (flat rs).length
            · have hkz : (k : Int) < ((flat rs).length : Int) := by omega
              have c0 := HC.out k hlt
              have d0 := hbr.cell (lt_of_cell c0)
              rw [c0] at d0
              clear c0
              generalize ss.getD k 0 = x at *
              have hct := HCT.out x
              have H8 : Hid (∀ q, Calls Try.prog 8 #[.slice (some ⟨gA, 0, none⟩) (flat rs).length cA, .int .i64 x] (wr.drewN q) fun e w' => e = .returned (.int .i64 (cnt x (flat rs) : Nat)) ∧ w' = wr.drewN q) := fun q => by
                have C8 := count8 ⟨some ⟨gA, 0, none⟩, cA, ss⟩ x (wr.drewN q) ((HO1.out.below hbr).row) (by show ss.length ≤ _; rw [HSL.out]; omega)
                simp only [HSL.out, hct] at C8
                exact C8
              have H9 : Hid (∀ q, Calls Try.prog 9 #[.slice a rs.length cap, .int .i64 x] (wr.drewN q) fun e w' => e = .returned (.int .i64 (cnt x (flat rs) : Nat)) ∧ w' = wr.drewN q) := fun q => nested9 a cap x rs (wr.drewN q) hbig ht (HP.out.below (hbr.trans ⟨rfl, rfl, rfl, Nat.le_refl _, fun _ _ => rfl⟩))
              clear hct
              generalize cnt x (flat rs) = n0 at *
              go_wp2
              go_quiet ((first | (go_at_call 8; exact Calls.quiet_of_same (H8.out _)) | (go_at_call 9; exact Calls.quiet_of_same (H9.out _))))
              go_wp2
              go_roundw
              case rel => exact ⟨k + 1, by omega, by go_num, hbr.trans ⟨rfl, rfl, rfl, Nat.le_refl _, fun _ _ => rfl⟩⟩
              case measure => simp [intOf]; omega
            · rename World => w14
              replace HO1 := HO1.out.below hbr
              replace HO2 := HO2.out.below hbr
              replace HO3 := HO3.out.below hbr
              have hs13 := hb8'.size
              replace hb8' : Below w.heap.size w w14 := hb8'.trans (hbr.mono hs13)
              have hs14 := hb8'.size
              clear hbr hs13 HC HP
              go_wp2_with fail
              refine (merge11 _ _ _ _ (srt (flat rt)) (srt (flat rd)) w14 HO2 HO3 (by rw [srt_length, srt_length]; omega)).mono ?_
              rintro e w15 ⟨v4, rfl, ho4, hb15⟩
              rw [← HSM.out] at ho4
              replace HO1 := HO1.below hb15
              replace hb8' : Below w.heap.size w w15 := hb8'.trans (hb15.mono hs14)
              have hs15 := hb8'.size
              clear HO2 HO3 hb15 hs14
              go_wp2_with fail
              refine (equal10 _ _ _ v4 ss w15 HO1 ho4 (by rw [HSL.out]; omega)).mono ?_
              rintro e w16 ⟨rfl, hb16⟩
              replace hb8' : Below w.heap.size w w16 := hb8'.trans (hb16.mono hs15)
              clear HO1 ho4 hb16
              go_wp2
              go_ret
              exact ⟨rfl, hb8'⟩
end Go.Proofs.Qxb6616045a.Ln
