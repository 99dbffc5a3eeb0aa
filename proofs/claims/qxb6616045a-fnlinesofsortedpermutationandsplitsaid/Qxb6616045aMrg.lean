import Derived.Test.Qxb6616045aCnt
namespace Go.Proofs.Qxb6616045a.Ln
open Go.RowKit

set_option maxHeartbeats 2000000 in
theorem merge11 (base base' : Nat) (a b : Value) (za zb : List Int) (w : World) (h : Owns base w a za) (h' : Owns base' w b zb) (hsz : za.length + zb.length ≤ 1000000) :
    Calls Try.prog 11 #[a, b] w fun e w' => ∃ r, e = .returned r ∧ Owns w.heap.size w' r (mrg za zb) ∧ Below w.heap.size w w' := by
  obtain ⟨ga, ca, rfl⟩ := h.2
  obtain ⟨gb, cb, rfl⟩ := h'.2
  have HA : Hid (∀ i, i < za.length → w.cell? ⟨ga, i, none⟩ = some (.int .i64 (za.getD i 0))) := fun i hi => h.cell i hi
  have HB : Hid (∀ i, i < zb.length → w.cell? ⟨gb, i, none⟩ = some (.int .i64 (zb.getD i 0))) := fun i hi => h'.cell i hi
  clear h h'
  have HML : Hid ((mrg za zb).length = za.length + zb.length) := by unfold Hid mrg; rw [List.length_merge]
  obtain ⟨i0, hi, hz0, hz1, hz2⟩ := info_parts info3
  go_enter Try.func11, Try.ntmps11
  go_wp2_with (at_make; refine wpList_make_full _ rfl _ _ 24 rfl w.heap.size 3 i0 (.int .i64 0) 1 Try.underlying24 hi hz0 hz1 .i64 .i64 _ _ (za.length + zb.length) rfl rfl ?c0 ?c00 ?c1 ?c2 ?c3 ?_)
  all_goals try (first | omega | (rw [hz2]; omega) | (unfold maxLen; omega))
  intro w1 hown hg
  have hb1 : Below w.heap.size w w1 := (Below.refl _ _).grown hg (Nat.le_refl _) (fun k hk => by cases hk)
  have HM : Hid (OutIs w1 w.heap.size (za.length + zb.length) []) := OutIs.made hown
  clear hown hg
  go_wp2
  go_loopw [6, 7, 8] (fun si sj sn wr => ∃ (i j : Nat) (xs : List Int), i ≤ za.length ∧ j ≤ zb.length ∧ si = .int .i64 i ∧ sj = .int .i64 j ∧ sn = .int .i64 ((i + j : Nat) : Int) ∧ Hid (OutIs wr w.heap.size (za.length + zb.length) xs) ∧ xs.length = i + j ∧ Hid (xs ++ mrg (za.drop i) (zb.drop j) = mrg za zb) ∧ Below w.heap.size w wr) (fun _ _ sn _ => za.length + zb.length - (intOf sn).toNat)
  case atStart => exact ⟨0, 0, [], Nat.zero_le _, Nat.zero_le _, rfl, rfl, rfl, HM, rfl, rfl, hb1⟩
  case round =>
    clear HM hb1
    obtain ⟨i, j, xs, hil, hjl, rfl, rfl, rfl, HO, hxl, HE, hbr⟩ := hrel
    have HXL : Hid (xs.length = i + j) := hxl
    clear hxl
    by_cases hlt : i + j < za.length + zb.length
    · have hnz : ((i + j : Nat) : Int) < ((za.length + zb.length : Nat) : Int) := by omega
      obtain ⟨z0, e0⟩ := HO.out.old (i + j) hlt
      have f0 := HO.out.frozen (i + j)
      by_cases hj : zb.length ≤ j
      · have hd : decide ((zb.length : Int) ≤ (j : Int)) = true := by simp; omega
        have hia : i < za.length := by omega
        have hiz : (i : Int) < (za.length : Int) := by omega
        have da := hbr.cell (lt_of_cell (HA.out i hia))
        rw [HA.out i hia] at da
        have hP := HO.out.push (by rw [HXL.out]; omega) (za.getD i 0)
        rw [HXL.out] at hP
        have HE2 : Hid ((xs ++ [za.getD i 0]) ++ mrg (za.drop (i + 1)) (zb.drop j) = mrg za zb) := by unfold Hid; rw [List.append_assoc, List.singleton_append, ← mrg_b_out za zb i j hia hj]; exact HE.out
        have HP : Hid (OutIs (wr.setCell ⟨w.heap.size, i + j, none⟩ (.int .i64 (za.getD i 0))) w.heap.size (za.length + zb.length) (xs ++ [za.getD i 0])) := hP
        clear hP HO HE
        generalize za.getD i 0 = x at *
        go_wp2
        go_quiet (fail)
        go_wp2
        go_roundw
        case rel => exact ⟨i + 1, j, xs ++ [x], by omega, by omega, by go_num, rfl, by go_num, HP, by rw [List.length_append, HXL.out]; simp; omega, HE2, (hbr.setCell (Nat.le_refl _) _).trans ⟨rfl, rfl, rfl, Nat.le_refl _, fun _ _ => rfl⟩⟩
        case measure => simp [intOf]; omega
      · have hd : decide ((zb.length : Int) ≤ (j : Int)) = false := by simp; omega
        have hjb : j < zb.length := by omega
        have hjz : (j : Int) < (zb.length : Int) := by omega
        have db := hbr.cell (lt_of_cell (HB.out j hjb))
        rw [HB.out j hjb] at db
        by_cases hi2 : i < za.length
        · have hd2 : decide ((i : Int) < (za.length : Int)) = true := by simp; omega
          have hia : i < za.length := by omega
          have hiz : (i : Int) < (za.length : Int) := by omega
          have da := hbr.cell (lt_of_cell (HA.out i hia))
          rw [HA.out i hia] at da
          by_cases hle : za.getD i 0 ≤ zb.getD j 0
          · have hP := HO.out.push (by rw [HXL.out]; omega) (za.getD i 0)
            rw [HXL.out] at hP
            have HE2 : Hid ((xs ++ [za.getD i 0]) ++ mrg (za.drop (i + 1)) (zb.drop j) = mrg za zb) := by unfold Hid; rw [List.append_assoc, List.singleton_append, ← mrg_a za zb i j hia hjb hle]; exact HE.out
            have HP : Hid (OutIs (wr.setCell ⟨w.heap.size, i + j, none⟩ (.int .i64 (za.getD i 0))) w.heap.size (za.length + zb.length) (xs ++ [za.getD i 0])) := hP
            clear hP HO HE
            generalize zb.getD j 0 = y at *
            generalize za.getD i 0 = x at *
            go_wp2
            go_quiet (fail)
            go_wp2
            go_roundw
            case rel => exact ⟨i + 1, j, xs ++ [x], by omega, by omega, by go_num, rfl, by go_num, HP, by rw [List.length_append, HXL.out]; simp; omega, HE2, (hbr.setCell (Nat.le_refl _) _).trans ⟨rfl, rfl, rfl, Nat.le_refl _, fun _ _ => rfl⟩⟩
            case measure => simp [intOf]; omega
          · have hP := HO.out.push (by rw [HXL.out]; omega) (zb.getD j 0)
            rw [HXL.out] at hP
            have HE2 : Hid ((xs ++ [zb.getD j 0]) ++ mrg (za.drop i) (zb.drop (j + 1)) = mrg za zb) := by unfold Hid; rw [List.append_assoc, List.singleton_append, ← mrg_b za zb i j hia hjb hle]; exact HE.out
            have HP : Hid (OutIs (wr.setCell ⟨w.heap.size, i + j, none⟩ (.int .i64 (zb.getD j 0))) w.heap.size (za.length + zb.length) (xs ++ [zb.getD j 0])) := hP
            clear hP HO HE
            generalize za.getD i 0 = x at *
            generalize zb.getD j 0 = y at *
            go_wp2
            go_quiet (fail)
            go_wp2
            go_roundw
            case rel => exact ⟨i, j + 1, xs ++ [y], by omega, by omega, rfl, by go_num, by go_num, HP, by rw [List.length_append, HXL.out]; simp; omega, HE2, (hbr.setCell (Nat.le_refl _) _).trans ⟨rfl, rfl, rfl, Nat.le_refl _, fun _ _ => rfl⟩⟩
            case measure => simp [intOf]; omega
        · have hd2 : decide ((i : Int) < (za.length : Int)) = false := by simp; omega
          have hP := HO.out.push (by rw [HXL.out]; omega) (zb.getD j 0)
          rw [HXL.out] at hP
          have HE2 : Hid ((xs ++ [zb.getD j 0]) ++ mrg (za.drop i) (zb.drop (j + 1)) = mrg za zb) := by unfold Hid; rw [List.append_assoc, List.singleton_append, ← mrg_a_out za zb i j (by omega) hjb]; exact HE.out
          have HP : Hid (OutIs (wr.setCell ⟨w.heap.size, i + j, none⟩ (.int .i64 (zb.getD j 0))) w.heap.size (za.length + zb.length) (xs ++ [zb.getD j 0])) := hP
          clear hP HO HE
          generalize zb.getD j 0 = y at *
          go_wp2
          go_quiet (fail)
          go_wp2
          go_roundw
          case rel => exact ⟨i, j + 1, xs ++ [y], by omega, by omega, rfl, by go_num, by go_num, HP, by rw [List.length_append, HXL.out]; simp; omega, HE2, (hbr.setCell (Nat.le_refl _) _).trans ⟨rfl, rfl, rfl, Nat.le_refl _, fun _ _ => rfl⟩⟩
          case measure => simp [intOf]; omega
    · have hfin : Hid (Owns w.heap.size wr (.slice (some ⟨w.heap.size, 0, none⟩) (za.length + zb.length) (za.length + zb.length)) (mrg za zb)) := by
        have e : xs = mrg za zb := by
          have h := HE.out
          rw [List.drop_of_length_le (by omega), List.drop_of_length_le (by omega)] at h
          have e2 : mrg [] [] = [] := by unfold mrg; rw [List.nil_merge]
          rw [e2, List.append_nil] at h; exact h
        have h := HO.out
        rw [e] at h
        exact h.done HML.out (Nat.le_refl _) (by unfold maxLen; omega)
      clear HO HE HXL
      go_wp2
      go_ret
      exact ⟨_, rfl, hfin.out, hbr⟩
end Go.Proofs.Qxb6616045a.Ln
