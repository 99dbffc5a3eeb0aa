import Derived.Test.Qxb6616045aLines
namespace Go.Proofs.Qxb6616045a.Ln
open Go.RowKit

set_option maxHeartbeats 400000 in
theorem equal10 (base base' : Nat) (v v' : Value) (zs : List Int) (w : World) (h : Owns base w v zs) (h' : Owns base' w v' zs) (hsz : zs.length ≤ 1000000) :
    Calls Try.prog 10 #[v, v'] w fun e w' => e = .returned (.bool true) ∧ Below w.heap.size w w' := by
  obtain ⟨g, c, rfl⟩ := h.2
  obtain ⟨g', c', rfl⟩ := h'.2
  have HC : Hid (∀ i, i < zs.length → w.cell? ⟨g, i, none⟩ = some (.int .i64 (zs.getD i 0)) ∧ w.cell? ⟨g', i, none⟩ = some (.int .i64 (zs.getD i 0))) := fun i hi => ⟨h.cell i hi, h'.cell i hi⟩
  clear h h'
  go_enter Try.func10, Try.ntmps10
  go_wp2
  go_loopw [13] (fun i wr => ∃ k : Nat, k ≤ zs.length ∧ i = .int .i64 k ∧ Below w.heap.size w wr) (fun i _ => zs.length - (intOf i).toNat)
  case atStart => exact ⟨0, Nat.zero_le _, rfl, Below.refl _ _⟩
  case round =>
    obtain ⟨k, hk, rfl, hbr⟩ := hrel
    by_cases hlt : k < zs.length
    · obtain ⟨c0, c1⟩ := HC.out k hlt
      have d0 := hbr.cell (lt_of_cell c0)
      have d1 := hbr.cell (lt_of_cell c1)
      rw [c0] at d0
      rw [c1] at d1
      clear c0 c1
      generalize zs.getD k 0 = z at *
      have hkz : (k : Int) < (zs.length : Int) := by omega
      go_wp2
      go_quiet (fail)
      go_wp2
      go_roundw
      case rel => exact ⟨k + 1, by omega, by go_num, hbr.trans ⟨rfl, rfl, rfl, Nat.le_refl _, fun _ _ => rfl⟩⟩
      case measure => simp [intOf]; omega
    · go_wp2
      go_ret
      exact ⟨rfl, hbr⟩

/-- A row of N ints of the call's own at block g, its first cells written: xs. -/
def OutIs (w : World) (g N : Nat) (xs : List Int) : Prop :=
  ∃ cur, w.heap[g]? = some (.cells cur 3) ∧ cur.size = N ∧ (∀ j, j < N → ∃ z, cur[j]? = some (.int .i64 z)) ∧ ∀ j, j < xs.length → cur[j]? = some (.int .i64 (xs.getD j 0))

theorem OutIs.old {w : World} {g N : Nat} {xs : List Int} (h : OutIs w g N xs) (j : Nat) (hj : j < N) : ∃ z, w.cell? ⟨g, j, none⟩ = some (.int .i64 z) := by
  obtain ⟨cur, h1, h2, h3, h4⟩ := h
  obtain ⟨z, hz⟩ := h3 j hj
  exact ⟨z, by rw [cell_of h1]; exact hz⟩
theorem OutIs.frozen {w : World} {g N : Nat} {xs : List Int} (h : OutIs w g N xs) (j : Nat) : w.frozen? ⟨g, j, none⟩ = false := by
  obtain ⟨cur, h1, _⟩ := h
  exact frozen_of h1 j

theorem OutIs.push {w : World} {g N : Nat} {xs : List Int} (h : OutIs w g N xs) (hN : xs.length < N) (z : Int) : OutIs (w.setCell ⟨g, xs.length, none⟩ (.int .i64 z)) g N (xs ++ [z]) := by
  obtain ⟨cur, h1, h2, h3, h4⟩ := h
  refine ⟨_, heap_set h1 _ _, by simpa using h2, fun j hj => ?_, fun j hj => ?_⟩
  · rw [Array.getElem?_setIfInBounds]
    by_cases e : xs.length = j
    · rw [if_pos e, if_pos (by omega)]; exact ⟨z, rfl⟩
    · rw [if_neg e]; exact h3 j hj
  · rw [Array.getElem?_setIfInBounds]
    by_cases e : xs.length = j
    · rw [if_pos e, if_pos (by omega)]; subst e; simp [List.getD]
    · have hj' : j < xs.length := by simp at hj; omega
      rw [if_neg e, h4 j hj']
      simp [List.getD, List.getElem?_append_left hj']

theorem OutIs.kept {w w' : World} {g N : Nat} {xs : List Int} (h : OutIs w g N xs) (hw : w'.heap[g]? = w.heap[g]?) : OutIs w' g N xs := by
  obtain ⟨cur, h1, h2, h3, h4⟩ := h
  exact ⟨cur, by rw [hw]; exact h1, h2, h3, h4⟩

theorem OutIs.done {w : World} {base g N : Nat} {xs : List Int} (h : OutIs w g N xs) (hN : xs.length = N) (hb : base ≤ g) (hm : N ≤ maxLen) : Owns base w (.slice (some ⟨g, 0, none⟩) N N) xs := by
  obtain ⟨cur, h1, h2, h3, h4⟩ := h
  subst hN
  refine ⟨⟨by simp, Or.inr ⟨g, xs.length, cur, rfl, hb, h1, Nat.le_refl _, hm, by omega, ?_⟩⟩, g, xs.length, rfl⟩
  apply List.ext_getElem?
  intro j
  by_cases hj : j < xs.length
  · rw [List.getElem?_take_of_lt (by omega), Array.getElem?_toList, h4 j hj]
    simp [List.getD, hj]
  · rw [List.getElem?_eq_none (by simp; omega), List.getElem?_eq_none (by simp; omega)]

theorem OutIs.made {w : World} {base g N : Nat} (h : w.ownsRow base 3 1 (.slice (some ⟨g, 0, none⟩) N N) N (madeCells #[Value.int .i64 0] N).toList) : OutIs w g N [] := by
  rcases h.2 with ⟨e, _⟩ | ⟨g', c, cur, e, r1, r2, r3, r4, r5, r6⟩
  · cases e
  · injection e with e1 _ e3
    injection e1 with e1
    injection e1 with e1
    subst e1 e3
    refine ⟨cur, r2, by omega, fun j hj => ⟨0, ?_⟩, fun j hj => absurd hj (by simp)⟩
    have hl : cur.toList = (madeCells #[Value.int .i64 0] N).toList := by
      refine Eq.trans ?_ r6
      rw [List.take_of_length_le (by simp; omega)]
    rw [← Array.getElem?_toList, hl, toList_madeCells_one, List.getElem?_replicate_of_lt (by omega)]

theorem take_snoc (zs : List Int) (k : Nat) (h : k < zs.length) : zs.take (k + 1) = zs.take k ++ [zs.getD k 0] := by
  rw [List.take_succ_eq_append_getElem h]
  simp [List.getD, h]

theorem drop_snoc (zs : List Int) (k m : Nat) (hkm : k ≤ m) (h : m < zs.length) : (zs.drop k).take (m - k) ++ [zs.getD m 0] = (zs.drop k).take (m + 1 - k) := by
  have := take_snoc (zs.drop k) (m - k) (by simp; omega)
  rw [show m + 1 - k = m - k + 1 by omega, this]
  simp [List.getD, show k + (m - k) = m by omega]

set_option maxHeartbeats 2000000 in
theorem insert13 (base : Nat) (v : Int) (a : Value) (zs : List Int) (w : World) (h : Owns base w a zs) (hsz : zs.length ≤ 1000000) :
    Calls Try.prog 13 #[a, .int .i64 v] w fun e w' => ∃ r, e = .returned r ∧ Owns w.heap.size w' r (ins v zs) ∧ Below w.heap.size w w' := by
  obtain ⟨g, c, rfl⟩ := h.2
  have HC : Hid (∀ i, i < zs.length → w.cell? ⟨g, i, none⟩ = some (.int .i64 (zs.getD i 0))) := fun i hi => h.cell i hi
  clear h
  obtain ⟨i0, hi, hz0, hz1, hz2⟩ := info_parts info3
  have hcl := cut_le v zs
  have HCT : Hid ((∀ k, k < cut v zs → zs.getD k 0 ≤ v) ∧ (cut v zs < zs.length → v < zs.getD (cut v zs) 0)) := ⟨cut_lt v zs, cut_at v zs⟩
  have HIN : Hid (ins v zs = zs.take (cut v zs) ++ v :: zs.drop (cut v zs)) := rfl
  generalize hct : cut v zs = ct at *
  clear hct
  go_enter Try.func13, Try.ntmps13
  go_wp2_with (at_make; refine wpList_make_full _ rfl _ _ 24 rfl w.heap.size 3 i0 (.int .i64 0) 1 Try.underlying24 hi hz0 hz1 .i64 .i64 _ _ (zs.length + 1) rfl rfl ?c0 ?c00 ?c1 ?c2 ?c3 ?_)
  case c0 => go_num
  case c00 => go_num
  case c1 => rw [hz2]; omega
  case c2 => unfold maxLen; omega
  case c3 => exact Nat.le_refl _
  intro w1 hown hg
  have hb1 : Below w.heap.size w w1 := (Below.refl _ _).grown hg (Nat.le_refl _) (fun k hk => by cases hk)
  have HM : Hid (OutIs w1 w.heap.size (zs.length + 1) []) := OutIs.made hown
  clear hown hg
  go_wp2
  go_loopw [6] (fun i wr => ∃ k : Nat, k ≤ ct ∧ i = .int .i64 k ∧ Hid (OutIs wr w.heap.size (zs.length + 1) (zs.take k)) ∧ Below w.heap.size w wr) (fun i _ => ct - (intOf i).toNat)
  case atStart => exact ⟨0, Nat.zero_le _, rfl, HM, hb1⟩
  case round =>
    clear HM hb1
    obtain ⟨k, hk, rfl, HO, hbr⟩ := hrel
    by_cases hlt : k < ct
    · have hkl : k < zs.length := by omega
      have hkz : (k : Int) < (zs.length : Int) := by omega
      have hle := HCT.out.1 k hlt
      have d0 := hbr.cell (lt_of_cell (HC.out k hkl))
      rw [HC.out k hkl] at d0
      obtain ⟨z0, e0⟩ := HO.out.old k (by omega)
      have f0 := HO.out.frozen k
      have hP := HO.out.push (by rw [List.length_take]; omega) (zs.getD k 0)
      rw [show (zs.take k).length = k by rw [List.length_take]; omega, ← take_snoc zs k hkl] at hP
      generalize zs.getD k 0 = z at *
      have HP : Hid (OutIs (wr.setCell ⟨w.heap.size, k, none⟩ (.int .i64 z)) w.heap.size (zs.length + 1) (zs.take (k + 1))) := hP
      clear hP HO
      go_wp2
      go_roundw
      case rel => exact ⟨k + 1, by omega, by go_num, HP, hbr.setCell (Nat.le_refl _) _⟩
      case measure => simp [intOf]; omega
    · have hkc : k = ct := by omega
      subst hkc
      obtain ⟨z0, e0⟩ := HO.out.old k (by omega)
      have f0 := HO.out.frozen k
      have hP := HO.out.push (by rw [List.length_take]; omega) v
      rw [show (zs.take k).length = k by rw [List.length_take]; omega] at hP
      have HP : Hid (OutIs (wr.setCell ⟨w.heap.size, k, none⟩ (.int .i64 v)) w.heap.size (zs.length + 1) (zs.take k ++ [v])) := hP
      clear hP HO
      have hb2 : Below w.heap.size w (wr.setCell ⟨w.heap.size, k, none⟩ (.int .i64 v)) := hbr.setCell (Nat.le_refl _) _
      by_cases hkl : k < zs.length
      · have hkz : (k : Int) < (zs.length : Int) := by omega
        have hgt := HCT.out.2 hkl
        have d0 := hbr.cell (lt_of_cell (HC.out k hkl))
        rw [HC.out k hkl] at d0
        generalize zs.getD k 0 = z at *
        go_wp2
        generalize wr.setCell ⟨w.heap.size, k, none⟩ (.int .i64 v) = w2 at *
        go_loopw [7] (fun i wr => ∃ m : Nat, k ≤ m ∧ m ≤ zs.length ∧ i = .int .i64 m ∧ Hid (OutIs wr w.heap.size (zs.length + 1) (zs.take k ++ v :: (zs.drop k).take (m - k))) ∧ Below w.heap.size w wr) (fun i _ => zs.length - (intOf i).toNat)
        case atStart => exact ⟨k, Nat.le_refl _, hcl, rfl, by rw [Nat.sub_self]; exact HP, hb2⟩
        case round =>
          clear HP hb2
          obtain ⟨m, hkm, hml, rfl, HO, hbr⟩ := hrel
          by_cases hmt : m < zs.length
          · have hmz : (m : Int) < (zs.length : Int) := by omega
            have d1 := hbr.cell (lt_of_cell (HC.out m hmt))
            rw [HC.out m hmt] at d1
            obtain ⟨z1, e1⟩ := HO.out.old (m + 1) (by omega)
            have f1 := HO.out.frozen (m + 1)
            have hlen : (zs.take k ++ v :: (zs.drop k).take (m - k)).length = m + 1 := by simp; omega
            have hP := HO.out.push (by rw [hlen]; omega) (zs.getD m 0)
            rw [hlen, List.append_assoc, List.cons_append, show (zs.drop k).take (m - k) ++ [zs.getD m 0] = (zs.drop k).take (m + 1 - k) from drop_snoc zs k m hkm hmt] at hP
            generalize zs.getD m 0 = z at *
            have HP : Hid (OutIs (wr.setCell ⟨w.heap.size, m + 1, none⟩ (.int .i64 z)) w.heap.size (zs.length + 1) (zs.take k ++ v :: (zs.drop k).take (m + 1 - k))) := hP
            clear hP HO hlen
            go_wp2
            go_roundw
            case rel => exact ⟨m + 1, by omega, by omega, by go_num, HP, hbr.setCell (Nat.le_refl _) _⟩
            case measure => simp [intOf]; omega
          · have hfin : Hid (Owns w.heap.size wr (.slice (some ⟨w.heap.size, 0, none⟩) (zs.length + 1) (zs.length + 1)) (ins v zs)) := by
              unfold Hid
              have h := HO.out
              rw [show (zs.drop k).take (m - k) = zs.drop k from List.take_of_length_le (by rw [List.length_drop]; omega)] at h
              rw [HIN.out]
              exact h.done (by simp; omega) (Nat.le_refl _) (by unfold maxLen; omega)
            clear HO
            go_wp2
            go_ret
            exact ⟨_, rfl, hfin.out, hbr⟩
      · have hkz : ¬ (k : Int) < (zs.length : Int) := by omega
        go_wp2
        generalize wr.setCell ⟨w.heap.size, k, none⟩ (.int .i64 v) = w2 at *
        go_loopw [7] (fun i wr => ∃ m : Nat, k ≤ m ∧ m ≤ zs.length ∧ i = .int .i64 m ∧ Hid (OutIs wr w.heap.size (zs.length + 1) (zs.take k ++ v :: (zs.drop k).take (m - k))) ∧ Below w.heap.size w wr) (fun i _ => zs.length - (intOf i).toNat)
        case atStart => exact ⟨k, Nat.le_refl _, hcl, rfl, by rw [Nat.sub_self]; exact HP, hb2⟩
        case round =>
          clear HP hb2
          obtain ⟨m, hkm, hml, rfl, HO, hbr⟩ := hrel
          by_cases hmt : m < zs.length
          · exfalso; omega
          · have hfin : Hid (Owns w.heap.size wr (.slice (some ⟨w.heap.size, 0, none⟩) (zs.length + 1) (zs.length + 1)) (ins v zs)) := by
              unfold Hid
              have h := HO.out
              rw [show (zs.drop k).take (m - k) = zs.drop k from List.take_of_length_le (by rw [List.length_drop]; omega)] at h
              rw [HIN.out]
              exact h.done (by simp; omega) (Nat.le_refl _) (by unfold maxLen; omega)
            clear HO
            go_wp2
            go_ret
            exact ⟨_, rfl, hfin.out, hbr⟩
end Go.Proofs.Qxb6616045a.Ln
