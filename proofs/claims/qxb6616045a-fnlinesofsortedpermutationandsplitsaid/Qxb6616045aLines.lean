import Derived.Test.Qxb6616045aLoans
import Derived.Test.Qxb6616045aShelf
import Derived.Sort.OwnSortedInts
import Derived.Deep.MidRow
namespace Go.Proofs.Qxb6616045a.Ln
open Go.RowKit Go.Sort

theorem info3 : (Try.prog.info? 3).map (fun i => (i.zero, i.size, i.bytes)) = some (some (.int .i64 0), 1, 8) := by kernel_rfl

set_option maxHeartbeats 400000 in
theorem field15 (ad : Option Addr) (n c : Nat) (w : World) :
    Calls Try.prog 15 #[.agg (loan (.slice ad n c)).toArray] w fun e w' => e = .returned (.slice ad n c) ∧ w' = w.alloc (.cells (loan (.slice ad n c)).toArray 43) := by
  unfold loan
  go_enter Try.func15, Try.ntmps15
  go_wp2
  go_ret
  exact ⟨rfl, rfl⟩

theorem field15' (lc : List Value) (ad : Option Addr) (n c : Nat) (w : World) (h : Hid (loan (.slice ad n c) = lc)) :
    Calls Try.prog 15 #[.agg lc.toArray] w fun e w' => e = .returned (.slice ad n c) ∧ w' = w.alloc (.cells lc.toArray 43) := by
  rw [← h.out]; exact field15 ad n c w

theorem there_new (w : World) (Z : Array Value) (t : TypeId) (n : Nat) (h : n ≤ Z.size) : (w.alloc (.cells Z t)).there w.heap.size 0 n := by
  intro j hj
  have hb : (w.alloc (.cells Z t)).heap[w.heap.size]? = some (.cells Z t) := by show (w.heap.push _)[w.heap.size]? = _; simp
  rw [Nat.zero_add, cell_of hb, frozen_of hb, Array.getElem?_eq_getElem (by omega)]
  exact ⟨rfl, rfl⟩

theorem below_setCells {B : Nat} {a : World} (b : Nat) (hb : B ≤ b) : ∀ (vs : List Value) (o : Nat) {w : World}, RowKit.Below B a w → RowKit.Below B a (w.setCells b o vs)
  | [], _, _, h => h
  | v :: vs, o, w, h => by
    show RowKit.Below B a ((w.setCell ⟨b, o, none⟩ v).setCells b (o + 1) vs)
    exact below_setCells b hb vs (o + 1) (h.setCell hb v)

theorem append_none (g L c : Nat) (h : L ≤ c) (ty : TypeId) (w : World) : (Builtin.append_ #[24, 24] ty #[.slice (some ⟨g, 0, none⟩) L c, .slice none 0 0]).run Try.prog w = .ok (.slice (some ⟨g, 0, none⟩) L c) w := by
  obtain ⟨i0, hi, hz0, hz1, hz2⟩ := info_parts info3
  simp [Builtin.append_, run_underlying Try.underlying24, sizeOf, typeInfo, hi, Builtin.lenOf, Builtin.firstCells, h, storeCells]

/-- v is a slice of the call's own, not nil, that holds zs. -/
def Owns (base : Nat) (w : World) (v : Value) (zs : List Int) : Prop :=
  w.ownsRow base 3 1 v zs.length (zs.map (Value.int .i64)) ∧ ∃ g c, v = .slice (some ⟨g, 0, none⟩) zs.length c

theorem Owns.below {base : Nat} {w w' : World} {v : Value} {zs : List Int} (h : Owns base w v zs) (hb : Below w.heap.size w w') : Owns base w' v zs := by
  refine ⟨?_, h.2⟩
  refine ⟨h.1.1, ?_⟩
  rcases h.1.2 with h2 | ⟨g, cap, cur, rfl, r1, r2, r3⟩
  · exact Or.inl h2
  · exact Or.inr ⟨g, cap, cur, rfl, r1, by rw [hb.block g (lt_of r2)]; exact r2, r3⟩

theorem Owns.cell {base : Nat} {w : World} {g n c : Nat} {zs : List Int} (h : Owns base w (.slice (some ⟨g, 0, none⟩) n c) zs) (i : Nat) (hi : i < zs.length) : w.cell? ⟨g, i, none⟩ = some (.int .i64 (zs.getD i 0)) := by
  obtain ⟨h1, g', c', e⟩ := h
  injection e with e1 e2 e3
  subst e2
  rw [h1.cellAt i (by omega)]
  simp [List.getD, hi]

/-- slices.Sort of a slice of the call's own. -/
theorem sort16 (base : Nat) (v : Value) (zs : List Int) (w : World) (h : Owns base w v zs) (hsz : zs.length ≤ 1000000) (hbase : base ≤ w.heap.size) :
    Calls Try.prog 16 #[v] w fun e w' => e = .returned (.tuple #[]) ∧ Owns base w' v (srt zs) ∧ Below base w w' := by
  obtain ⟨h1, g, c, rfl⟩ := h
  rcases h1.2 with ⟨e, _⟩ | ⟨g', cap, cur, e, r1, r2, r3, r4, r5, r6⟩
  · cases e
  · injection e with e1 _ e3
    injection e1 with e1
    injection e1 with e1
    subst e1 e3
    refine (Any.slices_Sort_int Try.lays189 g 0 c zs w (holds_of_blockI r2 (by simpa using r6)) (lt_of r2) (by omega)).mono ?_
    rintro e w' ⟨rfl, n, os, rfl⟩
    refine ⟨rfl, ⟨?_, g, c, by rw [srt_length]⟩, (Below.refl base w).grown (grownBy_sortedI _) hbase (fun k hk => by cases hk; exact r1)⟩
    have := ownsRow_sortedI (n := n) (os := os) (ts := srt zs) (srt_length zs) r1 r2 r3 r4 (by omega)
    rw [srt_length]
    exact this

theorem loan_one (ad : Option Addr) (n c : Nat) : ∀ u ∈ loan (.slice ad n c), u.oneCell' = true := by
  intro u hu
  simp only [loan, List.mem_cons, List.not_mem_nil, or_false] at hu
  rcases hu with rfl | rfl | rfl | rfl | rfl | rfl | rfl | rfl | rfl | rfl | rfl | rfl | rfl | rfl | rfl | rfl | rfl | rfl | rfl | rfl | rfl | rfl | rfl | rfl <;> rfl

theorem flat_take (rs : List Row) (k : Nat) (h : k < rs.length) : flat (rs.take (k + 1)) = flat (rs.take k) ++ (rs.getD k nilRow).zs := by
  unfold flat
  rw [List.take_succ_eq_append_getElem h, List.flatMap_append]
  simp [List.getD, h]

theorem flat_take_le (rs : List Row) (k : Nat) : (flat (rs.take k)).length ≤ (flat rs).length := by
  have : flat rs = flat (rs.take k) ++ flat (rs.drop k) := by unfold flat; rw [← List.flatMap_append, List.take_append_drop]
  rw [this, List.length_append]; omega

set_option maxHeartbeats 2000000 in
theorem lines14 (g : Nat) (rs : List Row) (w : World) (hm : rs.length ≤ 4097) (hf : (flat rs).length ≤ 4097) (hL : LoansIs w g (fun j => (rs.getD j nilRow).v) rs.length) (hr : ∀ j, j < rs.length → RowIs w (rs.getD j nilRow)) :
    Calls Try.prog 14 #[.slice (some ⟨g, 0, none⟩) rs.length rs.length, .func (.func 15) #[] #[]] w fun e w' => ∃ v, e = .returned v ∧ Owns w.heap.size w' v (srt (flat rs)) ∧ Below w.heap.size w w' := by
  have HL : Hid (LoansIs w g (fun j => (rs.getD j nilRow).v) rs.length) := hL
  have HR : Hid (∀ j, j < rs.length → RowIs w (rs.getD j nilRow)) := hr
  have lg : g < w.heap.size := by obtain ⟨cur, h1, _⟩ := hL; exact lt_of h1
  clear hL hr
  obtain ⟨i0, hi, hz0, hz1, hz2⟩ := info_parts info3
  go_enter Try.func14, Try.ntmps14
  go_wp2
  go_loopw [5, 11] (fun v i wr => ∃ k g' c', k ≤ rs.length ∧ i = .int .i64 (k : Nat) ∧ v = .slice (some ⟨g', 0, none⟩) (flat (rs.take k)).length c' ∧ Owns w.heap.size wr v (flat (rs.take k)) ∧ Below w.heap.size w wr) (fun _ i _ => rs.length - (intOf i).toNat)
  case atStart =>
    refine ⟨0, w.heap.size, 0, Nat.zero_le _, rfl, rfl, ⟨?_, _, _, rfl⟩, (Below.refl _ _).alloc (Nat.le_refl _) _⟩
    exact World.ownsRow_lit w #[] 0 (Nat.le_refl _) (by unfold maxLen; omega) rfl
  case round =>
    obtain ⟨k, g', c', hk, rfl, rfl, hown, hbr⟩ := hrel
    have htl := flat_take_le rs k
    by_cases hlt : k < rs.length
    · have hkz : (k : Int) < (rs.length : Int) := by omega
      have hts : Hid (flat (rs.take (k + 1)) = flat (rs.take k) ++ (rs.getD k nilRow).zs) := flat_take rs k hlt
      have htl1 := flat_take_le rs (k + 1)
      rw [hts.out, List.length_append] at htl1
      have hrg : wr.rangeAt g (k * 24) (loan (rs.getD k nilRow).v) := by
        intro i u hu
        have hi : i < 24 := by have := (List.getElem?_eq_some_iff.1 hu).1; rwa [loan_length] at this
        rw [hbr.cell (show g < w.heap.size from lg), HL.out.cell hlt hi]; exact hu
      have hrow := (HR.out k hlt)
      generalize hr : rs.getD k nilRow = r at *
      obtain ⟨ad, rc, zs⟩ := r
      unfold Row.v at hrg
      simp only at hrg htl1 hts
      clear hr
      have hone : ∀ u ∈ loan (.slice ad zs.length rc), u.oneCell' = true := loan_one _ _ _
      generalize hlc : loan (.slice ad zs.length rc) = lc at *
      have hlen : lc.length = 24 := by rw [← hlc]; rfl
      have hinfo : (Try.prog.info? 43).map (·.size) = some lc.length := by rw [hlen]; kernel_rfl
      have HLC : Hid (loan (.slice ad zs.length rc) = lc) := hlc
      have HLE : Hid (lc.length = 24) := hlen
      have HIN : Hid ((Try.prog.info? 43).map (·.size) = some lc.length) := hinfo
      have HON : Hid (∀ u ∈ lc, u.oneCell' = true) := hone
      have HRG : Hid (wr.rangeAt g (k * 24) lc) := hrg
      clear hlc hlen hinfo hone hrg
      have HO : Hid (Owns w.heap.size wr (.slice (some ⟨g', 0, none⟩) (flat (rs.take k)).length c') (flat (rs.take k))) := hown
      have HW : Hid (RowIs w ⟨ad, rc, zs⟩) := hrow
      clear hown hrow
      have HI2 : Hid ((Try.prog.info? 43).map (·.size) = some lc.toArray.size) := by unfold Hid; rw [List.size_toArray]; exact HIN.out
      have HO2 : Hid (lc.toArray.all (·.oneCell') = true) := all_oneCell_toArray HON.out
      have HR2 : Hid (∀ Z : Array Value, Z.size = 24 → ((wr.alloc (.cells Z 43)).setCells wr.heap.size 0 lc).rangeAt wr.heap.size 0 lc) := fun Z hZ =>
        World.rangeAt_setCells_same _ _ _ _ (there_new wr Z 43 lc.length (by rw [HLE.out]; omega))
      go_wp2_with (first
        | (refine wpList_load_mid rfl 43 _ rfl _ _ rfl lc _ ?_ Try.underlying43 rfl HIN.out ?_; exact HRG.out)
        | (refine wpList_load_mid rfl 43 _ rfl _ _ rfl lc _ ?_ Try.underlying43 rfl HIN.out ?_; exact HR2.out _ rfl)
        | (refine wpList_store_mid rfl 43 _ _ rfl _ _ lc.toArray rfl rfl ?ht HI2.out HO2.out ?_))
      case ht => exact there_new wr _ 43 _ (by rw [List.size_toArray, HLE.out]; exact Nat.le_refl _)
      refine (field15' lc ad zs.length rc _ HLC).mono ?_
      rintro e w2 ⟨rfl, hw2⟩
      have hs0 := hbr.size
      have hb2 : RowKit.Below wr.heap.size wr w2 := by
        rw [hw2]
        refine (below_setCells _ (Nat.le_refl _) _ _ ((RowKit.Below.refl _ _).alloc (Nat.le_refl _) _)).alloc ?_ _
        exact (below_setCells _ (Nat.le_refl _) _ _ ((RowKit.Below.refl wr.heap.size wr).alloc (Nat.le_refl _) _)).size
      clear hw2 HRG HR2 HI2 HO2 HON HIN HLE HLC
      have hO2 := HO.out.below hb2
      have hbr2 := hbr.trans (hb2.mono hs0)
      have hs2 := hb2.size
      clear HO hbr
      rcases HW.out with ⟨e1, e2, e3⟩ | ⟨x, e1, hx⟩
      · simp only at e1 e2 e3
        subst e1 e2 e3
        have hcc : (flat (rs.take k)).length ≤ c' := by
          rcases hO2.1.2 with ⟨h0, _⟩ | ⟨g1, c1, cur, h0, _, _, h3, _⟩
          · cases h0
          · injection h0 with _ _ h0; rw [h0]; exact h3
        have hap := append_none g' (flat (rs.take k)).length c' hcc
        have HO2 : Hid (Owns w.heap.size w2 (.slice (some ⟨g', 0, none⟩) (flat (rs.take k)).length c') (flat (rs.take k))) := hO2
        clear hO2 HW
        go_wp2
        go_roundw
        case rel =>
          refine ⟨k + 1, g', c', by omega, by go_num, by rw [hts.out, List.append_nil], ?_, hbr2⟩
          rw [hts.out, List.append_nil]; exact HO2.out
        case measure => simp [intOf]; omega
      · simp only at e1 hx
        subst e1
        have hx2 : ∀ i, i < zs.length → w2.cell? (x.add i) = some (.int .i64 (zs.getD i 0)) := fun i hi => by rw [hbr2.cell (lt_of_cell (hx i hi))]; exact hx i hi
        have HX2 : Hid (∀ i, i < zs.length → w2.cell? (x.add i) = some (.int .i64 (zs.getD i 0))) := hx2
        have HO2 : Hid (w2.ownsRow w.heap.size 3 1 (.slice (some ⟨g', 0, none⟩) (flat (rs.take k)).length c') (flat (rs.take k)).length ((flat (rs.take k)).map (Value.int .i64))) := hO2.1
        clear hO2 HW hx hx2
        go_wp2_with (at_builtin; refine wpList_append_own _ rfl _ _ 24 rfl w.heap.size 3 i0 (.int .i64 0) 1 8 Try.underlying24 hi hz0 hz1 hz2 rfl (by decide) _ _ _ rfl HO2.out x zs.length rc (zs.map (Value.int .i64)) rfl ?c0 ?c1 ?c2 ?c3 ?c4 ?c5 ?_)
        case c0 => simp
        case c1 =>
          intro j u hj
          have hjl : j < zs.length := by have := (List.getElem?_eq_some_iff.1 hj).1; simpa using this
          rw [HX2.out j hjl, ← hj]
          simp [List.getD, hjl]
        case c2 => intro u hu; obtain ⟨z, _, rfl⟩ := List.mem_map.1 hu; rfl
        case c3 => unfold maxLen; omega
        case c4 => omega
        case c5 => omega
        intro v' w3 hown3 hg3 hnil
        have hbr3 := hbr2.grown hg3 (by omega) (fun j hj => (HO2.out.lt j hj).1)
        have hform : ∃ g3 c3, v' = .slice (some ⟨g3, 0, none⟩) (flat (rs.take (k + 1))).length c3 := by
          rcases hown3.2 with ⟨h0, _⟩ | ⟨g3, c3, cur, h0, _⟩
          · exact (hnil h0).elim
          · exact ⟨g3, c3, by rw [h0, hts.out, List.length_append]⟩
        obtain ⟨g3, c3, hv3⟩ := hform
        have H3 : Hid (Owns w.heap.size w3 (.slice (some ⟨g3, 0, none⟩) (flat (rs.take (k + 1))).length c3) (flat (rs.take (k + 1)))) := by
          refine ⟨?_, g3, c3, rfl⟩
          rw [← hv3, hts.out, List.map_append, List.length_append]; exact hown3
        rw [hv3]
        clear hown3 hg3 hnil hv3 HO2 HX2
        go_wp2
        go_roundw
        case rel => exact ⟨k + 1, g3, c3, by omega, by go_num, rfl, H3.out, hbr3⟩
        case measure => simp [intOf]; omega
    · have hkn : k = rs.length := by omega
      have HO : Hid (Owns w.heap.size wr (.slice (some ⟨g', 0, none⟩) (flat (rs.take k)).length c') (flat rs)) := by
        have h := hown
        have e : flat (rs.take k) = flat rs := by rw [hkn, List.take_length]
        unfold Hid
        rw [e] at h ⊢
        exact h
      clear hown hkn
      go_wp2_with fail
      refine (sort16 w.heap.size _ (flat rs) wr HO.out (by omega) hbr.size).mono ?_
      rintro e w2 ⟨rfl, ho2, hb2⟩
      go_wp2
      go_ret
      exact ⟨_, rfl, ho2, hbr.trans hb2⟩

set_option maxHeartbeats 400000 in
/-- policy.ZZlinesOfRepaid(zzToLoans(ls)): the loans' lines, sorted, in memory of the call's own. -/
theorem repaid6 (g : Nat) (rs : List Row) (w : World) (hm : rs.length ≤ 4097) (hf : (flat rs).length ≤ 4097) (hL : LoansIs w g (fun j => (rs.getD j nilRow).v) rs.length) (hr : ∀ j, j < rs.length → RowIs w (rs.getD j nilRow)) :
    Calls Try.prog 6 #[.slice (some ⟨g, 0, none⟩) rs.length rs.length] w fun e w' => ∃ v, e = .returned v ∧ Owns w.heap.size w' v (srt (flat rs)) ∧ RowKit.Below w.heap.size w w' := by
  have H := lines14 g rs w hm hf hL hr
  have HH : Hid (Calls Try.prog 14 #[.slice (some ⟨g, 0, none⟩) rs.length rs.length, .func (.func 15) #[] #[]] w fun e w' => ∃ v, e = .returned v ∧ Owns w.heap.size w' v (srt (flat rs)) ∧ RowKit.Below w.heap.size w w') := H
  clear H hL hr
  go_enter Try.func6, Try.ntmps6
  go_wp2_with fail
  refine Calls.mono HH.out ?_
  rintro e w2 ⟨v, rfl, ho, hb⟩
  go_wp2
  go_ret
  exact ⟨v, rfl, ho, hb⟩
end Go.Proofs.Qxb6616045a.Ln
