import Derived.Test.Qxb6616008aReveal
namespace Go.Proofs.Qxb6616008a.Pos
open Go.RowKit

theorem PendIs.bel {w w' : World} {a : Option Addr} {rs : List Rec} (h : PendIs w a rs) (hB : Below w.heap.size w w') : PendIs w' a rs := h.below hB h.lt

set_option maxHeartbeats 4000000 in
theorem afterWalk (fi fo ti to : Int) (a : Option Addr) (cap : Nat) (rs : List Rec) (w : World) (hm : rs.length ≤ 9223372036854775807) (hp : PendIs w a rs) :
    Calls Try.prog 3 #[.int .i64 fi, .int .i64 fo, .slice a rs.length cap, .int .i64 ti, .int .i64 to] w fun e w' => e = .returned (.bool true) ∧ Below w.heap.size w w' := by
  have HP : Hid (PendIs w a rs) := hp
  clear hp
  by_cases hbig : rs.length ≤ 16384
  case neg =>
    clear HP
    cases hd : decide (rs.length ≤ 1048576) with
    | false =>
      go_enter Try.func3, Try.ntmps3
      go_wp2_with fail
      refine (bytes7 fi fo ti to a rs.length cap w hm).mono ?_
      rintro e w' ⟨rfl, rfl⟩
      rw [hd]
      go_wp2
      go_ret
      exact ⟨rfl, Below.refl _ _⟩
    | true =>
      go_enter Try.func3, Try.ntmps3
      go_wp2_with fail
      refine (bytes7 fi fo ti to a rs.length cap w hm).mono ?_
      rintro e w' ⟨rfl, rfl⟩
      rw [hd]
      go_wp2
      go_ret
      exact ⟨rfl, Below.refl _ _⟩
  have hd : decide (rs.length ≤ 1048576) = true := by simp; omega
  go_enter Try.func3, Try.ntmps3
  go_wp2_with fail
  refine (bytes7 fi fo ti to a rs.length cap w hm).mono ?_
  rintro e w' ⟨rfl, hw'⟩
  subst w'
  rw [hd]
  clear hd
  have hd2 : decide ((16384 : Int) < (rs.length : Int)) = false := by simp; omega
  go_wp2_with fail
  refine (reach8 fi fo a rs.length cap rs _ rfl hm HP.out).mono ?_
  rintro e w1 ⟨⟨v1, rfl, hv1⟩, hb1⟩
  cases v1 with
  | false =>
    clear hv1
    go_wp2
    go_ret
    exact ⟨rfl, hb1⟩
  | true =>
  have HO : Hid (Ordered rs) := hv1 rfl
  clear hv1
  replace HP : Hid (PendIs w1 a rs) := HP.out.bel hb1
  go_wp2_with fail
  refine (target9 fi fo ti to a rs.length cap rs _ rfl hm HP.out).mono ?_
  rintro e w2 ⟨⟨v2, rfl, hv2⟩, hb2⟩
  have s1 := hb1.size
  replace HP : Hid (PendIs w2 a rs) := HP.out.bel hb2
  replace hb2 := hb1.trans (hb2.mono s1)
  clear hb1
  cases v2 with
  | false =>
    clear hv2
    go_wp2
    go_ret
    exact ⟨rfl, hb2⟩
  | true =>
  clear hv2
  go_wp2_with fail
  refine (seen10 fi fo a rs.length cap rs _ rfl hm HP.out).mono ?_
  rintro e w3 ⟨rfl, q3, hw3⟩
  replace hb2 : Below w.heap.size w w3 := by rw [hw3]; exact belowN hb2 q3
  replace HP : Hid (PendIs w3 a rs) := by rw [hw3]; exact HP.out.drewN q3
  clear hw3
  generalize hbf : seen fi fo rs = bf
  obtain ⟨bi, bo⟩ := bf
  have HBF : Hid (seen fi fo rs = (bi, bo)) := hbf
  clear hbf
  simp only
  go_wp2_with fail
  refine (seen10 ti to a rs.length cap rs _ rfl hm HP.out).mono ?_
  rintro e w4 ⟨rfl, q4, hw4⟩
  replace hb2 : Below w.heap.size w w4 := by rw [hw4]; exact belowN hb2 q4
  replace HP : Hid (PendIs w4 a rs) := by rw [hw4]; exact HP.out.drewN q4
  clear hw4
  generalize hsp : seen ti to rs = sp
  obtain ⟨si, so⟩ := sp
  have HSP : Hid (seen ti to rs = (si, so)) := hsp
  clear hsp
  simp only
  go_wp2_with fail
  refine (build11 fi fo a rs.length cap rs _ rfl hbig HP.out).mono ?_
  rintro e w5 ⟨b, rfl, hbl, hb5⟩
  have hl4 := hb5.size
  have s4 := hb2.size
  go_wp2_with fail
  refine (reveal12 w4.heap.size b fi fo ti to rs false w5 hbl hl4 (hbig)).mono ?_
  rintro e w6 ⟨rfl, hbl6, hb6⟩
  rw [HBF.out, HSP.out, Bool.false_or, rest_eq] at hbl6
  simp only at hbl6
  replace hb5 := hb5.trans hb6
  replace HP : Hid (PendIs w6 a rs) := HP.out.bel hb5
  replace hb2 : Below w.heap.size w w6 := hb2.trans (hb5.mono s4)
  clear hbl hb5 hb6 hl4
  obtain ⟨v, c, qs, H6⟩ := hbl6
  obtain ⟨av, cv, hv⟩ := H6.slice
  subst hv
  go_wp2_with fail
  refine (len13 b _ cv av w6 (cell_of H6.blk 10)).mono ?_
  rintro e w' ⟨rfl, hw'⟩
  subst w'
  have hgl := gone_le si so rs
  have HG : Hid ((∀ k, k < gone si so rs → pb (rs.getD k zero).ai (rs.getD k zero).ao si so = true) ∧ (∀ k, k < rs.length → gone si so rs ≤ k → pb (rs.getD k zero).ai (rs.getD k zero).ao si so = false)) := ⟨gone_lt si so rs, ordered_gone si so rs HO.out⟩
  have HD : Hid (∀ j, (rs.drop (gone si so rs)).getD j zero = rs.getD (gone si so rs + j) zero) := fun j => by simp [List.getD]
  rw [List.length_drop] at *
  generalize hm0 : gone si so rs = m at *
  clear hm0
  go_wp2
  go_loopw [17, 18] (fun j i wr => ∃ k : Nat, k ≤ rs.length ∧ i = .int .i64 k ∧ j = .int .i64 ((k - m : Nat) : Int) ∧ Below w6.heap.size w6 wr) (fun _ i _ => rs.length - (intOf i).toNat)
  case atStart => exact ⟨0, Nat.zero_le _, rfl, by simp, Below.refl _ _⟩
  case round =>
    obtain ⟨k, hk, rfl, rfl, hbr⟩ := hrel
    have Hr := H6.kept hbr.block
    replace HP : Hid (PendIs wr a rs) := HP.out.bel hbr
    by_cases hlt : k < rs.length
    · have hkz : (k : Int) < (rs.length : Int) := by omega
      obtain ⟨blk, off, rfl, c0, c1, c2, c3, c4⟩ := HP.out k (hlt)
      by_cases hkm : k < m
      · have hpb := HG.out.1 k hkm
        generalize rs.getD k zero = r at *
        have HH : Hid (Bl w4.heap.size wr b ti to (rs.drop m) (pb bi bo si so) (.slice av (rs.length - m) cv) c qs) := Hr
        clear Hr c2 c3 c4
        go_wp2
        go_quiet ((go_at_call 14; exact Calls.quiet_of_same (pos14' _ _ _ _ _ hpb)))
        go_wp2
        go_roundw
        case rel => exact ⟨k + 1, by omega, by go_num, by rw [show k - m = 0 by omega, show k + 1 - m = 0 by omega], belowN hbr _⟩
        case measure => simp [intOf]; omega
      · have hpb := HG.out.2 k hlt (by omega)
        have hjl : k - m < (rs.drop m).length := by rw [List.length_drop]; omega
        obtain ⟨g, cap', e, hgj⟩ := Hr.at_ (k - m) hjl
        have hrj := (Hr.recs (k - m) hjl).2
        rw [HD.out, show m + (k - m) = k by omega] at hrj
        simp only [List.length_drop, Value.slice.injEq, true_and] at e
        obtain ⟨rfl, rfl⟩ := e
        have b10 : wr.cell? ⟨b, 10, none⟩ = some (.slice (some ⟨g, 0, none⟩) (rs.length - m) cv) := cell_of Hr.blk 10
        generalize qs.getD (k - m) 0 = q at hgj hrj
        generalize rs.getD k zero = r at *
        have HR1 : Hid (wr.heap[q]? = some (.cells (recCells r) 93)) := hrj
        have HH : Hid (Bl w4.heap.size wr b ti to (rs.drop m) (pb bi bo si so) (.slice (some ⟨g, 0, none⟩) (rs.length - m) cv) c qs) := Hr
        clear Hr hrj
        have hjz : ((k - m : Nat) : Int) < ((rs.length - m : Nat) : Int) := by omega
        go_wp2
        go_quiet ((go_at_call 14; exact Calls.quiet_of_same (pos14' _ _ _ _ _ hpb)))
        replace hbr := belowN hbr nq
        replace HR1 : Hid ((wr.drewN nq).heap[q]? = some (.cells (recCells r) 93)) := HR1
        replace b10 : (wr.drewN nq).cell? _ = _ := b10
        replace hgj : (wr.drewN nq).cell? _ = _ := hgj
        replace c0 : (wr.drewN nq).cell? _ = _ := c0
        replace c1 : (wr.drewN nq).cell? _ = _ := c1
        replace c2 : (wr.drewN nq).cell? _ = _ := c2
        replace c3 : (wr.drewN nq).cell? _ = _ := c3
        replace c4 : (wr.drewN nq).cell? _ = _ := c4
        clear HH HP
        generalize wr.drewN nq = w7 at *
        go_wp2_with fail
        refine (is15 b g (rs.length - m) cv (k - m) q w7 r b10 hgj HR1.out (by omega)).mono ?_
        rintro e w8 ⟨rfl, hb8⟩
        replace hbr := hbr.trans (hb8.mono hbr.size)
        clear hb8 b10 hgj HR1 c0 c1 c2 c3 c4
        go_wp2
        go_roundw
        case rel => exact ⟨k + 1, by omega, by go_num, by rw [show k + 1 - m = k - m + 1 by omega]; go_num, hbr⟩
        case measure => simp [intOf]; omega
    · have hkn : k = rs.length := by omega
      have hjn : (((k - m : Nat) : Int) != ((rs.length - m : Nat) : Int)) = false := by rw [hkn]; simp
      have f8 : wr.cell? ⟨b, 8, none⟩ = some (.int .i64 ti) := cell_of Hr.blk 8
      have f9 : wr.cell? ⟨b, 9, none⟩ = some (.int .i64 to) := cell_of Hr.blk 9
      have f11 : wr.cell? ⟨b, 11, none⟩ = some c := cell_of Hr.blk 11
      have hsig := Hr.sig
      clear Hr hkn
      go_wp2_with fail
      refine (flushedI16 b ti wr f8).mono ?_
      rintro e w' ⟨rfl, hw'⟩
      subst w'
      go_wp2_with fail
      refine (flushedO17 b to wr f9).mono ?_
      rintro e w' ⟨rfl, hw'⟩
      subst w'
      go_wp2_with fail
      cases hpb : pb bi bo si so with
      | true =>
        rw [hpb] at hsig
        have hc : c = .chan none := hsig
        subst hc
        refine (fired18n b wr f11).mono ?_
        rintro e w' ⟨rfl, hw'⟩
        subst w'
        clear hsig
        go_wp2_with fail
        refine (pos14' _ _ _ _ _ hpb).mono ?_
        rintro e w' ⟨rfl, hw'⟩
        subst w'
        go_wp2
        go_ret
        exact ⟨rfl, hb2.trans (hbr.mono hb2.size)⟩
      | false =>
        rw [hpb] at hsig
        obtain ⟨ch, _, hc, _⟩ : ∃ ch, w4.heap.size ≤ ch ∧ c = .chan (some ch) ∧ wr.heap[ch]? = some (.chan 0 #[] false 0 0 false) := hsig
        subst hc
        refine (fired18s b ch wr f11).mono ?_
        rintro e w' ⟨rfl, hw'⟩
        subst w'
        go_wp2_with fail
        refine (pos14' _ _ _ _ _ hpb).mono ?_
        rintro e w' ⟨rfl, hw'⟩
        subst w'
        go_wp2
        go_ret
        exact ⟨rfl, hb2.trans (hbr.mono hb2.size)⟩
end Go.Proofs.Qxb6616008a.Pos
