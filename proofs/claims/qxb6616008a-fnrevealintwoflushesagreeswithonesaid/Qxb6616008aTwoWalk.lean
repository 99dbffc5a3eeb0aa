import Derived.Test.Qxb6616008aAfterWalk
namespace Go.Proofs.Qxb6616008a.Pos
open Go.RowKit

theorem rest_len (si so : Int) (rs : List Rec) : (rest si so rs).length ≤ rs.length := by rw [rest_eq, List.length_drop]; omega

/-- The signal's cell, and what 'ZZbinlogFired' reads of it. -/
theorem firedBl {base b : Nat} {fi fo : Int} {rs : List Rec} {fired : Bool} {v c : Value} {qs : List Nat} {w : World} (H : Bl base w b fi fo rs fired v c qs) :
    Calls Try.prog 18 #[.pointer (some ⟨b, 0, none⟩)] w fun e w' => e = .returned (.bool fired) ∧ w' = w := by
  have f11 : w.cell? ⟨b, 11, none⟩ = some c := cell_of H.blk 11
  have hsig := H.sig
  cases fired with
  | true =>
    have hc : c = .chan none := hsig
    subst hc
    exact fired18n b w f11
  | false =>
    obtain ⟨ch, _, hc, _⟩ : ∃ ch, base ≤ ch ∧ c = .chan (some ch) ∧ w.heap[ch]? = some (.chan 0 #[] false 0 0 false) := hsig
    subst hc
    exact fired18s b ch w f11

/-- Behind both flushes. -/
theorem two_flushes (fi fo mi mo ti to : Int) (rs : List Rec) (h1 : pb mi mo fi fo = false) (h2 : pb ti to mi mo = false) :
    rest (seen ti to (rest (seen mi mo rs).1 (seen mi mo rs).2 rs)).1 (seen ti to (rest (seen mi mo rs).1 (seen mi mo rs).2 rs)).2 (rest (seen mi mo rs).1 (seen mi mo rs).2 rs) = rest (seen ti to rs).1 (seen ti to rs).2 rs ∧
    ((false || pb (seen fi fo rs).1 (seen fi fo rs).2 (seen mi mo rs).1 (seen mi mo rs).2) || pb (seen mi mo (rest (seen mi mo rs).1 (seen mi mo rs).2 rs)).1 (seen mi mo (rest (seen mi mo rs).1 (seen mi mo rs).2 rs)).2
      (seen ti to (rest (seen mi mo rs).1 (seen mi mo rs).2 rs)).1 (seen ti to (rest (seen mi mo rs).1 (seen mi mo rs).2 rs)).2) = pb (seen fi fo rs).1 (seen fi fo rs).2 (seen ti to rs).1 (seen ti to rs).2 := by
  rw [seen_rest ti to mi mo rs, seen_rest mi mo mi mo rs]
  refine ⟨rest_rest _ _ _ _ (seen_mono mi mo ti to h2 rs) rs, ?_⟩
  rw [Bool.false_or]
  exact moved _ _ _ _ _ _ (seen_mono fi fo mi mo h1 rs) (seen_mono mi mo ti to h2 rs)

set_option maxHeartbeats 4000000 in
theorem twoWalk (fi fo mi mo ti to : Int) (a : Option Addr) (cap : Nat) (rs : List Rec) (w : World) (hm : rs.length ≤ 9223372036854775807) (hp : PendIs w a rs) :
    Calls Try.prog 4 #[.int .i64 fi, .int .i64 fo, .slice a rs.length cap, .int .i64 mi, .int .i64 mo, .int .i64 ti, .int .i64 to] w fun e w' => e = .returned (.bool true) ∧ Below w.heap.size w w' := by
  have HP : Hid (PendIs w a rs) := hp
  clear hp
  by_cases hbig : rs.length ≤ 16384
  case neg =>
    clear HP
    cases hd : decide (rs.length ≤ 1048576) with
    | false =>
      go_enter Try.func4, Try.ntmps4
      go_wp2_with fail
      refine (bytes19 fi fo mi mo ti to a rs.length cap w hm).mono ?_
      rintro e w' ⟨rfl, rfl⟩
      rw [hd]
      go_wp2
      go_ret
      exact ⟨rfl, Below.refl _ _⟩
    | true =>
      go_enter Try.func4, Try.ntmps4
      go_wp2_with fail
      refine (bytes19 fi fo mi mo ti to a rs.length cap w hm).mono ?_
      rintro e w' ⟨rfl, rfl⟩
      rw [hd]
      go_wp2
      go_ret
      exact ⟨rfl, Below.refl _ _⟩
  have hd : decide (rs.length ≤ 1048576) = true := by simp; omega
  go_enter Try.func4, Try.ntmps4
  go_wp2_with fail
  refine (bytes19 fi fo mi mo ti to a rs.length cap w hm).mono ?_
  rintro e w' ⟨rfl, hw'⟩
  subst w'
  rw [hd]
  clear hd
  have hd2 : decide ((16384 : Int) < (rs.length : Int)) = false := by simp; omega
  go_wp2_with fail
  refine (reach8 fi fo a rs.length cap rs _ rfl hm HP.out).mono ?_
  rintro e w1 ⟨⟨v1, rfl, hv1⟩, hb1⟩
  clear hv1
  cases v1 with
  | false =>
    go_wp2
    go_ret
    exact ⟨rfl, hb1⟩
  | true =>
  replace HP : Hid (PendIs w1 a rs) := HP.out.bel hb1
  go_wp2_with fail
  refine (target9 fi fo mi mo a rs.length cap rs _ rfl hm HP.out).mono ?_
  rintro e w2 ⟨⟨v2, rfl, hv2⟩, hb2⟩
  have s1 := hb1.size
  replace HP : Hid (PendIs w2 a rs) := HP.out.bel hb2
  replace hb2 := hb1.trans (hb2.mono s1)
  clear hb1
  cases v2 with
  | false =>
    clear hv2
    go_wp2
    go_ret
    exact ⟨rfl, hb2⟩
  | true =>
  have HM : Hid (pb mi mo fi fo = false) := hv2 rfl
  clear hv2
  go_wp2_with fail
  refine (target9 fi fo ti to a rs.length cap rs _ rfl hm HP.out).mono ?_
  rintro e w3 ⟨⟨v3, rfl, hv3⟩, hb3⟩
  clear hv3
  have s2 := hb2.size
  replace HP : Hid (PendIs w3 a rs) := HP.out.bel hb3
  replace hb3 := hb2.trans (hb3.mono s2)
  clear hb2
  cases v3 with
  | false =>
    go_wp2
    go_ret
    exact ⟨rfl, hb3⟩
  | true =>
  cases hT : pb ti to mi mo with
  | true =>
    go_wp2_with fail
    refine (pos14' _ _ _ _ _ hT).mono ?_
    rintro e w' ⟨rfl, hw'⟩
    subst w'
    go_wp2
    go_ret
    exact ⟨rfl, hb3⟩
  | false =>
  go_wp2_with fail
  refine (pos14' _ _ _ _ _ hT).mono ?_
  rintro e w' ⟨rfl, hw'⟩
  subst w'
  have HT : Hid (pb ti to mi mo = false) := hT
  clear hT
  go_wp2_with fail
  refine (seen10 fi fo a rs.length cap rs _ rfl hm HP.out).mono ?_
  rintro e w4 ⟨rfl, q4, hw4⟩
  replace hb3 : Below w.heap.size w w4 := by rw [hw4]; exact belowN hb3 q4
  replace HP : Hid (PendIs w4 a rs) := by rw [hw4]; exact HP.out.drewN q4
  clear hw4
  go_wp2_with fail
  refine (seen10 ti to a rs.length cap rs _ rfl hm HP.out).mono ?_
  rintro e w5 ⟨rfl, q5, hw5⟩
  replace hb3 : Below w.heap.size w w5 := by rw [hw5]; exact belowN hb3 q5
  replace HP : Hid (PendIs w5 a rs) := by rw [hw5]; exact HP.out.drewN q5
  clear hw5
  have T2 : Hid _ := two_flushes fi fo mi mo ti to rs HM.out HT.out
  go_wp2_with fail
  cases hadv : pb (seen fi fo rs).1 (seen fi fo rs).2 (seen ti to rs).1 (seen ti to rs).2
  all_goals
    have HADV : Hid _ := hadv
    refine (pos14' _ _ _ _ _ hadv).mono ?_
    rintro e w' ⟨rfl, hw'⟩
    subst w'
    clear hadv
    go_wp2_with fail
    refine (build11 fi fo a rs.length cap rs _ rfl hbig HP.out).mono ?_
    rintro e w6 ⟨b, rfl, hbl, hb6⟩
    have l5 := hb6.size
    have s5 := hb3.size
    go_wp2_with fail
    refine (reveal12 w5.heap.size b fi fo mi mo rs false w6 hbl l5 hbig).mono ?_
    rintro e w7 ⟨rfl, hbl7, hb7⟩
    replace hb7 := hb6.trans hb7
    have l7 := hb7.size
    clear hbl hb6
    go_wp2_with fail
    refine (reveal12 w5.heap.size b mi mo ti to _ _ w7 hbl7 l7 (Nat.le_trans (rest_len _ _ _) hbig)).mono ?_
    rintro e w8 ⟨rfl, hbl8, hb8⟩
    rw [T2.out.1, T2.out.2, HADV.out] at hbl8
    replace hb8 := hb7.trans hb8
    have l8 := hb8.size
    clear hbl7 hb7
    replace HP : Hid (PendIs w8 a rs) := HP.out.bel hb8
    replace hb3 : Below w.heap.size w w8 := hb3.trans (hb8.mono s5)
    clear hb8
    go_wp2_with fail
    refine (build11 fi fo a rs.length cap rs _ rfl hbig HP.out).mono ?_
    rintro e w9 ⟨b', rfl, hbl, hb9⟩
    have l9 := hb9.size
    have s8 := hb3.size
    go_wp2_with fail
    refine (reveal12 w8.heap.size b' fi fo ti to rs false w9 hbl l9 hbig).mono ?_
    rintro e w10 ⟨rfl, hbl10, hb10⟩
    rw [Bool.false_or, HADV.out] at hbl10
    replace hb10 := hb9.trans hb10
    replace hbl8 := hbl8.below hb10
    replace hb3 : Below w.heap.size w w10 := hb3.trans (hb10.mono s8)
    clear hbl hb9 hb10 HP T2 HADV
    have hrl := rest_len (seen ti to rs).1 (seen ti to rs).2 rs
    generalize rest (seen ti to rs).1 (seen ti to rs).2 rs = rs' at *
    obtain ⟨v, c, qs, H⟩ := hbl8
    obtain ⟨v', c', qs', H'⟩ := hbl10
    obtain ⟨av, cv, hv⟩ := H.slice
    subst hv
    obtain ⟨av', cv', hv'⟩ := H'.slice
    subst hv'
    go_wp2_with fail
    refine (len13 b' _ cv' av' w10 (cell_of H'.blk 10)).mono ?_
    rintro e w' ⟨rfl, hw'⟩
    subst w'
    go_wp2_with fail
    refine (len13 b _ cv av w10 (cell_of H.blk 10)).mono ?_
    rintro e w' ⟨rfl, hw'⟩
    subst w'
    go_wp2
    go_loop [23] (fun i => ∃ k : Nat, k ≤ rs'.length ∧ i = .int .i64 k) (fun i => rs'.length - (intOf i).toNat)
    case atStart => exact ⟨0, Nat.zero_le _, rfl⟩
    case round =>
      obtain ⟨k, hk, rfl⟩ := hrel
      by_cases hlt : k < rs'.length
      · have hkz : (k : Int) < (rs'.length : Int) := by omega
        obtain ⟨g, cap1, e, hgj⟩ := H.at_ k hlt
        obtain ⟨g', cap1', e', hgj'⟩ := H'.at_ k hlt
        have hrj := (H.recs k hlt).2
        have hrj' := (H'.recs k hlt).2
        simp only [Value.slice.injEq, true_and] at e e'
        obtain ⟨rfl, rfl⟩ := e
        obtain ⟨rfl, rfl⟩ := e'
        have b10 : w10.cell? ⟨b, 10, none⟩ = some (.slice (some ⟨g, 0, none⟩) rs'.length cv) := cell_of H.blk 10
        have b10' : w10.cell? ⟨b', 10, none⟩ = some (.slice (some ⟨g', 0, none⟩) rs'.length cv') := cell_of H'.blk 10
        have SE : Hid (Calls Try.prog 20 #[.pointer (some ⟨b, 0, none⟩), .pointer (some ⟨b', 0, none⟩), .int .i64 k] w10 fun e w' => e = .returned (.bool true) ∧ w' = w10) := same20 b g rs'.length cv b' g' rs'.length cv' k (qs.getD k 0) (qs'.getD k 0) w10 (rs'.getD k zero) b10 hgj hrj hlt b10' hgj' hrj' hlt
        clear b10 b10' hgj hgj' hrj hrj'
        go_wp2_with fail
        refine Calls.mono SE.out ?_
        rintro e w' ⟨rfl, hw'⟩
        subst w'
        go_wp2
        go_round
        case rel => exact ⟨k + 1, by omega, by go_num⟩
        case measure => simp [intOf]; omega
      · go_wp2_with fail
        refine (flushedI16 b ti w10 (cell_of H.blk 8)).mono ?_
        rintro e w' ⟨rfl, hw'⟩
        subst w'
        go_wp2_with fail
        refine (flushedO17 b to w10 (cell_of H.blk 9)).mono ?_
        rintro e w' ⟨rfl, hw'⟩
        subst w'
        go_wp2_with fail
        refine (flushedI16 b' ti w10 (cell_of H'.blk 8)).mono ?_
        rintro e w' ⟨rfl, hw'⟩
        subst w'
        go_wp2_with fail
        refine (flushedO17 b' to w10 (cell_of H'.blk 9)).mono ?_
        rintro e w' ⟨rfl, hw'⟩
        subst w'
        go_wp2_with fail
        refine (firedBl H).mono ?_
        rintro e w' ⟨rfl, hw'⟩
        subst w'
        go_wp2_with fail
        refine (firedBl H').mono ?_
        rintro e w' ⟨rfl, hw'⟩
        subst w'
        go_wp2
        go_ret
        exact ⟨rfl, hb3⟩
end Go.Proofs.Qxb6616008a.Pos
