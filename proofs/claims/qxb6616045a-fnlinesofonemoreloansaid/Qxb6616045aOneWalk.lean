import Derived.Test.Qxb6616045aMore
namespace Go.Proofs.Qxb6616045a.Ln
open Go.RowKit

/-- The headers of 'grown' while the loop behind place p runs. -/
def hdr3 (rs : List Row) (pn nb m j : Nat) : Value :=
  if j < pn then (rs.getD j nilRow).v else if j = pn then .slice (some ⟨nb, 0, none⟩) 1 1 else if j < m + 1 then (rs.getD (j - 1) nilRow).v else .slice none 0 0

theorem heap_alloc_at {w : World} {o : Obj} {n : Nat} (h : n = w.heap.size) : (w.alloc o).heap[n]? = some o := by
  subst h
  show (w.heap.push o)[w.heap.size]? = _
  simp

def newRow (nb : Nat) (v : Int) : Row := ⟨some ⟨nb, 0, none⟩, 1, [v]⟩

theorem newRow_is {w : World} {nb : Nat} {v : Int} (h : w.cell? ⟨nb, 0, none⟩ = some (.int .i64 v)) : RowIs w (newRow nb v) := by
  refine Or.inr ⟨⟨nb, 0, none⟩, rfl, fun i hi => ?_⟩
  have : i = 0 := by simp [newRow] at hi; omega
  subst this
  simpa [newRow, Addr.add] using h

theorem hdr3_set (rs : List Row) (pn nb m j : Nat) (hm : pn ≤ m) : (if j = m + 1 then (rs.getD m nilRow).v else hdr3 rs pn nb m j) = hdr3 rs pn nb (m + 1) j := by
  unfold hdr3
  by_cases h1 : j = m + 1
  · subst h1
    rw [if_pos rfl, if_neg (by omega), if_neg (by omega), if_pos (by omega)]
    rfl
  · rw [if_neg h1]
    by_cases h2 : j < pn
    · rw [if_pos h2, if_pos h2]
    · rw [if_neg h2, if_neg h2]
      by_cases h3 : j = pn
      · rw [if_pos h3, if_pos h3]
      · rw [if_neg h3, if_neg h3]
        by_cases h4 : j < m + 1
        · rw [if_pos h4, if_pos (by omega)]
        · rw [if_neg h4, if_neg (by omega)]

theorem hdr3_done (rs : List Row) (pn nb : Nat) (v : Int) (hp : pn ≤ rs.length) (j : Nat) (hj : j < rs.length + 1) : hdr3 rs pn nb rs.length j = ((grown pn (newRow nb v) rs).getD j nilRow).v := by
  rw [grown_at pn (newRow nb v) rs hp j]
  unfold hdr3
  by_cases h2 : j < pn
  · rw [if_pos h2, if_pos h2]
  · rw [if_neg h2, if_neg h2]
    by_cases h3 : j = pn
    · rw [if_pos h3, if_pos h3]; rfl
    · rw [if_neg h3, if_neg h3, if_pos hj]

set_option maxRecDepth 100000 in
set_option maxHeartbeats 4000000 in
theorem oneWalk (a : Option Addr) (cap : Nat) (p v : Int) (rs : List Row) (w : World) (hm : rs.length ≤ 9223372036854775807) (hl : ∀ j, j < rs.length → (rs.getD j nilRow).zs.length ≤ 9223372036854775807) (hp : LsIs w a rs) :
    Calls Try.prog 4 #[.slice a rs.length cap, .int .i64 p, .int .i64 v] w fun e w' => e = .returned (.bool true) ∧ Below w.heap.size w w' := by
  have HP : Hid (LsIs w a rs) := hp
  have HL : Hid (∀ j, j < rs.length → (rs.getD j nilRow).zs.length ≤ 9223372036854775807) := hl
  clear hp hl
  by_cases hbig : rs.length < 4096
  case neg =>
    go_enter Try.func4, Try.ntmps4
    go_wp2_with fail
    refine (bytes12 a cap p v rs w hm HL.out HP.out).mono ?_
    rintro e w' ⟨b, rfl, hw', _⟩
    subst w'
    cases b with
    | false =>
      go_wp2
      go_ret
      exact ⟨rfl, Below.refl _ _⟩
    | true =>
      go_wp2
      go_ret
      exact ⟨rfl, Below.refl _ _⟩
  have hd : decide ((4096 : Int) ≤ (rs.length : Int)) = false := by simp; omega
  go_enter Try.func4, Try.ntmps4
  go_wp2_with fail
  refine (bytes12 a cap p v rs w hm HL.out HP.out).mono ?_
  rintro e w' ⟨b, rfl, hw', hb⟩
  subst w'
  cases b with
  | false =>
    clear hb
    go_wp2
    go_ret
    exact ⟨rfl, Below.refl _ _⟩
  | true =>
  have HS : Hid (∀ j, j < rs.length → (rs.getD j nilRow).zs.length ≤ 1048576) := hb rfl
  clear hb HL
  go_wp2
  go_loop [7, 27] (fun t i => ∃ k : Nat, k ≤ rs.length ∧ i = .int .i64 k ∧ t = .int .i64 ((flat (rs.take k)).length : Nat) ∧ (flat (rs.take k)).length < 4096) (fun _ i => rs.length - (intOf i).toNat)
  case atStart => exact ⟨0, Nat.zero_le _, rfl, rfl, by simp [flat]⟩
  case round =>
    obtain ⟨k, hk, rfl, rfl, ht⟩ := hrel
    by_cases hlt : k < rs.length
    · obtain ⟨blk, off, rfl, c0, _⟩ := HP.out k hlt
      have hs := HS.out k hlt
      have hft : (flat (rs.take (k + 1))).length = (flat (rs.take k)).length + (rs.getD k nilRow).zs.length := by rw [flat_take rs k hlt, List.length_append]
      have HFT : Hid ((flat (rs.take (k + 1))).length = (flat (rs.take k)).length + (rs.getD k nilRow).zs.length) := hft
      clear hft
      generalize rs.getD k nilRow = r at *
      unfold Row.v at c0
      have hkz : (k : Int) < (rs.length : Int) := by omega
      by_cases hov : 4096 ≤ (flat (rs.take k)).length + r.zs.length
      · go_wp2
        go_ret
        exact ⟨rfl, Below.refl _ _⟩
      · go_wp2
        go_round
        case rel => exact ⟨k + 1, by omega, by go_num, by rw [HFT.out]; go_num, by rw [HFT.out]; omega⟩
        case measure => simp [intOf]; omega
    · have hkn : k = rs.length := by omega
      rw [hkn, List.take_length] at ht ⊢
      clear hkn hlt hk
      by_cases hp0 : p < 0
      · go_wp2
        go_ret
        exact ⟨rfl, Below.refl _ _⟩
      by_cases hpn : (rs.length : Int) < p
      · go_wp2
        go_ret
        exact ⟨rfl, Below.refl _ _⟩
      obtain ⟨pn, rfl⟩ := Int.eq_ofNat_of_zero_le (show 0 ≤ p by omega)
      have hpl : pn ≤ rs.length := by omega
      have hd2 : decide ((pn : Int) < 0) = false := by simp
      have hd3 : decide ((rs.length : Int) < (pn : Int)) = false := by simp; omega
      obtain ⟨i24, hi, hz0, hz1, hz2⟩ := info_parts info24
      go_wp2_with (at_make; refine wpList_make_full _ rfl _ _ 22 rfl w.heap.size 24 i24 (.slice none 0 0) 1 Try.underlying22 hi hz0 hz1 .i64 .i64 _ _ (rs.length + 1) rfl rfl ?c0 ?c00 ?c1 ?c2 ?c3 ?_)
      case c1 => omega
      case c2 => unfold maxLen; omega
      intro w1 hown hg
      have hb1 : Below w.heap.size w w1 := (Below.refl _ _).grown hg (Nat.le_refl _) (fun k hk => by cases hk)
      have HH : Hid (HdrsIs w1 w.heap.size (rs.length + 1) (fun j => if j < 0 then (rs.getD j nilRow).v else .slice none 0 0)) := (HdrsIs.made hown).congr (fun j _ => by rw [if_neg (Nat.not_lt_zero _)])
      clear hown hg
      go_wp2
      go_loopw [10] (fun i wr => ∃ k : Nat, k ≤ pn ∧ i = .int .i64 k ∧ Hid (HdrsIs wr w.heap.size (rs.length + 1) (fun j => if j < k then (rs.getD j nilRow).v else .slice none 0 0)) ∧ Below w.heap.size w wr) (fun i _ => pn - (intOf i).toNat)
      case atStart => exact ⟨0, Nat.zero_le _, rfl, HH, hb1⟩
      case round =>
        clear HH hb1
        obtain ⟨k, hk, rfl, HH, hbr⟩ := hrel
        by_cases hlt : k < pn
        · have hkz : (k : Int) < (pn : Int) := by omega
          have hkl : k < rs.length := by omega
          have hkz2 : (k : Int) < (rs.length : Int) := by omega
          obtain ⟨blk, off, rfl, c0, _⟩ := HP.out k hkl
          have d0 := hbr.cell (lt_of_cell c0)
          rw [c0] at d0
          have e0 := HH.out.cell k (by omega)
          have f0 := HH.out.frozen k
          have hS := HH.out.set k (rs.getD k nilRow).v
          have HS2 : Hid (HdrsIs (wr.setCell ⟨w.heap.size, k, none⟩ (rs.getD k nilRow).v) w.heap.size (rs.length + 1) (fun j => if j < k + 1 then (rs.getD j nilRow).v else .slice none 0 0)) := by
            refine hS.congr fun j _ => ?_
            show (if j = k then _ else if j < k then _ else _) = _
            by_cases h1 : j = k
            · subst h1; rw [if_pos rfl, if_pos (by omega)]
            · rw [if_neg h1]
              by_cases h2 : j < k
              · rw [if_pos h2, if_pos (by omega)]
              · rw [if_neg h2, if_neg (by omega)]
          rw [if_neg (by omega)] at e0
          clear hS HH c0
          generalize rs.getD k nilRow = r at *
          unfold Row.v at d0 HS2
          go_wp2
          go_roundw
          case rel => exact ⟨k + 1, by omega, by go_num, HS2, hbr.setCell (Nat.le_refl _) _⟩
          case measure => simp [intOf]; omega
        · have hkp : k = pn := by omega
          rw [hkp] at HH
          clear hkp hk
          have hpz : (pn : Int) < (rs.length : Int) + 1 := by omega
          have hs1 := hbr.size
          have lgg := HH.out.lt
          have e0 := HH.out.cell pn (by omega)
          rw [if_neg (by omega)] at e0
          have f0 := HH.out.frozen pn
          go_wp2
          have hH2 := HH.out.set pn (.slice (some ⟨wr.heap.size, 0, none⟩) 1 1)
          have HH2 : Hid (HdrsIs ((wr.setCell ⟨w.heap.size, pn, none⟩ (.slice (some ⟨wr.heap.size, 0, none⟩) 1 1)).alloc (.cells #[.int .i64 v] 3)) w.heap.size (rs.length + 1) (hdr3 rs pn wr.heap.size pn)) := by
            refine (hH2.kept (Below.heap_alloc _ _ _ (by simpa [World.setCell] using lgg))).congr fun j _ => ?_
            show (if j = pn then _ else if j < pn then _ else _) = _
            unfold hdr3
            by_cases h1 : j = pn
            · subst h1; rw [if_pos rfl, if_neg (by omega), if_pos rfl]
            · rw [if_neg h1]
              by_cases h2 : j < pn
              · rw [if_pos h2, if_pos h2]
              · rw [if_neg h2, if_neg h2, if_neg h1, if_neg (by omega)]
          have hn0 : ((wr.setCell ⟨w.heap.size, pn, none⟩ (.slice (some ⟨wr.heap.size, 0, none⟩) 1 1)).alloc (.cells #[.int .i64 v] 3)).cell? ⟨wr.heap.size, 0, none⟩ = some (.int .i64 v) := by
            have hb : ((wr.setCell ⟨w.heap.size, pn, none⟩ (.slice (some ⟨wr.heap.size, 0, none⟩) 1 1)).alloc (.cells #[.int .i64 v] 3)).heap[wr.heap.size]? = some (.cells #[.int .i64 v] 3) := by
              exact heap_alloc_at (by simp [World.setCell])
            rw [cell_of hb]; rfl
          have hb2 : Below w.heap.size w ((wr.setCell ⟨w.heap.size, pn, none⟩ (.slice (some ⟨wr.heap.size, 0, none⟩) 1 1)).alloc (.cells #[.int .i64 v] 3)) := (hbr.setCell (Nat.le_refl _) _).alloc (by simpa [World.setCell] using hs1) _
          clear hH2 HH e0 f0 hbr
          generalize (wr.setCell ⟨w.heap.size, pn, none⟩ (.slice (some ⟨wr.heap.size, 0, none⟩) 1 1)).alloc (.cells #[.int .i64 v] 3) = w2 at *
          generalize wr.heap.size = nb at *
          go_loopw [11] (fun i wr => ∃ m : Nat, pn ≤ m ∧ m ≤ rs.length ∧ i = .int .i64 m ∧ Hid (HdrsIs wr w.heap.size (rs.length + 1) (hdr3 rs pn nb m)) ∧ Hid (wr.cell? ⟨nb, 0, none⟩ = some (.int .i64 v)) ∧ Below w.heap.size w wr) (fun i _ => rs.length - (intOf i).toNat)
          case atStart => exact ⟨pn, Nat.le_refl _, hpl, rfl, HH2, hn0, hb2⟩
          case round =>
            clear HH2 hn0 hb2
            obtain ⟨m, hpm, hml, rfl, HH, HN, hbr⟩ := hrel
            by_cases hmt : m < rs.length
            · have hkz : (m : Int) < (rs.length : Int) := by omega
              obtain ⟨blk, off, rfl, c0, _⟩ := HP.out m hmt
              have d0 := hbr.cell (lt_of_cell c0)
              rw [c0] at d0
              have e0 := HH.out.cell (m + 1) (by omega)
              have f0 := HH.out.frozen (m + 1)
              have HS2 : Hid (HdrsIs (wr.setCell ⟨w.heap.size, m + 1, none⟩ (rs.getD m nilRow).v) w.heap.size (rs.length + 1) (hdr3 rs pn nb (m + 1))) := (HH.out.set (m + 1) (rs.getD m nilRow).v).congr fun j _ => hdr3_set rs pn nb m j hpm
              have HN2 : Hid ((wr.setCell ⟨w.heap.size, m + 1, none⟩ (rs.getD m nilRow).v).cell? ⟨nb, 0, none⟩ = some (.int .i64 v)) := by
                unfold Hid
                rw [World.cell?_of_block (w := wr) (Below.heap_setCell _ _ _ _ (show nb ≠ w.heap.size by omega))]; exact HN.out
              clear HH HN c0
              generalize hdr3 rs pn nb m (m + 1) = u at e0
              generalize rs.getD m nilRow = r at *
              unfold Row.v at d0 HS2 HN2
              go_wp2
              go_roundw
              case rel => exact ⟨m + 1, by omega, by omega, by go_num, HS2, HN2, hbr.setCell (Nat.le_refl _) _⟩
              case measure => simp [intOf]; omega
            · rename World => w5
              have hmn : m = rs.length := by omega
              rw [hmn] at HH
              have HG : Hid (LsIs w5 (some ⟨w.heap.size, 0, none⟩) (grown pn (newRow nb v) rs)) := by
                refine HdrsIs.ls ?_ ?_
                · rw [grown_length pn _ rs hpl]
                  exact HH.out.congr fun j hj => hdr3_done rs pn nb v hpl j hj
                · intro j hj
                  rw [grown_length pn _ rs hpl] at hj
                  rw [grown_at pn _ rs hpl j]
                  by_cases h2 : j < pn
                  · rw [if_pos h2]
                    obtain ⟨_, _, _, _, h⟩ := HP.out j (by omega)
                    exact h.below hbr
                  · rw [if_neg h2]
                    by_cases h3 : j = pn
                    · rw [if_pos h3]; exact newRow_is HN.out
                    · rw [if_neg h3]
                      obtain ⟨_, _, _, _, h⟩ := HP.out (j - 1) (by omega)
                      exact h.below hbr
              replace HP : Hid (LsIs w5 a rs) := HP.out.below hbr
              have hsr := hbr.size
              clear HH HN hmn
              go_wp2_with (at_make; refine wpList_make_full _ rfl _ _ 22 rfl w5.heap.size 24 i24 (.slice none 0 0) 1 Try.underlying22 hi hz0 hz1 .i64 .i64 _ _ rs.length rfl rfl rfl rfl ?d1 ?d2 ?d3 ?_)
              case d1 => rw [hz2]; omega
              case d2 => unfold maxLen; omega
              case d3 => exact Nat.le_refl _
              intro w3 hown hg
              have hb3 : Below w5.heap.size w5 w3 := (Below.refl _ _).grown hg (Nat.le_refl _) (fun k hk => by cases hk)
              have HH : Hid (HdrsIs w3 w5.heap.size rs.length (fun j => if rs.length - 1 - j < 0 then (rs.getD (rs.length - 1 - j) nilRow).v else .slice none 0 0)) := (HdrsIs.made hown).congr (fun j _ => by rw [if_neg (Nat.not_lt_zero _)])
              clear hown hg
              go_wp2
              go_loopw [89] (fun i wr => ∃ k : Nat, k ≤ rs.length ∧ i = .int .i64 k ∧ Hid (HdrsIs wr w5.heap.size rs.length (fun j => if rs.length - 1 - j < k then (rs.getD (rs.length - 1 - j) nilRow).v else .slice none 0 0)) ∧ Below w5.heap.size w5 wr) (fun i _ => rs.length - (intOf i).toNat)
              case atStart => exact ⟨0, Nat.zero_le _, rfl, HH, hb3⟩
              case round =>
                clear HH hb3
                obtain ⟨k, hk, rfl, HH, hb4⟩ := hrel
                by_cases hlt : k < rs.length
                · have hkz : (k : Int) < (rs.length : Int) := by omega
                  obtain ⟨blk, off, rfl, c0, _⟩ := HP.out k hlt
                  have d0 := hb4.cell (lt_of_cell c0)
                  rw [c0] at d0
                  have e0 := HH.out.cell (rs.length - 1 - k) (by omega)
                  have f0 := HH.out.frozen (rs.length - 1 - k)
                  have HS2 : Hid (HdrsIs (wr.setCell ⟨w5.heap.size, rs.length - 1 - k, none⟩ (rs.getD k nilRow).v) w5.heap.size rs.length (fun j => if rs.length - 1 - j < k + 1 then (rs.getD (rs.length - 1 - j) nilRow).v else .slice none 0 0)) := by
                    refine (HH.out.set (rs.length - 1 - k) (rs.getD k nilRow).v).congr fun j hj => ?_
                    show (if j = rs.length - 1 - k then _ else if rs.length - 1 - j < k then _ else _) = _
                    by_cases h1 : j = rs.length - 1 - k
                    · rw [if_pos h1, if_pos (by omega), show rs.length - 1 - j = k by omega]
                    · rw [if_neg h1]
                      by_cases h2 : rs.length - 1 - j < k
                      · rw [if_pos h2, if_pos (by omega)]
                      · rw [if_neg h2, if_neg (by omega)]
                  rw [if_neg (by omega)] at e0
                  clear HH c0
                  generalize rs.getD k nilRow = r at *
                  unfold Row.v at d0 HS2
                  go_wp2
                  go_roundw
                  case rel => exact ⟨k + 1, by omega, by go_num, HS2, hb4.setCell (Nat.le_refl _) _⟩
                  case measure => simp [intOf]; omega
                · rename World => w6
                  have hkn : k = rs.length := by omega
                  rw [hkn] at HH
                  have HB : Hid (LsIs w6 (some ⟨w5.heap.size, 0, none⟩) rs.reverse) := by
                    refine HdrsIs.ls ?_ ?_
                    · rw [List.length_reverse]
                      refine HH.out.congr fun j hj => ?_
                      show (if rs.length - 1 - j < rs.length then _ else _) = _
                      rw [if_pos (by omega), rev_at rs j hj]
                    · intro j hj
                      rw [List.length_reverse] at hj
                      rw [rev_at rs j hj]
                      obtain ⟨_, _, _, _, h⟩ := HP.out (rs.length - 1 - j) (by omega)
                      exact h.below hb4
                  replace HP : Hid (LsIs w6 a rs) := HP.out.below hb4
                  replace HG : Hid (LsIs w6 (some ⟨w.heap.size, 0, none⟩) (grown pn (newRow nb v) rs)) := HG.out.below hb4
                  have hb6 : Below w.heap.size w w6 := hbr.trans (hb4.mono hsr)
                  clear HH hkn hb4 hbr
                  have hgl := grown_length pn (newRow nb v) rs hpl
                  have hgf : (flat (grown pn (newRow nb v) rs)).length ≤ 4097 := by
                    have := (grown_flat pn (newRow nb v) rs).length_eq
                    rw [List.length_append, show (newRow nb v).zs.length = 1 from rfl] at this; omega
                  have hrf : (flat rs.reverse).length ≤ 4097 := by have := (rev_flat rs).length_eq; omega
                  have HS1 : Hid (srt (flat (grown pn (newRow nb v) rs)) = ins v (srt (flat rs))) := srt_ins v (flat rs) _ (grown_flat pn (newRow nb v) rs)
                  have HS2 : Hid (srt (flat rs.reverse) = srt (flat rs)) := srt_of_perm (rev_flat rs)
                  generalize hgr : grown pn (newRow nb v) rs = gr at *
                  clear hgr
                  have hs6 := hb6.size
                  go_wp2_with fail
                  refine (loans7 a cap rs w6 (by omega) HP.out).mono ?_
                  rintro e w7 ⟨g1, rfl, hg1, hL1, hb7⟩
                  go_wp2_with fail
                  refine (repaid6 g1 rs w7 (by omega) (by omega) hL1 (fun j hj => by obtain ⟨_, _, _, _, h⟩ := HP.out j hj; exact h.below hb7)).mono ?_
                  rintro e w8 ⟨v1, rfl, ho1, hb8⟩
                  have hb8' : Below w6.heap.size w6 w8 := hb7.trans (hb8.mono hb7.size)
                  replace HG : Hid (LsIs w8 (some ⟨w.heap.size, 0, none⟩) gr) := HG.out.below hb8'
                  replace HB : Hid (LsIs w8 (some ⟨w5.heap.size, 0, none⟩) rs.reverse) := HB.out.below hb8'
                  replace hb6 : Below w.heap.size w w8 := hb6.trans (hb8'.mono hs6)
                  have HO1 : Hid (Owns w7.heap.size w8 v1 (srt (flat rs))) := ho1
                  clear ho1 hL1 hb7 hb8 hb8' hs6 HP
                  have hs8 := hb6.size
                  go_wp2_with fail
                  have C2 := loans7 (some ⟨w.heap.size, 0, none⟩) (rs.length + 1) gr w8 (by omega) HG.out
                  rw [hgl] at C2
                  refine C2.mono ?_
                  clear C2
                  rintro e w9 ⟨g2, rfl, hg2, hL2, hb9⟩
                  go_wp2_with fail
                  have C3 := repaid6 g2 gr w9 (by omega) hgf (by rw [hgl]; exact hL2) (fun j hj => by obtain ⟨_, _, _, _, h⟩ := HG.out j hj; exact h.below hb9)
                  rw [hgl] at C3
                  refine C3.mono ?_
                  clear C3
                  rintro e w10 ⟨v2, rfl, ho2, hb10⟩
                  have hb10' : Below w8.heap.size w8 w10 := hb9.trans (hb10.mono hb9.size)
                  replace HB : Hid (LsIs w10 (some ⟨w5.heap.size, 0, none⟩) rs.reverse) := HB.out.below hb10'
                  replace hb6 : Below w.heap.size w w10 := hb6.trans (hb10'.mono hs8)
                  replace HO1 : Hid (Owns w7.heap.size w10 v1 (srt (flat rs))) := HO1.out.below hb10'
                  have HO2 : Hid (Owns w9.heap.size w10 v2 (srt (flat gr))) := ho2
                  clear ho2 hL2 hb9 hb10 hb10' hs8 HG
                  have hs10 := hb6.size
                  go_wp2_with fail
                  have C4 := loans7 (some ⟨w5.heap.size, 0, none⟩) rs.length rs.reverse w10 (by rw [List.length_reverse]; omega) HB.out
                  rw [List.length_reverse] at C4
                  refine C4.mono ?_
                  clear C4
                  rintro e w11 ⟨g3, rfl, hg3, hL3, hb11⟩
                  go_wp2_with fail
                  have C5 := repaid6 g3 rs.reverse w11 (by rw [List.length_reverse]; omega) hrf (by rw [List.length_reverse]; exact hL3) (fun j hj => by obtain ⟨_, _, _, _, h⟩ := HB.out j hj; exact h.below hb11)
                  rw [List.length_reverse] at C5
                  refine C5.mono ?_
                  clear C5
                  rintro e w12 ⟨v3, rfl, ho3, hb12⟩
                  have hb12' : Below w10.heap.size w10 w12 := hb11.trans (hb12.mono hb11.size)
                  replace hb6 : Below w.heap.size w w12 := hb6.trans (hb12'.mono hs10)
                  replace HO1 : Hid (Owns w7.heap.size w12 v1 (srt (flat rs))) := HO1.out.below hb12'
                  replace HO2 : Hid (Owns w9.heap.size w12 v2 (ins v (srt (flat rs)))) := by rw [← HS1.out]; exact HO2.out.below hb12'
                  have HO3 : Hid (Owns w11.heap.size w12 v3 (srt (flat rs))) := by rw [← HS2.out]; exact ho3
                  clear ho3 hL3 hb11 hb12 hb12' hs10 HB HS1 HS2
                  obtain ⟨gg, cc, hv1⟩ := HO1.out.2
                  have hlen : (srt (flat rs)).length = (flat rs).length := srt_length _
                  rw [hlen] at hv1
                  rw [hv1] at HO1 ⊢
                  clear hv1 hlen
                  go_wp2_with fail
                  have hs12 := hb6.size
                  refine (insert13 w7.heap.size v _ (srt (flat rs)) w12 HO1.out (by rw [srt_length]; omega)).mono ?_
                  rintro e w13 ⟨v4, rfl, ho4, hb13⟩
                  replace HO1 := HO1.out.below hb13
                  replace HO2 := HO2.out.below hb13
                  replace HO3 := HO3.out.below hb13
                  replace hb6 : Below w.heap.size w w13 := hb6.trans (hb13.mono hs12)
                  have hs13 := hb6.size
                  clear hb13 hs12
                  have HO4 : Hid _ := ho4
                  clear ho4
                  go_wp2_with fail
                  refine (equal10 _ _ v2 v4 (ins v (srt (flat rs))) w13 HO2 HO4.out (by rw [ins_length, srt_length]; omega)).mono ?_
                  rintro e w14 ⟨rfl, hb14⟩
                  replace HO1 := HO1.below hb14
                  replace HO3 := HO3.below hb14
                  replace hb6 : Below w.heap.size w w14 := hb6.trans (hb14.mono hs13)
                  have hs14 := hb6.size
                  clear hb14 hs13 HO4 HO2
                  go_wp2_with fail
                  refine (equal10 _ _ v3 _ (srt (flat rs)) w14 HO3 HO1 (by rw [srt_length]; omega)).mono ?_
                  rintro e w15 ⟨rfl, hb15⟩
                  replace hb6 : Below w.heap.size w w15 := hb6.trans (hb15.mono hs14)
                  clear hb15 HO1 HO3
                  go_wp2
                  go_ret
                  exact ⟨rfl, hb6⟩
end Go.Proofs.Qxb6616045a.Ln
