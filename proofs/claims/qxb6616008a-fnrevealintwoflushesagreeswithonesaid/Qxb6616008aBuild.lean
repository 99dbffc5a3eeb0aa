import Derived.Test.Qxb6616008aBin
import Derived.Deep.RegionHeld3
namespace Go.Proofs.Qxb6616008a.Pos
open Go.RowKit

theorem set10 (fi fo : Int) (v v' c : Value) : (blCells fi fo v c).setIfInBounds 10 v' = blCells fi fo v' c := rfl
theorem set11 (fi fo : Int) (v c c' : Value) : (blCells fi fo v c).setIfInBounds 11 c' = blCells fi fo v c' := rfl
theorem set8 (fi fo ti to : Int) (v c : Value) : ((blCells fi fo v c).setIfInBounds 8 (.int .i64 ti)).setIfInBounds 9 (.int .i64 to) = blCells ti to v c := rfl

theorem heap_set {w : World} {b : Nat} {cs : Array Value} {t : TypeId} (h : w.heap[b]? = some (.cells cs t)) (o : Nat) (u : Value) : (w.setCell ⟨b, o, none⟩ u).heap[b]? = some (.cells (cs.setIfInBounds o u) t) := by
  simp [World.setCell, Array.getElem?_modify, h]

/-- What an append leaves, and the store of the slice behind it, is a binlog with one record more. -/
theorem Bl.added {base : Nat} {w : World} {b : Nat} {fi fo : Int} {rs : List Rec} {fired : Bool} {v c : Value} {qs : List Nat} (h : Bl base w b fi fo rs fired v c qs) (hbase : base ≤ w.heap.size) (r : Rec) (x : Obj)
    {v' : Value} {w2 : World} (hown : w2.ownsRow base 89 1 v' (rs.length + 1) (ptrs qs ++ [.pointer (some ⟨w.heap.size, 0, none⟩)]))
    (hg : ((w.alloc (.cells (recCells r) 93)).alloc x).grownBy w2 v.ownBlock) :
    Bl base (w2.setCell ⟨b, 10, none⟩ v') b fi fo (rs ++ [r]) fired v' c (qs ++ [w.heap.size]) ∧ Below base w (w2.setCell ⟨b, 10, none⟩ v') := by
  have old : ∀ k o, w.heap[k]? = some o → v.ownBlock ≠ some k → w2.heap[k]? = some o := by
    intro k o hk hne
    have hl := lt_of hk
    rw [hg.block k (by simp; omega) (fun e => hne e.symm), Below.heap_alloc _ _ _ (by simp; omega), Below.heap_alloc _ _ _ hl]
    exact hk
  have hblk : w2.heap[b]? = some (.cells (blCells fi fo v c) 74) := old b _ h.blk (row_ne h.own h.blk (by decide))
  have hrec : w2.heap[w.heap.size]? = some (.cells (recCells r) 93) := by
    rw [hg.block _ (by simp; omega) (fun e => by have := (h.own.lt _ e.symm).2; omega), Below.heap_alloc _ _ _ (by simp)]
    exact heap_new _ _
  have hne2 : v'.ownBlock ≠ some b := row_ne hown hblk (by decide)
  refine ⟨⟨h.hb, ?_, ?_, ?_, ?_, ?_⟩, ?_⟩
  · rw [heap_set hblk, set10]
  · refine sig_of h.sig fun k o hk ho => ?_
    have := old k o hk (row_ne' h.own hk ho)
    rw [Below.heap_setCell _ _ _ _ (show k ≠ b from fun e => by subst e; rw [h.blk] at hk; injection hk with hk; exact ho _ _ _ hk.symm)]
    exact this
  · have : ptrs (qs ++ [w.heap.size]) = ptrs qs ++ [.pointer (some ⟨w.heap.size, 0, none⟩)] := by simp [ptrs]
    rw [this, List.length_append]
    exact row_kept hown fun g hg' => Below.heap_setCell _ _ _ _ (fun e => hne2 (by rw [hg', e]))
  · simp [h.len]
  · intro j hj
    have hl := h.len
    by_cases hjr : j < rs.length
    · have e1 : (qs ++ [w.heap.size]).getD j 0 = qs.getD j 0 := by simp [List.getD, List.getElem?_append_left (by omega : j < qs.length)]
      have e2 : (rs ++ [r]).getD j zero = rs.getD j zero := by simp [List.getD, List.getElem?_append_left hjr]
      rw [e1, e2]
      obtain ⟨k1, k2⟩ := h.recs j hjr
      refine ⟨k1, ?_⟩
      have := old _ _ k2 (row_ne h.own k2 (by decide))
      rw [Below.heap_setCell _ _ _ _ (show qs.getD j 0 ≠ b from fun e => by rw [e, h.blk] at k2; injection k2 with k2; injection k2 with _ k2; cases k2)]
      exact this
    · have hjl : j = rs.length := by simp at hj; omega
      have e1 : (qs ++ [w.heap.size]).getD j 0 = w.heap.size := by rw [hjl, ← hl]; simp [List.getD]
      have e2 : (rs ++ [r]).getD j zero = r := by rw [hjl]; simp [List.getD]
      rw [e1, e2]
      refine ⟨hbase, ?_⟩
      rw [Below.heap_setCell _ _ _ _ (show w.heap.size ≠ b from fun e => by have := lt_of h.blk; omega)]
      exact hrec
  · have hB := (((Below.refl base w).alloc hbase (.cells (recCells r) 93)).alloc (by simp; omega) x).grown hg (by simp; omega) (fun k hk => (h.own.lt k hk).1)
    exact hB.setCell h.hb v'

set_option maxHeartbeats 1000000 in
theorem add26 (base b : Nat) (fi fo : Int) (rs : List Rec) (fired : Bool) (r : Rec) (w : World) (h : IsBl base w b fi fo rs fired) (hbase : base ≤ w.heap.size) (hn : rs.length ≤ 16384) :
    Calls Try.prog 26 #[.pointer (some ⟨b, 0, none⟩), .int .i64 r.ai, .int .i64 r.ao, .int .i64 r.ei, .int .i64 r.eo, .bool r.st] w fun e w' =>
      e = .returned (.tuple #[]) ∧ IsBl base w' b fi fo (rs ++ [r]) fired ∧ Below base w w' := by
  obtain ⟨v, c, qs, H⟩ := h
  obtain ⟨i0, hi, hz0, hz1, hz2⟩ := info_parts info89
  have hc10 : w.cell? ⟨b, 10, none⟩ = some v := cell_of H.blk 10
  have lb := lt_of H.blk
  have HO : Hid (w.ownsRow base 89 1 v rs.length (ptrs qs)) := H.own
  have hne : Hid (v.ownBlock ≠ some b) := row_ne H.own H.blk (by decide)
  have HF : Hid (w.heap[b]? = some (.cells (blCells fi fo v c) 74)) := H.blk
  go_enter Try.func26, Try.ntmps26
  go_wp2_with (at_builtin; refine wpList_append_own _ rfl _ _ 63 rfl base 89 i0 (.pointer none) 1 8 Try.underlying63 hi hz0 hz1 hz2 rfl (by decide) _ _ _ rfl ((HO.out.alloc _).alloc _) ⟨w.heap.size + 1, 0, none⟩ 1 1 [.pointer (some ⟨w.heap.size, 0, none⟩)] rfl rfl ?c1 ?c2 ?c3 ?c4 ?c5 ?_)
  case c1 =>
    intro j u hj
    match j, hj with
    | 0, hj => simp at hj; subst hj; go_simp
  case c2 => intro u hu; simp at hu; subst hu; rfl
  case c3 => unfold maxLen; omega
  case c4 => omega
  case c5 => simp; omega
  intro v' w2 hown hg _
  have hB := H.added hbase r (.cells #[.pointer (some ⟨w.heap.size, 0, none⟩)] 89) hown hg
  have hb2 : w2.heap[b]? = some (.cells (blCells fi fo v c) 74) := by
    rw [hg.block b (by simp; omega) (fun e => hne.out e.symm), Below.heap_alloc _ _ _ (by simp; omega), Below.heap_alloc _ _ _ lb]
    exact HF.out
  have d10 : w2.cell? ⟨b, 10, none⟩ = some v := cell_of hb2 10
  have z10 : w2.frozen? ⟨b, 10, none⟩ = false := frozen_of hb2 10
  have hex : ∃ g cap, v' = .slice (some ⟨g, 0, none⟩) (rs.length + 1) cap := by
    rcases hown.2 with ⟨_, h0⟩ | ⟨g, cap, cur, hv, _⟩
    · omega
    · exact ⟨g, cap, hv⟩
  obtain ⟨g, cap, hv⟩ := hex
  have HB : Hid (Bl base (w2.setCell ⟨b, 10, none⟩ v') b fi fo (rs ++ [r]) fired v' c (qs ++ [w.heap.size]) ∧ Below base w (w2.setCell ⟨b, 10, none⟩ v')) := hB
  clear hB hown hg hb2 hc10 H HO hne HF
  rw [hv] at HB ⊢
  clear hv
  go_wp2
  go_end0
  exact ⟨rfl, ⟨_, _, _, HB.out.1⟩, HB.out.2⟩

theorem take_succ (rs : List Rec) (k : Nat) (h : k < rs.length) : rs.take (k + 1) = rs.take k ++ [rs.getD k zero] := by
  rw [List.take_succ_eq_append_getElem h]
  simp [List.getD, h]

theorem PendIs.below {B : Nat} {w w' : World} {a : Option Addr} {rs : List Rec} (h : PendIs w a rs) (hB : Below B w w') (hs : ∀ blk off, a = some ⟨blk, off, none⟩ → 0 < rs.length → blk < B) : PendIs w' a rs := by
  intro j hj
  obtain ⟨blk, off, rfl, c0, c1, c2, c3, c4⟩ := h j hj
  have hb := hs blk off rfl (by omega)
  exact ⟨blk, off, rfl, by rw [hB.cell hb]; exact c0, by rw [hB.cell hb]; exact c1, by rw [hB.cell hb]; exact c2, by rw [hB.cell hb]; exact c3, by rw [hB.cell hb]; exact c4⟩

theorem PendIs.lt {w : World} {a : Option Addr} {rs : List Rec} (h : PendIs w a rs) : ∀ blk off, a = some ⟨blk, off, none⟩ → 0 < rs.length → blk < w.heap.size := by
  intro blk off e hl
  obtain ⟨blk', off', e', c0, _⟩ := h 0 hl
  rw [e] at e'
  simp at e'
  rw [e'.1]
  rcases Nat.lt_or_ge blk' w.heap.size with h' | h'
  · exact h'
  · simp [World.cell?, Array.getElem?_eq_none h'] at c0

set_option maxHeartbeats 1000000 in
theorem build11 (fi fo : Int) (a : Option Addr) (n cap : Nat) (rs : List Rec) (w : World) (hn : n = rs.length) (hm : n ≤ 16384) (hp : PendIs w a rs) :
    Calls Try.prog 11 #[.int .i64 fi, .int .i64 fo, .slice a n cap] w fun e w' =>
      ∃ b, e = .returned (.pointer (some ⟨b, 0, none⟩)) ∧ IsBl w.heap.size w' b fi fo rs false ∧ Below w.heap.size w w' := by
  have HN : Hid (n = rs.length) := hn
  clear hn
  have HP : Hid (PendIs w a rs) := hp
  clear hp
  go_enter Try.func11, Try.ntmps11
  go_wp2_with fail
  refine (new25 fi fo w).mono ?_
  rintro e w1 ⟨b, rfl, hbl, hbel⟩
  go_wp2
  go_loopw [8] (fun i wr => ∃ k : Nat, k ≤ n ∧ i = .int .i64 k ∧ IsBl w.heap.size wr b fi fo (rs.take k) false ∧ Below w.heap.size w wr) (fun i _ => n - (intOf i).toNat)
  case atStart => exact ⟨0, Nat.zero_le _, rfl, hbl, hbel⟩
  case round =>
    clear hbl hbel
    obtain ⟨k, hk, rfl, hbl, hbel⟩ := hrel
    by_cases hlt : k < n
    · have HP2 := HP.out.below hbel HP.out.lt
      have hts : Hid (rs.take (k + 1) = rs.take k ++ [rs.getD k zero]) := take_succ rs k (by rw [← HN.out]; exact hlt)
      have htl : (rs.take k).length ≤ 16384 := by rw [List.length_take]; omega
      obtain ⟨blk, off, rfl, c0, c1, c2, c3, c4⟩ := HP2 k (by rw [← HN.out]; exact hlt)
      have hblk : blk < w.heap.size := HP.out.lt blk off rfl (by rw [← HN.out]; omega)
      clear HP2
      generalize hr : rs.getD k zero = r at *
      have hkz : (k : Int) < (n : Int) := by omega
      have HS : Hid (w.heap.size ≤ wr.heap.size) := hbel.size
      go_wp2
      go_region_held3 (fun w' => w'.cell? ⟨blk, off + k * 5, none⟩ = some (.int .i64 r.ai) ∧ w'.cell? ⟨blk, off + k * 5 + 1, none⟩ = some (.int .i64 r.ao) ∧ w'.cell? ⟨blk, off + k * 5 + 2, none⟩ = some (.int .i64 r.ei) ∧ w'.cell? ⟨blk, off + k * 5 + 3, none⟩ = some (.int .i64 r.eo) ∧ w'.cell? ⟨blk, off + k * 5 + 4, none⟩ = some (.bool r.st)) (go_keep)
        (first | (go_at_call 26; refine (add26 w.heap.size b fi fo (rs.take k) false r _ ?_ ?_ ?_).mono ?_; exact hbl.kept (fun _ _ => rfl); exact HS.out; exact htl; rintro e w' ⟨rfl, hbl', hbel'⟩; have c0' := hbel'.cell (p := ⟨blk, off + k * 5, none⟩) hblk; have c1' := hbel'.cell (p := ⟨blk, off + k * 5 + 1, none⟩) hblk; have c2' := hbel'.cell (p := ⟨blk, off + k * 5 + 2, none⟩) hblk; have c3' := hbel'.cell (p := ⟨blk, off + k * 5 + 3, none⟩) hblk; have c4' := hbel'.cell (p := ⟨blk, off + k * 5 + 4, none⟩) hblk))
      go_wp2
      go_roundw
      case rel =>
        refine ⟨k + 1, by omega, by go_num, ?_, ?_⟩
        · rw [hts.out]; exact hbl'
        · exact hbel.drew.trans hbel'
      case measure => simp [intOf]; omega
    · have hkn : k = n := by omega
      have hfin : IsBl w.heap.size wr b fi fo rs false := by
        rw [hkn, HN.out, List.take_length] at hbl
        exact hbl
      clear hkn hbl
      go_wp2
      go_ret
      exact ⟨b, rfl, hfin, hbel⟩
end Go.Proofs.Qxb6616008a.Pos
