import Derived.Test.Qxb6616008aGet
import Derived.Test.Qxb6616008aBuild
import Derived.Deep.RegionLaw
import Derived.Lib.SliceRun
namespace Go.Proofs.Qxb6616008a.Pos
open Go.RowKit Go.Lib

/-- The block behind a run of stores into it. -/
theorem heap_setCells (g : Nat) (t : TypeId) : ∀ (xs : List Value) (o : Nat) (w : World) (cur : Array Value), w.heap[g]? = some (.cells cur t) → o + xs.length ≤ cur.size →
    ∃ cur', (w.setCells g o xs).heap[g]? = some (.cells cur' t) ∧ cur'.size = cur.size ∧ (∀ i, i < o ∨ o + xs.length ≤ i → cur'[i]? = cur[i]?) ∧ (∀ i, i < xs.length → cur'[o + i]? = xs[i]?)
  | [], o, w, cur, h, _ => ⟨cur, h, rfl, fun _ _ => rfl, fun i hi => absurd hi (by simp)⟩
  | x :: xs, o, w, cur, h, hl => by
    have h1 := heap_set h o x
    obtain ⟨cur', a1, a2, a3, a4⟩ := heap_setCells g t xs (o + 1) (w.setCell ⟨g, o, none⟩ x) (cur.setIfInBounds o x) h1 (by simp at hl ⊢; omega)
    refine ⟨cur', a1, by simpa using a2, fun i hi => ?_, fun i hi => ?_⟩
    · rw [a3 i (by simp at hi; omega)]
      simp [Array.getElem?_setIfInBounds]
      intro e; subst e; simp at hi; omega
    · cases i with
      | zero =>
        rw [a3 (o + 0) (by omega)]
        simp at hl ⊢
        rw [Array.getElem?_setIfInBounds]
        simp
        omega
      | succ i =>
        have := a4 i (by simp at hi; omega)
        rw [show o + (i + 1) = o + 1 + i by omega, this]
        simp

theorem heap_setCells_other (g : Nat) : ∀ (xs : List Value) (o : Nat) (w : World) (k : Nat), k ≠ g → (w.setCells g o xs).heap[k]? = w.heap[k]?
  | [], _, _, _, _ => rfl
  | x :: xs, o, w, k, hk => by
    show ((w.setCell ⟨g, o, none⟩ x).setCells g (o + 1) xs).heap[k]? = _
    rw [heap_setCells_other g xs (o + 1) _ k hk, Below.heap_setCell _ _ _ _ hk]

theorem same_setCells (g : Nat) : ∀ (xs : List Value) (o : Nat) (w : World), (w.setCells g o xs).os = w.os ∧ (w.setCells g o xs).tape = w.tape ∧ (w.setCells g o xs).output = w.output ∧ (w.setCells g o xs).heap.size = w.heap.size
  | [], _, _ => ⟨rfl, rfl, rfl, rfl⟩
  | x :: xs, o, w => by
    have := same_setCells g xs (o + 1) (w.setCell ⟨g, o, none⟩ x)
    refine ⟨this.1, this.2.1, this.2.2.1, ?_⟩
    show ((w.setCell ⟨g, o, none⟩ x).setCells g (o + 1) xs).heap.size = _
    rw [this.2.2.2]
    simp [World.setCell]

theorem zero89 (w : World) : (zeroValue 89).run Try.prog w = .ok (.pointer none) w := by kernel_rfl

theorem del39none (a : Option Addr) (L cap : Nat) (w : World) (hL : L ≤ cap) (hm : cap ≤ 9223372036854775807) (ha : a = none → cap = 0) :
    Calls Try.prog 39 #[.slice a L cap, .int .i64 0, .int .i64 0] w fun e w' => e = .returned (.slice a L cap) ∧ w' = w := by
  cases a with
  | none =>
    have h0 := ha rfl
    clear ha
    subst h0
    have hl0 : L = 0 := by omega
    subst hl0
    go_enter Try.func39, Try.ntmps39
    go_wp2
    go_ret
    exact ⟨rfl, rfl⟩
  | some x =>
    clear ha
    go_enter Try.func39, Try.ntmps39
    go_wp2
    all_goals (go_ret; exact ⟨rfl, rfl⟩)

set_option maxHeartbeats 4000000 in
set_option maxRecDepth 1000000 in
theorem del39 (g L cap n : Nat) (cur : Array Value) (w : World) (hg : w.heap[g]? = some (.cells cur 89)) (hsz : cur.size = cap) (hL : L ≤ cap) (hm : cap ≤ 9223372036854775807) (hn : 0 < n) (hnL : n ≤ L)
    (h1 : ∀ (i : Nat) (u : Value), cur[i]? = some u → i < L → u.oneCell' = true) :
    Calls Try.prog 39 #[.slice (some ⟨g, 0, none⟩) L cap, .int .i64 0, .int .i64 n] w fun e w' => e = .returned (.slice (some ⟨g, 0, none⟩) (L - n) cap) ∧
      (∃ cur', w'.heap[g]? = some (.cells cur' 89) ∧ cur'.size = cap ∧ ∀ i, i < L - n → cur'[i]? = cur[n + i]?) ∧ w.grownBy w' (some g) := by
  obtain ⟨i0, hi0, hz0, hz1, hz2⟩ := info_parts info89
  obtain ⟨news, hnews⟩ : ∃ news, news = (cur.toList.drop n).take (L - n) := ⟨_, rfl⟩
  have hlen : news.length = L - n := by rw [hnews]; simp; omega
  have hget : ∀ t, t < L - n → news[t]? = cur[n + t]? := by
    intro t ht
    rw [hnews, List.getElem?_take_of_lt ht, List.getElem?_drop, Array.getElem?_toList]
  obtain ⟨A, hA, hsrc⟩ : ∃ A : Addr, (if cap = n then some (⟨g, 0, none⟩ : Addr) else some ⟨g, n, none⟩) = some A ∧ Hid (∀ t u, news[t]? = some u → w.drew.cell? (A.add t) = some u) := by
    by_cases h : cap = n
    · refine ⟨⟨g, 0, none⟩, by simp [h], fun t u hu => ?_⟩
      have h0 : news.length = 0 := by rw [hlen]; omega
      rw [List.length_eq_zero_iff.1 h0] at hu
      simp at hu
    · refine ⟨⟨g, n, none⟩, by simp [h], fun t u hu => ?_⟩
      have ht : t < L - n := by
        have := (List.getElem?_eq_some_iff.1 hu).1
        rwa [hlen] at this
      rw [hget t ht] at hu
      rw [Addr.add_lit]
      exact (cell_of hg (n + t)).trans hu
  have s1 : Hid (news.length = (L - n) * 1) := by rw [Nat.mul_one]; exact hlen
  have s2 : Hid (∀ u ∈ news, u.oneCell' = true) := by
    intro u hu
    obtain ⟨t, ht⟩ := List.getElem?_of_mem hu
    have ht' : t < L - n := by have := (List.getElem?_eq_some_iff.1 ht).1; omega
    rw [hget t ht'] at ht
    exact h1 (n + t) u ht (by omega)
  have s3 : Hid (∀ t, t < news.length → (w.drew.cell? ⟨g, 0 + 0 * 1 + t, none⟩).isSome = true ∧ w.drew.frozen? ⟨g, 0 + 0 * 1 + t, none⟩ = false) := by
    intro t ht
    refine ⟨?_, frozen_of (w := w) hg _⟩
    show (w.cell? _).isSome = true
    rw [cell_of hg, Array.getElem?_eq_getElem (by omega)]
    rfl
  obtain ⟨W1, hW1⟩ : ∃ W1, W1 = w.drew.setCells g (0 + 0 * 1) news := ⟨_, rfl⟩
  obtain ⟨cur1, b1, b2, b3, b4⟩ := heap_setCells g 89 news (0 + 0 * 1) w.drew cur hg (by omega)
  rw [← hW1] at b1
  have hcl : ∀ ty, (Builtin.clear_ #[63] ty #[.slice (some ⟨g, L - n, none⟩) (L - (L - n)) (cap - (L - n))]).run Try.prog W1 = .ok (.tuple #[]) (W1.setCells g (L - n) (List.replicate (L - (L - n)) (.pointer none))) :=
    fun ty => Lib.run_clear_slice W1 63 89 ty _ Try.underlying63 zero89 rfl rfl g (L - n) _ _ (by omega)
      (fun t ht => by rw [cell_of b1, Array.getElem?_eq_getElem (by omega)]; rfl) (fun t ht => frozen_of b1 _)
  obtain ⟨cur2, d1, d2, d3, d4⟩ := heap_setCells g 89 (List.replicate (L - (L - n)) (.pointer none)) (L - n) W1 cur1 b1 (by simp; omega)
  have hfin : Hid ((∃ cur', (W1.setCells g (L - n) (List.replicate (L - (L - n)) (.pointer none))).heap[g]? = some (.cells cur' 89) ∧ cur'.size = cap ∧ ∀ i, i < L - n → cur'[i]? = cur[n + i]?) ∧ w.grownBy (W1.setCells g (L - n) (List.replicate (L - (L - n)) (.pointer none))) (some g)) := by
    refine ⟨⟨cur2, d1, by omega, fun i hi => ?_⟩, ?_⟩
    · rw [d3 i (Or.inl hi)]
      have := b4 i (by omega)
      simp only [Nat.zero_mul, Nat.zero_add] at this
      rw [this, hget i hi]
    · have e1 := same_setCells g news (0 + 0 * 1) w.drew
      have e2 := same_setCells g (List.replicate (L - (L - n)) (.pointer none)) (L - n) W1
      rw [← hW1] at e1
      refine ⟨e2.1.trans e1.1, e2.2.1.trans e1.2.1, e2.2.2.1.trans e1.2.2.1, by rw [e2.2.2.2, e1.2.2.2]; exact Nat.le_refl _, fun k _ hk => ?_⟩
      have hkg : k ≠ g := fun e => hk (by rw [e])
      rw [heap_setCells_other g _ _ _ k hkg, hW1, heap_setCells_other g _ _ _ k hkg]
      rfl
  have hW : Hid (W1 = w.drew.setCells g (0 + 0 * 1) news) := hW1
  have hnc : n ≤ cap := by omega
  clear hW1 hget hnews hlen b1 b2 b3 b4 d1 d2 d3 d4 hg h1
  go_enter Try.func39, Try.ntmps39
  go_wp2_with fail
  go_region_law (refine step_append_room rfl (.tmp 22) (.tmp 25) 63 rfl 89 i0 1 Try.underlying63 hi0 hz1 g 0 0 cap (by simp [Act.eval, Act.put]) A (L - n) (cap - n) news (by simp [Act.eval, Act.put]) s1.out hsrc.out s2.out (by omega) s3.out ?_; rw [← hW.out])
  go_wp2
  go_ret
  exact ⟨rfl, hfin.out⟩

theorem ptrs_one (qs : List Nat) : ∀ u ∈ ptrs qs, u.oneCell' = true := by
  intro u hu
  obtain ⟨q, _, rfl⟩ := List.mem_map.1 hu
  rfl

/-- slices.Delete(b.pending, 0, n), at a binlog. -/
theorem delBl (base b : Nat) (fi fo : Int) (rs : List Rec) (fired : Bool) (v c : Value) (qs : List Nat) (n : Nat) (w : World) (H : Bl base w b fi fo rs fired v c qs) (hn : n ≤ rs.length) :
    Calls Try.prog 39 #[v, .int .i64 0, .int .i64 n] w fun e w' =>
      ∃ a cap, e = .returned (.slice a (rs.length - n) cap) ∧ w'.ownsRow base 89 1 (.slice a (rs.length - n) cap) (rs.length - n) (ptrs (qs.drop n)) ∧ w.grownBy w' v.ownBlock := by
  rcases Nat.eq_zero_or_pos n with rfl | hpos
  · obtain ⟨a, cap, hv⟩ := H.slice
    subst hv
    have ho := H.own
    have hcap : rs.length ≤ cap ∧ cap ≤ maxLen ∧ (a = none → cap = 0) := by
      rcases ho.2 with ⟨e, h0⟩ | ⟨g, cap', cur, e, h1, h2, h3, h4, h5⟩
      · injection e with e1 e2 e3
        subst e3; exact ⟨by omega, by unfold maxLen; omega, fun _ => rfl⟩
      · injection e with e1 e2 e3
        subst e3; subst e1
        exact ⟨h3, h4, fun e => by cases e⟩
    obtain ⟨h1, h2, h3⟩ := hcap
    refine (del39none a rs.length cap w h1 (by unfold maxLen at h2; omega) h3).mono ?_
    rintro e w' ⟨rfl, rfl⟩
    exact ⟨a, cap, rfl, by simpa using ho, ⟨rfl, rfl, rfl, Nat.le_refl _, fun _ _ _ => rfl⟩⟩
  · rcases H.own.2 with ⟨_, h0⟩ | ⟨g, cap, cur, hv, h1, h2, h3, h4, h5, h6⟩
    · omega
    · subst hv
      have hone : ∀ (i : Nat) (u : Value), cur[i]? = some u → i < rs.length → u.oneCell' = true := by
        intro i u hu hi
        have : (ptrs qs)[i]? = some u := by
          rw [← h6, List.getElem?_take_of_lt (by omega), Array.getElem?_toList]; exact hu
        exact ptrs_one qs u (List.mem_of_getElem? this)
      refine (del39 g rs.length cap n cur w h2 (by omega) h3 (by unfold maxLen at h4; omega) hpos hn hone).mono ?_
      rintro e w' ⟨rfl, ⟨cur', k1, k2, k3⟩, hg⟩
      refine ⟨_, _, rfl, ⟨?_, Or.inr ⟨g, cap, cur', rfl, h1, k1, by omega, h4, by omega, ?_⟩⟩, hg⟩
      · have := H.len; simp [ptrs]; omega
      · apply List.ext_getElem?
        intro i
        by_cases hi : i < rs.length - n
        · rw [List.getElem?_take_of_lt (by omega), Array.getElem?_toList, k3 i hi]
          have : (ptrs qs)[n + i]? = cur[n + i]? := by
            rw [← h6, List.getElem?_take_of_lt (by omega), Array.getElem?_toList]
          rw [← this]
          simp [ptrs]
        · rw [List.getElem?_eq_none (by simp; omega), List.getElem?_eq_none (by have := H.len; simp [ptrs]; omega)]

/-- The store of the cut slice behind it. -/
theorem Bl.deleted {base b : Nat} {fi fo : Int} {rs : List Rec} {fired : Bool} {v c : Value} {qs : List Nat} {n : Nat} {w w2 : World} {v' : Value} (h : Bl base w b fi fo rs fired v c qs) (hn : n ≤ rs.length) (hbase : base ≤ w.heap.size)
    (hown : w2.ownsRow base 89 1 v' (rs.length - n) (ptrs (qs.drop n))) (hg : w.grownBy w2 v.ownBlock) :
    Bl base (w2.setCell ⟨b, 10, none⟩ v') b fi fo (rs.drop n) fired v' c (qs.drop n) ∧ Below base w (w2.setCell ⟨b, 10, none⟩ v') := by
  have old : ∀ k o, w.heap[k]? = some o → v.ownBlock ≠ some k → w2.heap[k]? = some o := by
    intro k o hk hne
    rw [hg.block k (lt_of hk) (fun e => hne e.symm)]
    exact hk
  have hblk : w2.heap[b]? = some (.cells (blCells fi fo v c) 74) := old b _ h.blk (row_ne h.own h.blk (by decide))
  have hne2 : v'.ownBlock ≠ some b := row_ne hown hblk (by decide)
  refine ⟨⟨h.hb, ?_, ?_, ?_, ?_, ?_⟩, ?_⟩
  · rw [heap_set hblk, set10]
  · refine sig_of h.sig fun k o hk ho => ?_
    have := old k o hk (row_ne' h.own hk ho)
    rw [Below.heap_setCell _ _ _ _ (show k ≠ b from fun e => by subst e; rw [h.blk] at hk; injection hk with hk; exact ho _ _ _ hk.symm)]
    exact this
  · rw [List.length_drop]
    exact row_kept hown fun g hg' => Below.heap_setCell _ _ _ _ (fun e => hne2 (by rw [hg', e]))
  · simp [h.len]
  · intro j hj
    rw [List.length_drop] at hj
    have e1 : (qs.drop n).getD j 0 = qs.getD (n + j) 0 := by simp [List.getD]
    have e2 : (rs.drop n).getD j zero = rs.getD (n + j) zero := by simp [List.getD]
    rw [e1, e2]
    obtain ⟨k1, k2⟩ := h.recs (n + j) (by omega)
    refine ⟨k1, ?_⟩
    have := old _ _ k2 (row_ne h.own k2 (by decide))
    rw [Below.heap_setCell _ _ _ _ (show qs.getD (n + j) 0 ≠ b from fun e => by rw [e, h.blk] at k2; injection k2 with k2; injection k2 with _ k2; cases k2)]
    exact this
  · exact ((Below.refl base w).grown hg hbase (fun k hk => (h.own.lt k hk).1)).setCell h.hb v'

/-- The flushed position moved. -/
theorem Bl.flushed {base b : Nat} {fi fo : Int} {rs : List Rec} {fired : Bool} {v c : Value} {qs : List Nat} {w : World} (h : Bl base w b fi fo rs fired v c qs) (ti to : Int) :
    Bl base ((w.setCell ⟨b, 8, none⟩ (.int .i64 ti)).setCell ⟨b, 9, none⟩ (.int .i64 to)) b ti to rs fired v c qs := by
  have hoth : ∀ k, k ≠ b → ((w.setCell ⟨b, 8, none⟩ (.int .i64 ti)).setCell ⟨b, 9, none⟩ (.int .i64 to)).heap[k]? = w.heap[k]? := fun k hk => by
    rw [Below.heap_setCell _ _ _ _ hk, Below.heap_setCell _ _ _ _ hk]
  refine ⟨h.hb, ?_, ?_, ?_, h.len, ?_⟩
  · rw [heap_set (heap_set h.blk 8 (.int .i64 ti)) 9 (.int .i64 to), set8]
  · refine sig_of h.sig fun k o hk ho => ?_
    rw [hoth k (fun e => by subst e; rw [h.blk] at hk; injection hk with hk; exact ho _ _ _ hk.symm)]
    exact hk
  · exact row_kept h.own fun g hg' => hoth g (fun e => row_ne h.own h.blk (by decide) (by rw [hg', e]))
  · intro j hj
    obtain ⟨k1, k2⟩ := h.recs j hj
    refine ⟨k1, ?_⟩
    rw [hoth _ (fun e => by rw [e, h.blk] at k2; injection k2 with k2; injection k2 with _ k2; cases k2)]
    exact k2
end Go.Proofs.Qxb6616008a.Pos
