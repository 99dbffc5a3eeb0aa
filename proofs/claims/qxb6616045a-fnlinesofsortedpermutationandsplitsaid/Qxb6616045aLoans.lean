import Derived.Test.Qxb6616045aIn
namespace Go.Proofs.Qxb6616045a.Ln
open Go.RowKit

/-- The cells of a Loan, zero but for its RepaidLines. -/
def loan (h : Value) : List Value :=
  [.string ⟨#[]⟩, .string ⟨#[]⟩, .int .i64 0, .pointer none, .int .u64 0, .int .i64 0, .pointer none, .int .u64 0, .int .i64 0, .pointer none, .int .i64 0, .int .i64 0, .pointer none, h, .bool false,
   .int .u64 0, .int .i64 0, .pointer none, .int .i64 0, .bool false, .int .u64 0, .int .i64 0, .pointer none, .int .i64 0]

theorem loan_length (h : Value) : (loan h).length = 24 := rfl

/-- n Loans lie at block g, the headers hs. -/
def LoansIs (w : World) (g : Nat) (hs : Nat → Value) (n : Nat) : Prop :=
  ∃ cur, w.heap[g]? = some (.cells cur 43) ∧ cur.size = n * 24 ∧ ∀ j, j < n → ∀ i, i < 24 → cur[j * 24 + i]? = (loan (hs j))[i]?

theorem made_at (l : List Value) (K n j i : Nat) (hl : l.length = K) (hj : j < n) (hi : i < K) : (madeCells l.toArray (n * K))[j * K + i]? = l[i]? := by
  have hlt : j * K + i < n * K := by
    have : (j + 1) * K ≤ n * K := Nat.mul_le_mul_right K hj
    have : (j + 1) * K = j * K + K := by rw [Nat.add_mul, Nat.one_mul]
    omega
  have hmod : (j * K + i) % l.length = i := by
    rw [hl, Nat.add_comm, Nat.add_mul_mod_self_right, Nat.mod_eq_of_lt hi]
  unfold madeCells
  rw [Array.getElem?_map, Array.getElem?_eq_getElem (by simpa using hlt)]
  simp only [Array.getElem_range, Option.map_some, List.size_toArray, hmod]
  rw [List.getElem?_eq_getElem (by omega), getElem!_pos _ _ (by simp; omega)]
  simp

theorem loan_set (h : Value) : ∀ i, (loan h)[i]? = if i = 13 then some h else (loan (.slice none 0 0))[i]? := by
  intro i
  by_cases hi : i = 13
  · subst hi; rfl
  · rw [if_neg hi]
    unfold loan
    match i with
    | 0 | 1 | 2 | 3 | 4 | 5 | 6 | 7 | 8 | 9 | 10 | 11 | 12 => rfl
    | 13 => exact absurd rfl hi
    | 14 | 15 | 16 | 17 | 18 | 19 | 20 | 21 | 22 | 23 => rfl
    | n + 24 => rfl

theorem heap_set {w : World} {b : Nat} {cs : Array Value} {t : TypeId} (h : w.heap[b]? = some (.cells cs t)) (o : Nat) (u : Value) : (w.setCell ⟨b, o, none⟩ u).heap[b]? = some (.cells (cs.setIfInBounds o u) t) := by
  simp [World.setCell, Array.getElem?_modify, h]
theorem cell_of {w : World} {b : Nat} {cs : Array Value} {t : TypeId} (h : w.heap[b]? = some (.cells cs t)) (i : Nat) : w.cell? ⟨b, i, none⟩ = cs[i]? := by
  simp [World.cell?, h]
theorem frozen_of {w : World} {b : Nat} {cs : Array Value} {t : TypeId} (h : w.heap[b]? = some (.cells cs t)) (i : Nat) : w.frozen? ⟨b, i, none⟩ = false := by
  simp [World.frozen?, h]
theorem lt_of {w : World} {b : Nat} {o : Obj} (h : w.heap[b]? = some o) : b < w.heap.size := by
  rcases Nat.lt_or_ge b w.heap.size with h' | h'
  · exact h'
  · rw [Array.getElem?_eq_none h'] at h; cases h

theorem LoansIs.kept {w w' : World} {g n : Nat} {hs : Nat → Value} (h : LoansIs w g hs n) (hw : w'.heap[g]? = w.heap[g]?) : LoansIs w' g hs n := by
  obtain ⟨cur, h1, h2, h3⟩ := h
  exact ⟨cur, by rw [hw]; exact h1, h2, h3⟩

/-- One header laid. -/
theorem LoansIs.set {w : World} {g n k : Nat} {hs : Nat → Value} (h : LoansIs w g hs n) (_hk : k < n) (u : Value) : LoansIs (w.setCell ⟨g, k * 24 + 13, none⟩ u) g (fun j => if j = k then u else hs j) n := by
  obtain ⟨cur, h1, h2, h3⟩ := h
  refine ⟨_, heap_set h1 _ u, by simpa using h2, fun j hj i hi => ?_⟩
  show _ = (loan (if j = k then u else hs j))[i]?
  rw [Array.getElem?_setIfInBounds]
  by_cases he : k * 24 + 13 = j * 24 + i
  · have hkj : k = j := by omega
    have hi13 : i = 13 := by omega
    subst hkj hi13
    rw [if_pos rfl, if_pos (by omega), if_pos rfl]
    rfl
  · rw [if_neg he, h3 j hj i hi]
    by_cases hjk : j = k
    · subst hjk
      rw [if_pos rfl, loan_set, loan_set u, if_neg (by omega), if_neg (by omega)]
    · rw [if_neg hjk]

theorem LoansIs.cell {w : World} {g n k i : Nat} {hs : Nat → Value} (h : LoansIs w g hs n) (hk : k < n) (hi : i < 24) : w.cell? ⟨g, k * 24 + i, none⟩ = (loan (hs k))[i]? := by
  obtain ⟨cur, h1, h2, h3⟩ := h
  rw [cell_of h1, h3 k hk i hi]

theorem LoansIs.frozen {w : World} {g n : Nat} {hs : Nat → Value} (h : LoansIs w g hs n) (i : Nat) : w.frozen? ⟨g, i, none⟩ = false := by
  obtain ⟨cur, h1, h2, h3⟩ := h
  exact frozen_of h1 i

theorem info43 : (Try.prog.info? 43).map (fun i => (i.zero, i.size, i.bytes)) = some (some (.agg (loan (.slice none 0 0)).toArray), 24, 224) := by kernel_rfl

set_option maxHeartbeats 1000000 in
theorem loans7 (a : Option Addr) (cap : Nat) (rs : List Row) (w : World) (hm : rs.length ≤ 4097) (hp : LsIs w a rs) :
    Calls Try.prog 7 #[.slice a rs.length cap] w fun e w' => ∃ g, e = .returned (.slice (some ⟨g, 0, none⟩) rs.length rs.length) ∧ w.heap.size ≤ g ∧ LoansIs w' g (fun j => (rs.getD j nilRow).v) rs.length ∧ Below w.heap.size w w' := by
  have HP : Hid (LsIs w a rs) := hp
  clear hp
  obtain ⟨i0, hi, hz0, hz1, hz2⟩ := info_parts info43
  go_enter Try.func7, Try.ntmps7
  go_wp2_with (at_make; refine wpList_make_full _ rfl _ _ 26 rfl w.heap.size 43 i0 (.agg (loan (.slice none 0 0)).toArray) 24 Try.underlying26 hi hz0 hz1 .i64 .i64 _ _ rs.length rfl rfl rfl rfl ?c1 ?c2 ?c3 ?_)
  case c1 => rw [hz2]; omega
  case c2 => unfold maxLen; omega
  case c3 => exact Nat.le_refl _
  intro w1 hown hg
  have hL : LoansIs w1 w.heap.size (fun j => if j < 0 then (rs.getD j nilRow).v else .slice none 0 0) rs.length := by
    rcases hown.2 with ⟨h0, _⟩ | ⟨g, c, cur, hv, h1, h2, h3, h4, h5, h6⟩
    · cases h0
    · injection hv with hv _ hc
      injection hv with hv
      injection hv with hv
      subst hv hc
      refine ⟨cur, h2, h5, fun j hj i hi => ?_⟩
      show _ = (loan (if j < 0 then (rs.getD j nilRow).v else .slice none 0 0))[i]?
      rw [if_neg (Nat.not_lt_zero _), ← made_at (loan (.slice none 0 0)) 24 rs.length j i rfl hj hi]
      have : cur.toList = (madeCells (loan (.slice none 0 0)).toArray (rs.length * 24)).toList := by
        refine Eq.trans ?_ h6
        rw [List.take_of_length_le (by simp; omega)]
      rw [← Array.getElem?_toList, this, Array.getElem?_toList]
  have hb1 : Below w.heap.size w w1 := (Below.refl _ _).grown hg (Nat.le_refl _) (fun k hk => by cases hk)
  have HL : Hid (LoansIs w1 w.heap.size (fun j => if j < 0 then (rs.getD j nilRow).v else .slice none 0 0) rs.length) := hL
  clear hL hown hg
  go_wp2
  go_loopw [10] (fun i wr => ∃ k : Nat, k ≤ rs.length ∧ i = .int .i64 k ∧ Hid (LoansIs wr w.heap.size (fun j => if j < k then (rs.getD j nilRow).v else .slice none 0 0) rs.length) ∧ Below w.heap.size w wr) (fun i _ => rs.length - (intOf i).toNat)
  case atStart => exact ⟨0, Nat.zero_le _, rfl, HL, hb1⟩
  case round =>
    clear HL hb1
    obtain ⟨k, hk, rfl, HL, hbr⟩ := hrel
    by_cases hlt : k < rs.length
    · obtain ⟨blk, off, rfl, c0, _⟩ := HP.out k hlt
      have d0 := hbr.cell (lt_of_cell c0)
      rw [c0] at d0
      have e13 : wr.cell? ⟨w.heap.size, k * 24 + 13, none⟩ = some (.slice none 0 0) := by
        rw [HL.out.cell hlt (by omega), if_neg (by omega)]; rfl
      have z13 := HL.out.frozen (k * 24 + 13)
      have hS := HL.out.set hlt (rs.getD k nilRow).v
      generalize hr : rs.getD k nilRow = r at *
      have HR : Hid (rs.getD k nilRow = r) := hr
      have HS : Hid (LoansIs (wr.setCell ⟨w.heap.size, k * 24 + 13, none⟩ (.slice r.ad r.zs.length r.cap)) w.heap.size (fun j => if j = k then r.v else if j < k then (rs.getD j nilRow).v else .slice none 0 0) rs.length) := hS
      clear hr hS HL c0
      unfold Row.v at d0
      have hkz : (k : Int) < (rs.length : Int) := by omega
      go_wp2
      go_roundw
      case rel =>
        refine ⟨k + 1, by omega, by go_num, ?_, hbr.setCell (Nat.le_refl _) _⟩
        have e : (fun j => if j = k then r.v else if j < k then (rs.getD j nilRow).v else .slice none 0 0) = (fun j => if j < k + 1 then (rs.getD j nilRow).v else .slice none 0 0) := by
          funext j
          by_cases h1 : j = k
          · subst h1; rw [if_pos rfl, if_pos (by omega), HR.out]
          · rw [if_neg h1]
            by_cases h2 : j < k
            · rw [if_pos h2, if_pos (by omega)]
            · rw [if_neg h2, if_neg (by omega)]
        rw [← e]; exact HS.out
      case measure => simp [intOf]; omega
    · go_wp2
      go_ret
      refine ⟨w.heap.size, rfl, Nat.le_refl _, ?_, hbr⟩
      obtain ⟨cur, h1, h2, h3⟩ := HL.out
      exact ⟨cur, h1, h2, fun j hj i hi => by rw [h3 j hj i hi]; show (loan (if j < k then (rs.getD j nilRow).v else .slice none 0 0))[i]? = _; rw [if_pos (by omega)]⟩
end Go.Proofs.Qxb6616045a.Ln
