import Derived.Test.Qxb6616008aPend
import Derived.Conc.SmallLaws
import Derived.Conc.EventLaws
namespace Go.Proofs.Qxb6616008a.Pos
open Go.RowKit

/-- The cells of a binlog struct: flushed position, pending slice, the signal's channel. -/
def blCells (fi fo : Int) (v c : Value) : Array Value :=
  #[.string ⟨#[]⟩, .int .i64 0, .nilFunc, .int .i32 0, .int .u32 0, .pointer none, .int .i64 0, .int .i64 0, .int .i64 fi, .int .i64 fo, v, c,
    .nilIface, .chan none, .int .i32 0, .int .u32 0, .int .i32 0, .int .u32 0, .int .u64 0, .int .u64 0, .int .i64 0, .int .i64 0, .nilFunc, .map none]

/-- The cells of a pending struct. -/
def recCells (r : Rec) : Array Value := #[.int .i64 r.ai, .int .i64 r.ao, .int .i64 r.ei, .int .i64 r.eo, .string ⟨#[]⟩, .bool r.st, .nilFunc]

def ptrs (qs : List Nat) : List Value := qs.map fun q => .pointer (some ⟨q, 0, none⟩)

/-- The signal: fired (no channel), or a channel of the call's own, open. -/
def Sig (base : Nat) (w : World) (c : Value) (fired : Bool) : Prop :=
  if fired then c = .chan none else ∃ ch, base ≤ ch ∧ c = .chan (some ch) ∧ w.heap[ch]? = some (.chan 0 #[] false 0 0 false)

/-- At block b lies a binlog, all of it from block 'base' on: flushed position, pending records, whether its signal has fired. -/
structure Bl (base : Nat) (w : World) (b : Nat) (fi fo : Int) (rs : List Rec) (fired : Bool) (v c : Value) (qs : List Nat) : Prop where
  hb : base ≤ b
  blk : w.heap[b]? = some (.cells (blCells fi fo v c) 74)
  sig : Sig base w c fired
  own : w.ownsRow base 89 1 v rs.length (ptrs qs)
  len : qs.length = rs.length
  recs : ∀ j, j < rs.length → base ≤ qs.getD j 0 ∧ w.heap[qs.getD j 0]? = some (.cells (recCells (rs.getD j zero)) 93)

def IsBl (base : Nat) (w : World) (b : Nat) (fi fo : Int) (rs : List Rec) (fired : Bool) : Prop := ∃ v c qs, Bl base w b fi fo rs fired v c qs

theorem cell_of {w : World} {b : Nat} {cs : Array Value} {t : TypeId} (h : w.heap[b]? = some (.cells cs t)) (i : Nat) : w.cell? ⟨b, i, none⟩ = cs[i]? := by
  simp [World.cell?, h]
theorem frozen_of {w : World} {b : Nat} {cs : Array Value} {t : TypeId} (h : w.heap[b]? = some (.cells cs t)) (i : Nat) : w.frozen? ⟨b, i, none⟩ = false := by
  simp [World.frozen?, h]
theorem lt_of {w : World} {b : Nat} {o : Obj} (h : w.heap[b]? = some o) : b < w.heap.size := by
  rcases Nat.lt_or_ge b w.heap.size with h' | h'
  · exact h'
  · rw [Array.getElem?_eq_none h'] at h; cases h

theorem sig_of {base : Nat} {w w' : World} {c : Value} {fired : Bool} (h : Sig base w c fired) (hw : ∀ (k : Nat) (o : Obj), w.heap[k]? = some o → (∀ cs t z, o ≠ Obj.cells cs t z) → w'.heap[k]? = some o) : Sig base w' c fired := by
  unfold Sig at *
  cases fired with
  | true => exact h
  | false =>
    obtain ⟨ch, h1, h2, h3⟩ := h
    exact ⟨ch, h1, h2, hw _ _ h3 (fun _ _ _ e => by cases e)⟩

/-- The row's block, where there is one, holds pointers. -/
theorem row_blk {w : World} {base n : Nat} {v : Value} {xs : List Value} (h : w.ownsRow base 89 1 v n xs) {g : Nat} (hg : v.ownBlock = some g) : ∃ cur, w.heap[g]? = some (.cells cur 89) := by
  rcases h.2 with ⟨rfl, _⟩ | ⟨g', cap, cur, rfl, _, h', _⟩
  · cases hg
  · simp [Value.ownBlock] at hg; subst hg; exact ⟨cur, h'⟩

theorem row_ne {w : World} {base n : Nat} {v : Value} {xs : List Value} (h : w.ownsRow base 89 1 v n xs) {b : Nat} {cs : Array Value} {t : TypeId} (hb : w.heap[b]? = some (.cells cs t)) (ht : t ≠ 89) : v.ownBlock ≠ some b := by
  intro e
  obtain ⟨cur, hc⟩ := row_blk h e
  rw [hb] at hc
  injection hc with hc
  injection hc with _ hc
  exact ht hc

theorem row_ne' {w : World} {base n : Nat} {v : Value} {xs : List Value} (h : w.ownsRow base 89 1 v n xs) {b : Nat} {o : Obj} (hb : w.heap[b]? = some o) (ho : ∀ cs t z, o ≠ .cells cs t z) : v.ownBlock ≠ some b := by
  intro e
  obtain ⟨cur, hc⟩ := row_blk h e
  rw [hb] at hc
  injection hc with hc
  exact ho _ _ _ hc

theorem row_kept {w w' : World} {base n : Nat} {v : Value} {xs : List Value} (h : w.ownsRow base 89 1 v n xs) (hw : ∀ g, v.ownBlock = some g → w'.heap[g]? = w.heap[g]?) : w'.ownsRow base 89 1 v n xs := by
  refine ⟨h.1, ?_⟩
  rcases h.2 with h2 | ⟨g, cap, cur, rfl, r1, r2, r3⟩
  · exact Or.inl h2
  · exact Or.inr ⟨g, cap, cur, rfl, r1, by rw [hw g rfl]; exact r2, r3⟩

/-- Whatever keeps the blocks that were there keeps the binlog. -/
theorem Bl.kept {base : Nat} {w w' : World} {b : Nat} {fi fo : Int} {rs : List Rec} {fired : Bool} {v c : Value} {qs : List Nat} (h : Bl base w b fi fo rs fired v c qs)
    (hw : ∀ k, k < w.heap.size → w'.heap[k]? = w.heap[k]?) : Bl base w' b fi fo rs fired v c qs :=
  ⟨h.hb, by rw [hw _ (lt_of h.blk)]; exact h.blk, sig_of h.sig (fun k o hk _ => by rw [hw _ (lt_of hk)]; exact hk), row_kept h.own (fun g hg => hw g (h.own.lt g hg).2), h.len,
   fun j hj => ⟨(h.recs j hj).1, by rw [hw _ (lt_of (h.recs j hj).2)]; exact (h.recs j hj).2⟩⟩

theorem IsBl.kept {base : Nat} {w w' : World} {b : Nat} {fi fo : Int} {rs : List Rec} {fired : Bool} (h : IsBl base w b fi fo rs fired) (hw : ∀ k, k < w.heap.size → w'.heap[k]? = w.heap[k]?) : IsBl base w' b fi fo rs fired := by
  obtain ⟨v, c, qs, h⟩ := h
  exact ⟨v, c, qs, h.kept hw⟩

theorem IsBl.below {base : Nat} {w w' : World} {b : Nat} {fi fo : Int} {rs : List Rec} {fired : Bool} (h : IsBl base w b fi fo rs fired) (hw : Below w.heap.size w w') : IsBl base w' b fi fo rs fired :=
  h.kept hw.block

theorem chan64 (w : World) : (Instr.makeChan 64 (.int .i64 0)).run Try.prog w = .ok (.chan (some w.heap.size)) (w.alloc (.chan 0 #[] false 0 0 false)) := by kernel_rfl

theorem heap_new (w : World) (o : Obj) : (w.alloc o).heap[w.heap.size]? = some o := by
  show (w.heap.push o)[w.heap.size]? = _
  simp

set_option maxHeartbeats 400000 in
theorem new25 (fi fo : Int) (w : World) : Calls Try.prog 25 #[.int .i64 fi, .int .i64 fo] w fun e w' =>
    ∃ b, e = .returned (.pointer (some ⟨b, 0, none⟩)) ∧ IsBl w.heap.size w' b fi fo [] false ∧ Below w.heap.size w w' := by
  have hc := chan64
  go_enter Try.func25, Try.ntmps25
  go_wp2
  go_ret
  refine ⟨_, rfl, ⟨.slice none 0 0, .chan (some w.heap.size), [], ?_⟩, ((Below.refl _ _).alloc (Nat.le_refl _) _).alloc (by simp) _⟩
  refine ⟨Nat.le_succ _, ?_, ⟨w.heap.size, Nat.le_refl _, rfl, ?_⟩, World.ownsRow_nil _ _ _ _, rfl, fun j hj => absurd hj (by simp)⟩
  · have := heap_new (w.alloc (.chan 0 #[] false 0 0 false)) (.cells (blCells fi fo (.slice none 0 0) (.chan (some w.heap.size))) 74)
    rw [World.size_alloc] at this
    exact this
  · rw [Below.heap_alloc _ _ _ (by simp)]
    exact heap_new _ _

theorem info89 : (Try.prog.info? 89).map (fun i => (i.zero, i.size, i.bytes)) = some (some (.pointer none), 1, 8) := by kernel_rfl

/-! ### the getters -/
theorem flushedI16 (b : Nat) (fi : Int) (w : World) (h : w.cell? ⟨b, 8, none⟩ = some (.int .i64 fi)) :
    Calls Try.prog 16 #[.pointer (some ⟨b, 0, none⟩)] w fun e w' => e = .returned (.int .i64 fi) ∧ w' = w := by
  go_enter Try.func16, Try.ntmps16
  go_wp2
  go_ret
  exact ⟨rfl, rfl⟩
theorem flushedO17 (b : Nat) (fo : Int) (w : World) (h : w.cell? ⟨b, 9, none⟩ = some (.int .i64 fo)) :
    Calls Try.prog 17 #[.pointer (some ⟨b, 0, none⟩)] w fun e w' => e = .returned (.int .i64 fo) ∧ w' = w := by
  go_enter Try.func17, Try.ntmps17
  go_wp2
  go_ret
  exact ⟨rfl, rfl⟩
theorem len13 (b n cap : Nat) (a : Option Addr) (w : World) (h : w.cell? ⟨b, 10, none⟩ = some (.slice a n cap)) :
    Calls Try.prog 13 #[.pointer (some ⟨b, 0, none⟩)] w fun e w' => e = .returned (.int .i64 n) ∧ w' = w := by
  go_enter Try.func13, Try.ntmps13
  go_wp2
  go_ret
  exact ⟨rfl, rfl⟩
theorem eqlSome (k : Nat) (w : World) : (binOp .eql 64 (.chan (some k)) (.chan none)).run Try.prog w = .ok (.bool false) w := by kernel_rfl
theorem eqlNone (w : World) : (binOp .eql 64 (.chan none) (.chan none)).run Try.prog w = .ok (.bool true) w := by kernel_rfl
theorem neqSome (k : Nat) (w : World) : (binOp .neq 64 (.chan (some k)) (.chan none)).run Try.prog w = .ok (.bool true) w := by kernel_rfl
theorem neqNone (w : World) : (binOp .neq 64 (.chan none) (.chan none)).run Try.prog w = .ok (.bool false) w := by kernel_rfl
theorem fired18n (b : Nat) (w : World) (h : w.cell? ⟨b, 11, none⟩ = some (.chan none)) :
    Calls Try.prog 18 #[.pointer (some ⟨b, 0, none⟩)] w fun e w' => e = .returned (.bool true) ∧ w' = w := by
  have h1 := eqlNone
  go_enter Try.func18, Try.ntmps18
  go_wp2
  go_ret
  exact ⟨rfl, rfl⟩
theorem fired18s (b k : Nat) (w : World) (h : w.cell? ⟨b, 11, none⟩ = some (.chan (some k))) :
    Calls Try.prog 18 #[.pointer (some ⟨b, 0, none⟩)] w fun e w' => e = .returned (.bool false) ∧ w' = w := by
  have h1 := eqlSome k
  go_enter Try.func18, Try.ntmps18
  go_wp2
  go_ret
  exact ⟨rfl, rfl⟩
end Go.Proofs.Qxb6616008a.Pos
