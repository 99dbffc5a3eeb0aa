import Derived.Test.Qxb6617634aRows
import Derived.Test.Qxb6617634aMap
import Derived.Test.Qxb6617634aShelf
import Derived.WalkKit
import Derived.ProofKit
import Derived.OpenShut
import Derived.Deep.QuietTactic
import Derived.BigQuiet
import Derived.RegionCalls
import Derived.Deep.RegionWith
import Derived.Deep.Draws
import Derived.Deep.RegionHeld3
import Derived.WalkLawsBesides
import Derived.Carry
import Derived.Maps.Own
import Derived.Maps.OwnOps
import Derived.Below
namespace Go.Proofs.Qxb6617634a.Mp
open Go.RowKit Go.Maps Go.Shelf

theorem law9 : Keyed Try.prog 9 := string_keyed Try.underlying9

def R : Value → Option (DataW Unit × List MemPlace)
  | .bool x => some (.lit (.bool x), [])
  | _ => none

theorem keyOf9 {s : ByteArray} (h : s.size ≤ 1048576) : keyOf Try.prog 9 (.string s) = some (key s) := Go.WideMaps.keyOf_string_mk Try.underlying9 (by unfold maxLen; omega)

theorem R_bool (b : Bool) : R (.bool b) = some (.lit (.bool b), []) := rfl

theorem R_inv {v : Value} {z : DataW Unit × List MemPlace} (h : R v = some z) : ∃ b, v = .bool b ∧ z = (.lit (.bool b), []) := by
  cases v <;> simp [R] at h
  exact ⟨_, rfl, h.symm⟩

/-- The map at p (nil or a block) holds just what f says; at most c entries. -/
def MapIs (w : World) (p : Option Nat) (f : ByteArray → Option Bool) (c : Nat) : Prop :=
  ∃ D, SrcOf Try.prog 9 R w p D ∧ Rf D f ∧ Maps.size D ≤ c

theorem MapIs.lt {w : World} {p : Option Nat} {f : ByteArray → Option Bool} {c : Nat} (h : MapIs w p f c) : ∀ b, p = some b → b < w.heap.size := by
  obtain ⟨D, hD, _⟩ := h; exact hD.lt

theorem owns_below {w w' : World} {B b n : Nat} {D : DataW Unit} (h : w.ownsMap Try.prog 9 R b n D) (hb : Below B w w') (hlt : b < B) : w'.ownsMap Try.prog 9 R b n D := by
  obtain ⟨es, clock, h1, h2⟩ := h
  exact ⟨es, clock, by rw [hb.block b hlt]; exact h1, h2⟩

theorem MapIs.below {w w' : World} {B : Nat} {p : Option Nat} {f : ByteArray → Option Bool} {c : Nat} (h : MapIs w p f c) (hb : Below B w w') (hlt : ∀ b, p = some b → b < B) : MapIs w' p f c := by
  obtain ⟨D, hD, h2⟩ := h
  refine ⟨D, ?_, h2⟩
  rcases hD with h | ⟨b, n, rfl, ho⟩
  · exact .inl h
  · exact .inr ⟨b, n, rfl, owns_below ho hb (hlt b rfl)⟩

theorem SrcOf.canon {w : World} {p : Option Nat} {D : DataW Unit} (h : SrcOf Try.prog 9 R w p D) : D = .nil ∨ Canon D := by
  rcases h with ⟨_, h⟩ | ⟨b, n, _, ho⟩
  · exact .inl h
  · exact .inr (ho.canon law9)

/-- 'v, ok := m[s]'. -/
theorem MapIs.look {w : World} {p : Option Nat} {f : ByteArray → Option Bool} {c : Nat} (h : MapIs w p f c) {s : ByteArray} (hs : s.size ≤ 1048576) :
    (Instr.lookup 30 (.map p) (.string s) true).run Try.prog w = .ok (.tuple #[.bool ((f s).getD false), .bool (f s).isSome]) w := by
  obtain ⟨D, hD, hf, _⟩ := h
  rcases hD with ⟨rfl, rfl⟩ | ⟨b, n, rfl, ho⟩
  · have := Maps.look_nil (P := Try.prog) (w := w) true law9 Try.underlying30 (z := .bool false) (Try.zeroValue4 _) (keyOf9 hs)
    have e := hf.hs s
    cases hfs : f s with
    | none => exact this
    | some x => rw [hfs] at e; cases e
  · obtain ⟨v, ps, hrun, hv⟩ := ho.look_ok law9 Try.underlying30 (z := .bool false) (Try.zeroValue4 _) (R_bool false) (keyOf9 hs)
    obtain ⟨b', rfl, hz⟩ := R_inv hv
    rw [hrun, hf.hs s]
    cases e : f s with
    | none =>
      have hn : Maps.has D (key s) = false := by rw [hf.hs s, e]; rfl
      rw [atKey_of_not_has hn] at hz
      simp at hz
      obtain ⟨rfl, _⟩ := hz
      rfl
    | some x =>
      rw [hf.at_ s x e] at hz
      simp at hz
      obtain ⟨rfl, _⟩ := hz
      rfl

/-- 'len(m)'. -/
theorem MapIs.len {w : World} {p : Option Nat} {f : ByteArray → Option Bool} {c : Nat} (h : MapIs w p f c) (l : List ByteArray) (hl : l.Pairwise (· ≠ ·)) (hf : ∀ s, (f s).isSome = true ↔ s ∈ l) (ty : TypeId) :
    (Builtin.len_ #[30] ty #[.map p]).run Try.prog w = .ok (.int .i64 l.length) w := by
  obtain ⟨D, hD, hr, _⟩ := h
  rw [← rf_size hr (SrcOf.canon hD) l hl hf]
  rcases hD with ⟨rfl, rfl⟩ | ⟨b, n, rfl, ho⟩
  · exact Maps.len_nil Try.underlying30 ty
  · exact ho.len Try.underlying30 ty

/-- What a step makes of the names. -/
def stepf (f : ByteArray → Option Bool) (same : Bool) (s : ByteArray) : ByteArray → Option Bool :=
  fun x => if same then (f x).or (if x = s then some true else none) else if x = s then some true else none

/-- Behind the map's filling: the result's cells are there, the map holds what it shall. -/
structure End9 (z : Int) (w : World) (rb mb : Nat) (f : ByteArray → Option Bool) (c : Nat) (w' : World) : Prop where
  mp : MapIs w' (some mb) f c
  below : Below w.heap.size w w'
  res : w'.heap[rb]? = some (.cells #[.int .u64 0, .map none] 40)
  sz : mb < w'.heap.size

theorem End9.b0 {z : Int} {w w' : World} {rb mb : Nat} {f : ByteArray → Option Bool} {c : Nat} (h : End9 z w rb mb f c w') : w'.cell? ⟨rb, 0, none⟩ = some (.int .u64 0) := by simp [World.cell?, h.res]
theorem End9.b1 {z : Int} {w w' : World} {rb mb : Nat} {f : ByteArray → Option Bool} {c : Nat} (h : End9 z w rb mb f c w') : w'.cell? ⟨rb, 1, none⟩ = some (.map none) := by simp [World.cell?, h.res]
theorem End9.y0 {z : Int} {w w' : World} {rb mb : Nat} {f : ByteArray → Option Bool} {c : Nat} (h : End9 z w rb mb f c w') : w'.frozen? ⟨rb, 0, none⟩ = false := by simp [World.frozen?, h.res]
theorem End9.y1 {z : Int} {w w' : World} {rb mb : Nat} {f : ByteArray → Option Bool} {c : Nat} (h : End9 z w rb mb f c w') : w'.frozen? ⟨rb, 1, none⟩ = false := by simp [World.frozen?, h.res]

theorem heap_set {w : World} {b : Nat} {cs : Array Value} {t : TypeId} (h : w.heap[b]? = some (.cells cs t)) (o : Nat) (u : Value) : (w.setCell ⟨b, o, none⟩ u).heap[b]? = some (.cells (cs.setIfInBounds o u) t) := by
  simp [World.setCell, Array.getElem?_modify, h]

theorem MapIs.setCell {w : World} {p : Option Nat} {f : ByteArray → Option Bool} {c : Nat} (h : MapIs w p f c) {a : Addr} (ha : p ≠ some a.block) (u : Value) : MapIs (w.setCell a u) p f c := by
  obtain ⟨D, hD, h2⟩ := h
  refine ⟨D, ?_, h2⟩
  rcases hD with h | ⟨b, n, rfl, ho⟩
  · exact .inl h
  · exact .inr ⟨b, n, rfl, ho.setCell (fun e => ha (by rw [e])) u⟩

theorem End9.fin {z : Int} {w w' : World} {rb mb : Nat} {f : ByteArray → Option Bool} {c : Nat} (h : End9 z w rb mb f c w') (hne : mb ≠ rb) (hrb : w.heap.size ≤ rb) :
    (((w'.setCell ⟨rb, 0, none⟩ (.int .u64 z)).setCell ⟨rb, 1, none⟩ (.map (some mb))).heap[rb]? = some (.cells #[.int .u64 z, .map (some mb)] 40)) ∧
    MapIs ((w'.setCell ⟨rb, 0, none⟩ (.int .u64 z)).setCell ⟨rb, 1, none⟩ (.map (some mb))) (some mb) f c ∧
    Below w.heap.size w ((w'.setCell ⟨rb, 0, none⟩ (.int .u64 z)).setCell ⟨rb, 1, none⟩ (.map (some mb))) := by
  refine ⟨?_, ?_, (h.below.setCell hrb _).setCell hrb _⟩
  · rw [heap_set (heap_set h.res 0 _) 1 _]; rfl
  · exact (h.mp.setCell (by simpa using hne) _).setCell (by simpa using hne) _

set_option maxHeartbeats 1000000 in
theorem after9 (z0 z : Int) (p : Option Nat) (s : ByteArray) (f : ByteArray → Option Bool) (c : Nat) (w : World) (h : MapIs w p f c) (hs : s.size ≤ 1048576) (hc : c ≤ 100000) :
    Calls Try.prog 9 #[.agg #[.int .u64 z0, .map p], .int .u64 z, .string s] w fun e w' => ∃ b, e = .returned (.agg #[.int .u64 z, .map (some b)]) ∧ w.heap.size ≤ b ∧ MapIs w' (some b) (stepf f (z == z0) s) (c + 1) ∧ Below w.heap.size w w' := by
  have hmm := @run_makeMap Try.prog
  have hlt := h.lt
  obtain ⟨A, hA⟩ : ∃ A, A = Obj.cells #[.int .u64 z0, .map p] 40 := ⟨_, rfl⟩
  obtain ⟨B, hB⟩ : ∃ B, B = Obj.cells #[.int .u64 0, .map none] 40 := ⟨_, rfl⟩
  obtain ⟨w1, hw1⟩ : ∃ w1, w1 = (w.alloc A).alloc B := ⟨_, rfl⟩
  have sz1 : w1.heap.size = w.heap.size + 2 := by rw [hw1]; simp
  have hmade := World.ownsMap_made w1 Try.prog 9 R
  obtain ⟨w3, hrun, hown, hg⟩ := hmade.update law9 Try.underlying30 (by unfold maxLen; omega) (keyOf9 hs) (R_bool true)
  rw [sz1] at hrun hown hg
  have hb0 : Below w.heap.size w w3 := by
    subst hw1
    exact ((((Below.refl _ w).alloc (Nat.le_refl _) A).alloc (by simp) B).alloc (by simp; omega) _).grown hg (by simp; omega) (fun k hk => by cases hk; omega)
  have kA : w3.heap[w.heap.size]? = some (.cells #[.int .u64 z0, .map p] 40) := by
    rw [hg.block w.heap.size (by simp; omega) (by simp), heap_alloc_old _ _ _ (by rw [sz1]; omega), hw1, heap_alloc_old _ _ _ (by simp), heap_alloc_new, hA]
  have kB : w3.heap[w.heap.size + 1]? = some (.cells #[.int .u64 0, .map none] 40) := by
    rw [hg.block (w.heap.size + 1) (by simp; omega) (by simp), heap_alloc_old _ _ _ (by rw [sz1]; omega), hw1, heap_alloc2_new, hB]
  have sz3 : w.heap.size + 3 ≤ w3.heap.size := by
    have := hg.size
    simp at this; omega
  obtain ⟨D, hD, hr, hsz⟩ := h.below hb0 hlt
  clear hmade h
  have a0 : w3.cell? ⟨w.heap.size, 0, none⟩ = some (.int .u64 z0) := by simp [World.cell?, kA]
  have a1 : w3.cell? ⟨w.heap.size, 1, none⟩ = some (.map p) := by simp [World.cell?, kA]
  have hne : p ≠ some (w.heap.size + 2) := fun e => by have := hlt _ e; omega
  have hrf : Rf ((DataW.map []).put (key s) (DataW.lit (Lit.bool true))) (fun x => if x = s then some true else none) := rf_put rf_empty isMap_empty s true
  have him : IsMap ((DataW.map [] : DataW Unit).put (key s) (DataW.lit (Lit.bool true))) := isMap_empty.put _ _
  by_cases hz : z = z0
  · have hzb : (z == z0) = true := by simp [hz]
    have hcon : Calls Try.prog 10 #[.map (some (w.heap.size + 2)), .map p] w3 _ := AnyX.maps_Copy_opt Try.copyS law9 R (w.heap.size + 2) (0 + 1) p _ D w3 hown hD hne (by unfold maxLen; omega)
    have hm2 := rf_merge hrf hr him (SrcOf.canon hD)
    have hend : ∀ w4 : World, w4.ownsMap Try.prog 9 R (w.heap.size + 2) (0 + 1 + Maps.size D) (Lib.mergeD ((DataW.map []).put (key s) (DataW.lit (Lit.bool true))) D) → w3.grownBy w4 (some (w.heap.size + 2)) →
        End9 z w (w.heap.size + 1) (w.heap.size + 2) (stepf f (z == z0) s) (c + 1) w4 := by
      intro w4 ho hg4
      refine ⟨?_, hb0.grown hg4 (by omega) (fun k hk => by cases hk; omega), by rw [hg4.block _ (by omega) (by simp)]; exact kB, by have := hg4.size; omega⟩
      refine ⟨_, .inr ⟨_, _, rfl, ho⟩, ?_, by have := ho.size_le; omega⟩
      have e : stepf f (z == z0) s = fun x => (f x).or (if x = s then some true else none) := by funext x; simp [stepf, hzb]
      rw [e]; exact hm2
    have HE : Hid _ := hend
    subst hw1 hA hB
    clear hend hm2 hr hrf him hown hD hg sz1 kA kB hb0
    go_enter Try.func9, Try.ntmps9
    go_wp2_with fail
    refine hcon.mono ?_
    rintro e w4 ⟨rfl, ho, hg4⟩
    have H4 := HE.out w4 ho hg4
    clear ho hg4 HE hrun hcon a0 a1 
    have b0 := H4.b0
    have b1 := H4.b1
    have y0 := H4.y0
    have y1 := H4.y1
    obtain ⟨q1, q2, q3⟩ := H4.fin (by omega) (by omega)
    have Q1 : Hid _ := q1
    have Q2 : Hid _ := q2
    have Q3 : Hid _ := q3
    clear H4 q1 q2 q3
    subst hz
    go_wp2
    refine bodyPost_ret (results_cell_row rfl _ _ (w.heap.size + 1) 40 _ (0, 0) _ rfl Q1.out Try.underlying40 rfl (by kernel_rfl)) rfl ?_
    exact ⟨_, rfl, by omega, Q2.out, Q3.out⟩
  · have hzb : (z == z0) = false := by simp [hz]
    have H4 : End9 z w (w.heap.size + 1) (w.heap.size + 2) (stepf f (z == z0) s) (c + 1) w3 := by
      refine ⟨⟨_, .inr ⟨_, _, rfl, hown⟩, ?_, by have := hown.size_le; omega⟩, hb0, kB, by omega⟩
      have e : stepf f (z == z0) s = fun x => if x = s then some true else none := by funext x; simp [stepf, hzb]
      rw [e]; exact hrf
    subst hw1 hA hB
    clear hr hrf him hown hD hg sz1 kA kB hb0
    have b0 := H4.b0
    have b1 := H4.b1
    have y0 := H4.y0
    have y1 := H4.y1
    obtain ⟨q1, q2, q3⟩ := H4.fin (by omega) (by omega)
    have Q1 : Hid _ := q1
    have Q2 : Hid _ := q2
    have Q3 : Hid _ := q3
    clear H4 q1 q2 q3
    go_enter Try.func9, Try.ntmps9
    go_wp2
    refine bodyPost_ret (results_cell_row rfl _ _ (w.heap.size + 1) 40 _ (0, 0) _ rfl Q1.out Try.underlying40 rfl (by kernel_rfl)) rfl ?_
    exact ⟨_, rfl, by omega, Q2.out, Q3.out⟩

end Go.Proofs.Qxb6617634a.Mp
