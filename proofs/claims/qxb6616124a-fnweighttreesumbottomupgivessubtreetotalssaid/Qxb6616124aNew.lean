import Derived.Test.Qxb6616124aSum
namespace Go.Proofs.Qxb6616124a.Tr
open Go.RowKit
open Go.Proofs.Qxb6616124a.Flt (F)

def node0 : List Value := [.int .u64 0, .int .u64 0, .float .f64 0]
def dyn0 : List Value := [.int .u64 0, .int .u32 0, .float .f64 0, .int .i64 0]

theorem info49 : (Try.prog.info? 49).map (fun i => (i.zero, i.size, i.bytes)) = some (some (.agg node0.toArray), 3, 24) := by kernel_rfl
theorem info79 : (Try.prog.info? 79).map (fun i => (i.zero, i.size, i.bytes)) = some (some (.agg dyn0.toArray), 4, 32) := by kernel_rfl

theorem made_at (l : List Value) (K n j i : Nat) (hl : l.length = K) (hj : j < n) (hi : i < K) : (madeCells l.toArray (n * K))[j * K + i]? = l[i]? := by
  have hlt : j * K + i < n * K := by
    have : (j + 1) * K ≤ n * K := Nat.mul_le_mul_right K hj
    have : (j + 1) * K = j * K + K := by rw [Nat.add_mul, Nat.one_mul]
    omega
  have hmod : (j * K + i) % l.length = i := by
    rw [hl, Nat.add_comm, Nat.add_mul_mod_self_right, Nat.mod_eq_of_lt hi]
  unfold madeCells
  rw [Array.getElem?_map, Array.getElem?_eq_getElem (by simpa using hlt)]
  simp only [Array.getElem_range, Option.map_some, List.size_toArray, hmod]
  rw [List.getElem?_eq_getElem (by omega), getElem!_pos _ _ (by simp; omega)]
  simp

theorem cell_of {w : World} {b : Nat} {cs : Array Value} {t : TypeId} (h : w.heap[b]? = some (.cells cs t)) (i : Nat) : w.cell? ⟨b, i, none⟩ = cs[i]? := by
  simp [World.cell?, h]
theorem frozen_of {w : World} {b : Nat} {cs : Array Value} {t : TypeId} (h : w.heap[b]? = some (.cells cs t)) (i : Nat) : w.frozen? ⟨b, i, none⟩ = false := by
  simp [World.frozen?, h]

theorem tree_new {w : World} {tb nb N : Nat} {cs : Array Value} {t t' : TypeId} (hn : w.heap[nb]? = some (.cells (madeCells node0.toArray (N * 3)) t)) (ht : w.heap[tb]? = some (.cells cs t')) (hc : cs[3]? = some (.slice (some ⟨nb, 0, none⟩) N N)) (hne : tb ≠ nb) :
    Tree w tb nb N (fun _ => 0) (fun _ => 0) (fun _ => 0) := by
  refine ⟨hne, by rw [cell_of ht, hc], ?_, ?_, ?_, fun i => frozen_of hn i⟩
  · intro i hi
    rw [cell_of hn, Flt.F_zero]; exact made_at node0 3 N i 0 rfl hi (by omega)
  · intro i hi
    rw [cell_of hn, Flt.F_zero]; exact made_at node0 3 N i 1 rfl hi (by omega)
  · intro i hi
    rw [cell_of hn, Flt.F_zero]; exact made_at node0 3 N i 2 rfl hi (by omega)

theorem heap_three (w : World) (a b c : Obj) (k : Nat) : (((w.alloc a).alloc b).alloc c).drew.heap[k]? = if k = w.heap.size + 2 then some c else if k = w.heap.size + 1 then some b else if k = w.heap.size then some a else w.heap[k]? := by
  show ((((w.heap.push a).push b).push c))[k]? = _
  simp only [Array.getElem?_push, Array.size_push]

theorem below_three (w : World) (a b c : Obj) : Below w.heap.size w (((w.alloc a).alloc b).alloc c).drew := by
  refine (((Below.refl _ _).alloc (Nat.le_refl _) a).alloc ?_ b).alloc ?_ c |>.drew
  · simp
  · simp; omega

theorem makeA (L : Nat) (hL : L ≤ 65536) (w : World) : (Instr.makeSlice 35 (.int .i64 (2 * (L : Int))) (.int .i64 (2 * (L : Int)))).run Try.prog w =
    .ok (.slice (some ⟨w.heap.size, 0, none⟩) (2 * L) (2 * L)) (w.alloc (.cells (madeCells node0.toArray (2 * L * 3)) 49)) := by
  obtain ⟨i, hi, hz, hs, hb⟩ := info_parts info49
  have h := run_make (P := Try.prog) w 35 49 i (.agg node0.toArray) Try.underlying35 hi hz .i64 .i64 (2 * (L : Int)) (2 * (L : Int)) (by omega) (by omega) (by rw [hb]; omega) (by omega)
  have e : (2 * (L : Int)).toNat = 2 * L := by omega
  rw [e, hs] at h
  exact h

theorem makeB (L : Nat) (hL : L ≤ 65536) (w : World) : (Instr.makeSlice 36 (.int .i64 (L : Int)) (.int .i64 (L : Int))).run Try.prog w =
    .ok (.slice (some ⟨w.heap.size, 0, none⟩) L L) (w.alloc (.cells (madeCells dyn0.toArray (L * 4)) 79)) := by
  obtain ⟨i, hi, hz, hs, hb⟩ := info_parts info79
  have h := run_make (P := Try.prog) w 36 79 i (.agg dyn0.toArray) Try.underlying36 hi hz .i64 .i64 (L : Int) (L : Int) (by omega) (by omega) (by rw [hb]; omega) (by omega)
  rw [Int.toNat_natCast, hs] at h
  exact h

set_option maxHeartbeats 400000 in
theorem newBare6 (L : Nat) (hL : L ≤ 65536) (w : World) :
    Calls Try.prog 6 #[.int .i64 L] w fun e w' => ∃ tb nb, e = .returned (.pointer (some ⟨tb, 0, none⟩)) ∧ w.heap.size ≤ nb ∧ Tree w' tb nb (2 * L) (fun _ => 0) (fun _ => 0) (fun _ => 0) ∧ Below w.heap.size w w' := by
  have hA := makeA L hL
  have hB := makeB L hL
  generalize hcA : madeCells node0.toArray (2 * L * 3) = cA at hA
  generalize madeCells dyn0.toArray (L * 4) = cB at hB
  have HA : Hid (madeCells node0.toArray (2 * L * 3) = cA) := hcA
  clear hcA
  go_enter Try.func6, Try.ntmps6
  go_wp2
  go_region
  · go_wp2
    go_ret
    refine ⟨w.heap.size + 2, w.heap.size, rfl, Nat.le_refl _, tree_new (t := 49) (t' := 45) (by rw [heap_three, HA.out]; simp) (by rw [heap_three, if_pos rfl]) rfl (by omega), below_three ..⟩
  · go_wp2
    go_ret
    refine ⟨w.heap.size + 2, w.heap.size + 1, rfl, by omega, tree_new (t := 49) (t' := 45) (by rw [heap_three, HA.out]; simp) (by rw [heap_three, if_pos rfl]) rfl (by omega), below_three ..⟩

end Go.Proofs.Qxb6616124a.Tr
