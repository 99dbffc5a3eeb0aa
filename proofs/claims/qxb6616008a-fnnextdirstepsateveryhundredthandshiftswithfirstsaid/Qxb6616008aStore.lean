import Derived.Test.Qxb6616008aRows
import Derived.WalkKit
import Derived.ProofKit
import Derived.OpenShut
import Derived.Deep.QuietTactic
import Derived.BigQuiet
import Derived.RegionCalls
import Derived.Deep.RegionWith
namespace Go.Proofs.Qxb6616008a.Store
open Go.RowKit

theorem store41 {a : Addr} {y : Int} {u : Value} {w : World} (hc : w.cell? a = some u) (hz : w.frozen? a = false) :
    (callFunc 41 #[.pointer (some a), .int .u64 y]).run Try.prog w = .ok (.value (.tuple #[])) (w.setCell a (.int .u64 y)) :=
  run_call_store (P := Try.prog) Try.func41 (by kernel_rfl) (by kernel_rfl) (by kernel_rfl) (by kernel_rfl) hc hz

theorem load43 {a : Addr} {x : Int} {w : World} (hc : w.cell? a = some (.int .u64 x)) :
    (callFunc 43 #[.pointer (some a)]).run Try.prog w = .ok (.value (.int .u64 x)) w :=
  run_call_load (P := Try.prog) Try.func43 (by kernel_rfl) (by kernel_rfl) (by kernel_rfl) .u64 (by kernel_rfl) hc

theorem add46 {a : Addr} {x y : Int} {w : World} (hc : w.cell? a = some (.int .u64 x)) (hz : w.frozen? a = false) :
    (callFunc 46 #[.pointer (some a), .int .u64 y]).run Try.prog w = .ok (.value (.int .u64 (IntKind.u64.wrap (x + y)))) (w.setCell a (.int .u64 (IntKind.u64.wrap (x + y)))) :=
  run_call_add (P := Try.prog) Try.func46 (by kernel_rfl) (by kernel_rfl) (by kernel_rfl) .u64 (by kernel_rfl) hc hz (by simp [Op.intArith])

set_option maxHeartbeats 400000 in
theorem newStore (f p : Int) (w : World) :
    Calls Try.prog 21 #[.int .u16 f, .int .u64 p] w fun e w' => e = .returned (.pointer (some ⟨w.heap.size, 0, none⟩)) ∧
      w' = w.alloc (.cells #[.int .u8 0, .string ⟨#[]⟩, .int .u64 0, .int .u16 f, .int .u64 p, .int .i32 0, .int .u32 0, .map none] 84) := by
  have hs := @store41
  go_enter Try.func21, Try.ntmps21
  go_wp2
  go_end0
  go_wp2
  go_ret
  exact ⟨rfl, rfl⟩

theorem add42 (a : Addr) (x : Int) (w : World) (hc : w.cell? a = some (.int .u64 x)) (hz : w.frozen? a = false) :
    Calls Try.prog 42 #[.pointer (some a), .int .u64 1] w fun e w' => e = .returned (.int .u64 (IntKind.u64.wrap (x + 1))) ∧ w' = w.setCell a (.int .u64 (IntKind.u64.wrap (x + 1))) := by
  have hs := @add46
  go_enter Try.func42, Try.ntmps42
  go_wp2
  go_ret
  exact ⟨rfl, rfl⟩

theorem load36 (a : Addr) (x : Int) (w : World) (hc : w.cell? a = some (.int .u64 x)) :
    Calls Try.prog 36 #[.pointer (some a)] w fun e w' => e = .returned (.int .u64 x) ∧ w' = w := by
  have hs := @load43
  go_enter Try.func36, Try.ntmps36
  go_wp2
  go_ret
  exact ⟨rfl, rfl⟩

theorem placed24 (b : Nat) (x : Int) (w : World) (hc : w.cell? ⟨b, 4, none⟩ = some (.int .u64 x)) :
    Calls Try.prog 24 #[.pointer (some ⟨b, 0, none⟩)] w fun e w' => e = .returned (.int .u64 x) ∧ w' = w := by
  go_enter Try.func24, Try.ntmps24
  go_wp2_with (go_at_call 36; refine (load36 _ x _ ?_).mono ?_; exact hc; rintro e w' ⟨rfl, rfl⟩)
  go_ret
  exact ⟨rfl, rfl⟩

theorem or_u16 (h l : Int) (h0 : 0 ≤ h) (h1 : h < 256) (l0 : 0 ≤ l) (l1 : l < 256) :
    bits .or .u16 (IntKind.u16.wrap (IntKind.u16.wrap h * 256)) (IntKind.u16.wrap l) = h * 256 + l := by
  have e1 : IntKind.u16.wrap h = h := by simp [IntKind.wrap_u16]; omega
  have e2 : IntKind.u16.wrap l = l := by simp [IntKind.wrap_u16]; omega
  have e3 : IntKind.u16.wrap (h * 256) = h * 256 := by simp [IntKind.wrap_u16]; omega
  rw [e1, e2, e3, u16_or _ _ (by omega) (by omega) (by omega) (by omega)]
  obtain ⟨a, rfl⟩ := Int.eq_ofNat_of_zero_le h0
  obtain ⟨b, rfl⟩ := Int.eq_ofNat_of_zero_le l0
  have : ((a : Int) * 256).toNat = 2 ^ 8 * a := by omega
  rw [this, Int.toNat_natCast, ← Nat.two_pow_add_eq_or_of_lt (by omega)]
  omega

theorem or_u16' (h l : Int) (h0 : 0 ≤ h) (h1 : h < 256) (l0 : 0 ≤ l) (l1 : l < 256) : bits .or .u16 (h * 256) l = h * 256 + l := by
  have e1 : IntKind.u16.wrap h = h := by simp [IntKind.wrap_u16]; omega
  have e2 : IntKind.u16.wrap l = l := by simp [IntKind.wrap_u16]; omega
  have e3 : IntKind.u16.wrap (h * 256) = h * 256 := by simp [IntKind.wrap_u16]; omega
  have := or_u16 h l h0 h1 l0 l1
  rw [e1, e2, e3] at this
  exact this

theorem dirOf22 (h l : Int) (w : World) (h0 : 0 ≤ h) (h1 : h < 256) (l0 : 0 ≤ l) (l1 : l < 256) :
    Calls Try.prog 22 #[.agg #[.int .u8 h, .int .u8 l]] w fun e w' => e = .returned (.int .u16 (h * 256 + l)) ∧ w' = w.alloc (.cells #[.int .u8 h, .int .u8 l] 44) := by
  go_enter Try.func22, Try.ntmps22
  go_wp2
  go_ret
  refine ⟨?_, rfl⟩
  rw [← or_u16' h l h0 h1 l0 l1]
  rfl

/-- The directory that the upload number p gets, as one number. -/
def dirD (f p : Int) : Int := (f + p / 100) % 65536

theorem dirD_wrap (f p : Int) : IntKind.u16.wrap (f + IntKind.u16.wrap (p / 100)) = dirD f p := by
  simp only [IntKind.wrap_u16, dirD]; omega

theorem dirD_hi (f p : Int) : dirD f p / 256 % 256 = dirD f p / 256 := by unfold dirD; omega
theorem dirD_bd (f p : Int) : 0 ≤ dirD f p ∧ dirD f p < 65536 := by unfold dirD; omega

/-- A store struct lies at block b: its first directory f, p uploads placed. -/
structure St (w : World) (b : Nat) (f p : Int) : Prop where
  lt : b < w.heap.size
  c3 : w.cell? ⟨b, 3, none⟩ = some (.int .u16 f)
  c4 : w.cell? ⟨b, 4, none⟩ = some (.int .u64 p)
  z : w.frozen? ⟨b, 4, none⟩ = false

/-- From w to w' only block b and new blocks have turned. -/
structure Moves (b : Nat) (w w' : World) : Prop where
  grown : ∀ W, W.heap.size ≤ b → Grown W w → Grown W w'
  size : w.heap.size ≤ w'.heap.size
  other : ∀ k, k < w.heap.size → k ≠ b → w'.heap[k]? = w.heap[k]?

theorem Moves.refl (b : Nat) (w : World) : Moves b w w := ⟨fun _ _ h => h, Nat.le_refl _, fun _ _ _ => rfl⟩
theorem Moves.trans {b : Nat} {w w1 w2 : World} (h : Moves b w w1) (k : Moves b w1 w2) : Moves b w w2 :=
  ⟨fun W hW hg => k.grown W hW (h.grown W hW hg), Nat.le_trans h.size k.size, fun i hi hb => (k.other i (Nat.lt_of_lt_of_le hi h.size) hb).trans (h.other i hi hb)⟩
theorem Moves.drew {b : Nat} {w w1 : World} (h : Moves b w w1) : Moves b w w1.drew := h.trans ⟨fun _ _ h => h.drew, Nat.le_refl _, fun _ _ _ => rfl⟩
theorem Moves.alloc {b : Nat} {w w1 : World} (h : Moves b w w1) (c : Array Value) (t : TypeId) : Moves b w (w1.alloc (.cells c t)) :=
  h.trans ⟨fun _ _ h => h.alloc c t, by simp, fun k hk _ => Below.heap_alloc _ _ _ hk⟩
theorem Moves.setCell {b : Nat} {w w1 : World} (h : Moves b w w1) (o : Nat) (v : Value) : Moves b w (w1.setCell ⟨b, o, none⟩ v) :=
  h.trans ⟨fun _ hb h => h.setCell hb v, by simp [World.setCell], fun k _ hk => Below.heap_setCell _ _ _ _ hk⟩

theorem St.other {w w' : World} {b b' : Nat} {f p : Int} (h : St w b f p) (m : Moves b' w w') (hb : b ≠ b') : St w' b f p :=
  ⟨Nat.lt_of_lt_of_le h.lt m.size, by rw [World.cell?_of_block (w := w) (m.other b h.lt hb)]; exact h.c3,
   by rw [World.cell?_of_block (w := w) (m.other b h.lt hb)]; exact h.c4, by rw [World.frozen?_of_block (w := w) (m.other b h.lt hb)]; exact h.z⟩

theorem St.alloc {w : World} {b : Nat} {f p : Int} (h : St w b f p) (c : Array Value) (t : TypeId) : St (w.alloc (.cells c t)) b f p :=
  h.other (b' := w.heap.size) ((Moves.refl _ _).alloc c t) (Nat.ne_of_lt h.lt)

theorem St.set {w : World} {b : Nat} {f p : Int} (h : St w b f p) (q : Int) : St (w.setCell ⟨b, 4, none⟩ (.int .u64 q)) b f q := by
  obtain ⟨h1, h2, h3, h4⟩ := h
  exact ⟨by simpa [World.setCell] using h1, by go_simp, by go_simp, by go_simp⟩

theorem St.drew {w : World} {b : Nat} {f p : Int} (h : St w b f p) : St w.drew b f p := ⟨h.lt, h.c3, h.c4, h.z⟩

theorem St.setOther {w : World} {b k : Nat} {f p : Int} (h : St w b f p) (hk : b ≠ k) (o : Nat) (v : Value) : St (w.setCell ⟨k, o, none⟩ v) b f p :=
  h.other ((Moves.refl k w).setCell o v) hk

theorem Moves.setNew {b k : Nat} {w w1 : World} (h : Moves b w w1) (hb : b < w.heap.size) (hk : w.heap.size ≤ k) (o : Nat) (v : Value) : Moves b w (w1.setCell ⟨k, o, none⟩ v) :=
  ⟨fun W hW hg => (h.grown W hW hg).setCell (show W.heap.size ≤ k by omega) v, by simpa [World.setCell] using h.size,
   fun i hi hb' => (Below.heap_setCell _ _ _ _ (show i ≠ k by omega)).trans (h.other i hi hb')⟩

set_option maxHeartbeats 400000 in
theorem nextDir35 (b : Nat) (f p : Int) (w : World) (hs : St w b f p) (p0 : 0 ≤ p) (p1 : p + 1 < 18446744073709551616) :
    Calls Try.prog 35 #[.pointer (some ⟨b, 0, none⟩)] w fun e w' => e = .returned (.agg #[.int .u8 (dirD f p / 256), .int .u8 (dirD f p % 256)]) ∧ St w' b f (p + 1) ∧ Moves b w w' := by
  obtain ⟨hb, h3, h4, hz⟩ := hs
  go_enter Try.func35, Try.ntmps35
  go_wp2
  go_region_with (go_at_call 42; refine (add42 _ p _ ?_ ?_).mono ?_; go_simp; go_simp; rintro e w' ⟨rfl, rfl⟩)
  all_goals go_wp2
  all_goals
    simp only [dirD_wrap, Int.add_sub_cancel, dirD_hi]
    refine bodyPost_ret (v := .agg #[.int .u8 (dirD f p / 256), .int .u8 (dirD f p % 256)]) (by simp [results, Try.results35, go_sem]) rfl ⟨rfl, ?_, ?_⟩
    · exact ((St.set ⟨hb, h3, h4, hz⟩ (p + 1)).alloc _ _).drew
    · exact (((Moves.refl _ _).setCell _ _).alloc _ _).drew

set_option maxHeartbeats 400000 in
theorem nextDir23 (b : Nat) (f p : Int) (w : World) (hs : St w b f p) (p0 : 0 ≤ p) (p1 : p + 1 < 18446744073709551616) :
    Calls Try.prog 23 #[.pointer (some ⟨b, 0, none⟩)] w fun e w' => e = .returned (.agg #[.int .u8 (dirD f p / 256), .int .u8 (dirD f p % 256)]) ∧ St w' b f (p + 1) ∧ Moves b w w' := by
  go_enter Try.func23, Try.ntmps23
  go_wp2_with fail
  refine (nextDir35 b f p _ (hs.alloc _ _) p0 p1).mono ?_
  rintro e w1 ⟨rfl, hs1, hm1⟩
  have hne : w.heap.size ≠ b := fun h => by have := hs.lt; omega
  have hot := hm1.other w.heap.size (by simp) hne
  have k0 : w1.cell? ⟨w.heap.size, 0, none⟩ = some (.int .u8 0) := by rw [World.cell?_of_block (w := w.alloc (.cells #[.int .u8 0, .int .u8 0] 44)) hot]; go_simp
  have k1 : w1.cell? ⟨w.heap.size, 1, none⟩ = some (.int .u8 0) := by rw [World.cell?_of_block (w := w.alloc (.cells #[.int .u8 0, .int .u8 0] 44)) hot]; go_simp
  have z0 : w1.frozen? ⟨w.heap.size, 0, none⟩ = false := by rw [World.frozen?_of_block (w := w.alloc (.cells #[.int .u8 0, .int .u8 0] 44)) hot]; go_simp
  have z1 : w1.frozen? ⟨w.heap.size, 1, none⟩ = false := by rw [World.frozen?_of_block (w := w.alloc (.cells #[.int .u8 0, .int .u8 0] 44)) hot]; go_simp
  clear hot
  have hl := hs.lt
  go_wp2
  refine bodyPost_ret (v := .agg #[.int .u8 (dirD f p / 256), .int .u8 (dirD f p % 256)]) (by simp [results, Try.results23, go_sem, k0, k1]) rfl ⟨rfl, ?_, ?_⟩
  · exact (hs1.setOther (Ne.symm hne) _ _).setOther (Ne.symm hne) _ _
  · exact ((((Moves.refl b w).alloc _ _).trans hm1).setNew hl (Nat.le_refl _) _ _).setNew hl (Nat.le_refl _) _ _

/-- 'dirOf(ZZnextDir(st))': what both laws ask of the store. -/
theorem St.ofNew (f p : Int) (w : World) : St (w.alloc (.cells #[.int .u8 0, .string ⟨#[]⟩, .int .u64 0, .int .u16 f, .int .u64 p, .int .i32 0, .int .u32 0, .map none] 84)) w.heap.size f p :=
  ⟨by simp, by go_simp, by go_simp, by go_simp⟩
end Go.Proofs.Qxb6616008a.Store
