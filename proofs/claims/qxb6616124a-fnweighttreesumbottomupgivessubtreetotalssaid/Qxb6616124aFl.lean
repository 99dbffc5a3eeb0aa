import Derived.Test.Qxb6616124aAtom
namespace Go.Proofs.Qxb6616124a.Tr
open Go.RowKit
open Go.Proofs.Qxb6616124a.Flt (F)

theorem load16 (a : Addr) (x : Int) (w : World) (hc : w.cell? a = some (.int .u64 x)) :
    Calls Try.prog 16 #[.pointer (some a)] w fun e w' => e = .returned (.int .u64 x) ∧ w' = w := by
  have hs := @load19
  go_enter Try.func16, Try.ntmps16
  go_wp2
  go_ret
  exact ⟨rfl, rfl⟩

theorem store17 (a : Addr) (y : Int) (u : Value) (w : World) (hc : w.cell? a = some u) (hz : w.frozen? a = false) :
    Calls Try.prog 17 #[.pointer (some a), .int .u64 y] w fun e w' => e = .returned (.tuple #[]) ∧ w' = w.setCell a (.int .u64 y) := by
  have hs := @store20
  go_enter Try.func17, Try.ntmps17
  go_wp2
  first | go_end0 | refine bodyPost_ret (results_none rfl _ _ _) rfl ?_
  exact ⟨rfl, rfl⟩

theorem loadFloat14 (a : Addr) (x : Nat) (w : World) (hc : w.cell? a = some (.int .u64 x)) :
    Calls Try.prog 14 #[.pointer (some a)] w fun e w' => e = .returned (.float .f64 x) ∧ w' = w := by
  have hs := @from18
  go_enter Try.func14, Try.ntmps14
  go_wp2_with (go_at_call 16; refine (load16 _ x _ ?_).mono ?_; exact hc; rintro e w' ⟨rfl, rfl⟩)
  go_ret
  exact ⟨rfl, rfl⟩

/-- One cell is turned, no other. -/
structure Upd (w : World) (a : Addr) (v : Value) (w' : World) : Prop where
  here : w'.cell? a = some v
  other : ∀ p, p ≠ a → w'.cell? p = w.cell? p
  frozen : ∀ p, w'.frozen? p = w.frozen? p
  below : ∀ B, B ≤ a.block → Below B w w'

theorem Upd.of_set {w : World} {a : Addr} {v u : Value} (hc : w.cell? a = some u) : Upd w a v (w.setCell a v) :=
  ⟨World.cell?_setCell_same _ _ _ hc, fun p hp => World.cell?_setCell_other _ _ _ _ (Ne.symm hp), fun p => by simp, fun B hB => (Below.refl B w).setCell hB v⟩

theorem Upd.of_same {w : World} {a : Addr} {v : Value} (hc : w.cell? a = some v) : Upd w a v w :=
  ⟨hc, fun _ _ => rfl, fun _ => rfl, fun B _ => Below.refl B w⟩

theorem storeFloat12 (a : Addr) (x b : Nat) (w : World) (hc : w.cell? a = some (.int .u64 x)) (hz : w.frozen? a = false) :
    Calls Try.prog 12 #[.pointer (some a), .float .f64 b] w fun e w' => e = .returned (.tuple #[]) ∧ Upd w a (.int .u64 b) w' := by
  have hs := @bits15
  by_cases h : x = b
  · subst h
    have hu := Upd.of_same hc
    have HU : Hid (Upd w a (.int .u64 (x : Int)) w) := hu
    clear hu
    have hb : ((x : Int) != (x : Int)) = false := by simp
    go_enter Try.func12, Try.ntmps12
    go_wp2_with (go_at_call 16; refine (load16 _ x _ ?_).mono ?_; exact hc; rintro e w' ⟨rfl, rfl⟩)
    first | go_end0 | refine bodyPost_ret (results_none rfl _ _ _) rfl ?_
    exact ⟨rfl, HU⟩
  · have HU : Hid (Upd w a (.int .u64 (b : Int)) (w.setCell a (.int .u64 b))) := Upd.of_set hc
    have hb : ((x : Int) != (b : Int)) = true := by simp; omega
    go_enter Try.func12, Try.ntmps12
    go_wp2_with (first | (go_at_call 16; refine (load16 _ x _ ?_).mono ?_; exact hc; rintro e w' ⟨rfl, rfl⟩) | (go_at_call 17; refine (store17 _ b _ _ hc hz).mono ?_; rintro e w' ⟨rfl, rfl⟩))
    first | go_end0 | refine bodyPost_ret (results_none rfl _ _ _) rfl ?_
    exact ⟨rfl, HU⟩

end Go.Proofs.Qxb6616124a.Tr
