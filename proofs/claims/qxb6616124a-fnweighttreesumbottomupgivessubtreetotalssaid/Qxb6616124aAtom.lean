import Derived.Test.Qxb6616124aRows
import Derived.Test.Qxb6616124aFlt
import Derived.WalkKit
import Derived.ProofKit
import Derived.OpenShut
import Derived.Deep.QuietTactic
import Derived.BigQuiet
import Derived.RegionCalls
import Derived.Deep.RegionWith
import Derived.Deep.Draws
import Derived.Deep.RegionHeld3
import Derived.WalkLawsBesides
import Derived.Laws.LoneSync
import Derived.Laws.Externs
import Derived.Below
namespace Go.Proofs.Qxb6616124a.Tr
open Go.RowKit
open Go.Proofs.Qxb6616124a.Flt (F)

theorem load19 {a : Addr} {x : Int} {w : World} (hc : w.cell? a = some (.int .u64 x)) :
    (callFunc 19 #[.pointer (some a)]).run Try.prog w = .ok (.value (.int .u64 x)) w :=
  run_call_load (P := Try.prog) Try.func19 (by kernel_rfl) (by kernel_rfl) (by kernel_rfl) .u64 (by kernel_rfl) hc

theorem store20 {a : Addr} {y : Int} {u : Value} {w : World} (hc : w.cell? a = some u) (hz : w.frozen? a = false) :
    (callFunc 20 #[.pointer (some a), .int .u64 y]).run Try.prog w = .ok (.value (.tuple #[])) (w.setCell a (.int .u64 y)) :=
  run_call_store (P := Try.prog) Try.func20 (by kernel_rfl) (by kernel_rfl) (by kernel_rfl) (by kernel_rfl) hc hz

theorem bits15 {b : Nat} {w : World} :
    (callFunc 15 #[.float .f64 b]).run Try.prog w = .ok (.value (.int .u64 b)) w := by
  rw [run_callFunc_extern (P := Try.prog) Try.func15 (by kernel_rfl) (by kernel_rfl) (e := Extern.MathFloatBits.float64bits) (by kernel_rfl) (by kernel_rfl)]
  rfl

theorem from18 {n : Nat} {w : World} :
    (callFunc 18 #[.int .u64 n]).run Try.prog w = .ok (.value (.float .f64 n)) w := by
  rw [run_callFunc_extern (P := Try.prog) Try.func18 (by kernel_rfl) (by kernel_rfl) (e := Extern.MathFloatBits.float64frombits) (by kernel_rfl) (by kernel_rfl)]
  rfl

end Go.Proofs.Qxb6616124a.Tr
