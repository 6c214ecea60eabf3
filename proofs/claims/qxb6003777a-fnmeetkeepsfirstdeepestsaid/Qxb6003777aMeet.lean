/-
  ZZG2Meet by its contract.
-/
import Derived.Test.Qxb6003777aBase
import Derived.Deep.RegionWith
namespace Go.Proofs.Qxb6003777a
open Go.RowKit

set_option maxHeartbeats 400000 in
theorem meet_yes (l d al ad : Int) (w : World) (h : d < ad) :
    Calls Try.prog 15 #[.int .i64 l, .int .i64 d, .int .i64 al, .int .i64 ad] w fun e w' => e = .returned (.tuple #[.bool true, .int .i64 al, .int .i64 ad]) ∧ Below w.heap.size w w' := by
  go_enter Try.func15, Try.ntmps15
  go_wp2
  go_quiet (fail)
  go_wp2
  go_quiet (fail)
  go_wp2
  go_ret3
  refine ⟨rfl, ?_⟩
  repeat (first | exact Below.refl _ _ | refine below_drewN ?_ _ | refine Below.setCell ?_ (by simp) _ | refine Below.alloc ?_ (by simp) _)

set_option maxHeartbeats 400000 in
theorem meet_no (l d al ad : Int) (w : World) (h : ad ≤ d) :
    Calls Try.prog 15 #[.int .i64 l, .int .i64 d, .int .i64 al, .int .i64 ad] w fun e w' => e = .returned (.tuple #[.bool false, .int .i64 l, .int .i64 d]) ∧ Below w.heap.size w w' := by
  go_enter Try.func15, Try.ntmps15
  go_wp2
  go_quiet (fail)
  go_wp2
  go_quiet (fail)
  go_wp2
  go_ret3
  refine ⟨rfl, ?_⟩
  repeat (first | exact Below.refl _ _ | refine below_drewN ?_ _ | refine Below.setCell ?_ (by simp) _ | refine Below.alloc ?_ (by simp) _)

end Go.Proofs.Qxb6003777a
