/- The walks of the formats of floats: Single, Double, FormatOf. No condition. -/
import Derived.Test.YtfbbileojddioaaB
import Derived.Deep.QuietTactic
import Derived.BigQuiet
import Derived.Deep.RegionWith
import Derived.Handy
namespace Go.Proofs.Ytfbbileojddioaa
open Go.RowKit

def sglV : Value := .agg #[.int .i64 24, .int .i64 23, .int .i64 (-149), .int .u64 255, .int .u64 2147483648]
def dblV : Value := .agg #[.int .i64 53, .int .i64 52, .int .i64 (-1074), .int .u64 2047, .int .u64 9223372036854775808]

set_option maxHeartbeats 400000 in
theorem single_any (w : World) : Calls Try.prog 14 #[] w fun e w' => e = .returned sglV ∧ Below w.heap.size w w' := by
  go_enter Try.func14, Try.ntmps14
  go_wp2
  exact bodyPost_ret (v := sglV) (by simp [results, Try.results14, go_sem, sglV]) rfl ⟨rfl, (Below.refl _ _).alloc (Nat.le_refl _) _⟩

set_option maxHeartbeats 400000 in
theorem double_any (w : World) : Calls Try.prog 15 #[] w fun e w' => e = .returned dblV ∧ Below w.heap.size w w' := by
  go_enter Try.func15, Try.ntmps15
  go_wp2
  exact bodyPost_ret (v := dblV) (by simp [results, Try.results15, go_sem, dblV]) rfl ⟨rfl, (Below.refl _ _).alloc (Nat.le_refl _) _⟩

set_option maxHeartbeats 400000 in
theorem formatOf_single (w : World) : Calls Try.prog 6 #[.bool true] w fun e w' => e = .returned sglV ∧ Below w.heap.size w w' := by
  go_enter Try.func6, Try.ntmps6
  go_wp2
  trace_state
  exact bodyPost_ret (v := sglV) (by simp [results, Try.results6, go_sem, sglV]) rfl ⟨rfl, by go_grown⟩

set_option maxHeartbeats 400000 in
theorem formatOf_double (w : World) : Calls Try.prog 6 #[.bool false] w fun e w' => e = .returned dblV ∧ Below w.heap.size w w' := by
  go_enter Try.func6, Try.ntmps6
  go_wp2
  exact bodyPost_ret (v := dblV) (by simp [results, Try.results6, go_sem, dblV]) rfl ⟨rfl, by go_grown⟩

end Go.Proofs.Ytfbbileojddioaa
