/- The walks of signed and Inf at both formats. No condition. -/
import Derived.Test.YtfbbileojddioaaT5
namespace Go.Proofs.Ytfbbileojddioaa
open Go.RowKit

set_option maxHeartbeats 400000 in
theorem signed_pos (v0 v1 v2 v3 v4 : Value) (b : Int) (w : World) : Calls Try.prog 19 #[.agg #[v0, v1, v2, v3, v4], .bool false, .int .u64 b] w
    fun e w' => e = .returned (.int .u64 b) ∧ Below w.heap.size w w' := by
  go_enter Try.func19, Try.ntmps19
  go_wp2
  go_ret
  exact ⟨rfl, by go_grown⟩

set_option maxHeartbeats 400000 in
theorem signed_neg32 (w : World) : Calls Try.prog 19 #[.agg #[.int .i64 24, .int .i64 23, .int .i64 (-149), .int .u64 255, .int .u64 2147483648], .bool true, .int .u64 2139095040] w
    fun e w' => e = .returned (.int .u64 4286578688) ∧ Below w.heap.size w w' := by
  go_enter Try.func19, Try.ntmps19
  go_wp2
  go_ret
  exact ⟨ret_int (by decide +kernel), by go_grown⟩

set_option maxHeartbeats 400000 in
theorem signed_neg64 (w : World) : Calls Try.prog 19 #[.agg #[.int .i64 53, .int .i64 52, .int .i64 (-1074), .int .u64 2047, .int .u64 9223372036854775808], .bool true, .int .u64 9218868437227405312] w
    fun e w' => e = .returned (.int .u64 18442240474082181120) ∧ Below w.heap.size w w' := by
  go_enter Try.func19, Try.ntmps19
  go_wp2
  go_ret
  exact ⟨ret_int (by decide +kernel), by go_grown⟩

set_option maxHeartbeats 800000 in
theorem inf_single_pos (w : World) : Calls Try.prog 9 #[.agg #[.int .i64 24, .int .i64 23, .int .i64 (-149), .int .u64 255, .int .u64 2147483648], .bool false] w
    fun e w' => e = .returned (.int .u64 2139095040) ∧ Below w.heap.size w w' := by
  have hw : IntKind.u64.wrap 2139095040 = 2139095040 := by decide +kernel
  go_enter Try.func9, Try.ntmps9
  go_wp2
  go_region_with (go_at_call 19; go_must (refine (signed_pos _ _ _ _ _ _ _).mono ?_; rintro e w' ⟨rfl, hb⟩))
  all_goals (try go_wp2)
  all_goals
    go_ret
    exact ⟨rfl, (((Below.refl _ _).alloc (Nat.le_refl _) _).drew).trans (hb.mono (by simp))⟩

set_option maxHeartbeats 800000 in
theorem inf_single_neg (w : World) : Calls Try.prog 9 #[.agg #[.int .i64 24, .int .i64 23, .int .i64 (-149), .int .u64 255, .int .u64 2147483648], .bool true] w
    fun e w' => e = .returned (.int .u64 4286578688) ∧ Below w.heap.size w w' := by
  have hw : IntKind.u64.wrap 2139095040 = 2139095040 := by decide +kernel
  go_enter Try.func9, Try.ntmps9
  go_wp2
  go_region_with (go_at_call 19; go_must (refine (signed_neg32 _).mono ?_; rintro e w' ⟨rfl, hb⟩))
  all_goals (try go_wp2)
  all_goals
    go_ret
    exact ⟨rfl, (((Below.refl _ _).alloc (Nat.le_refl _) _).drew).trans (hb.mono (by simp))⟩

set_option maxHeartbeats 800000 in
theorem inf_double_pos (w : World) : Calls Try.prog 9 #[.agg #[.int .i64 53, .int .i64 52, .int .i64 (-1074), .int .u64 2047, .int .u64 9223372036854775808], .bool false] w
    fun e w' => e = .returned (.int .u64 9218868437227405312) ∧ Below w.heap.size w w' := by
  have hw : IntKind.u64.wrap 9218868437227405312 = 9218868437227405312 := by decide +kernel
  go_enter Try.func9, Try.ntmps9
  go_wp2
  go_region_with (go_at_call 19; go_must (refine (signed_pos _ _ _ _ _ _ _).mono ?_; rintro e w' ⟨rfl, hb⟩))
  all_goals (try go_wp2)
  all_goals
    go_ret
    exact ⟨rfl, (((Below.refl _ _).alloc (Nat.le_refl _) _).drew).trans (hb.mono (by simp))⟩

set_option maxHeartbeats 800000 in
theorem inf_double_neg (w : World) : Calls Try.prog 9 #[.agg #[.int .i64 53, .int .i64 52, .int .i64 (-1074), .int .u64 2047, .int .u64 9223372036854775808], .bool true] w
    fun e w' => e = .returned (.int .u64 18442240474082181120) ∧ Below w.heap.size w w' := by
  have hw : IntKind.u64.wrap 9218868437227405312 = 9218868437227405312 := by decide +kernel
  go_enter Try.func9, Try.ntmps9
  go_wp2
  go_region_with (go_at_call 19; go_must (refine (signed_neg64 _).mono ?_; rintro e w' ⟨rfl, hb⟩))
  all_goals (try go_wp2)
  all_goals
    go_ret
    exact ⟨rfl, (((Below.refl _ _).alloc (Nat.le_refl _) _).drew).trans (hb.mono (by simp))⟩

end Go.Proofs.Ytfbbileojddioaa
