/- The walk of kind: an error is told from the one that a text that is no number brings. -/
import Derived.Test.YtfbbileojddioaaDoorA
import Derived.LaidEql
namespace Go.Proofs.YtfbbileojddioaaDoor
open Go.RowKit

set_option maxHeartbeats 400000 in
theorem special_x (w : World) : Calls Tryd.prog 35 #[.string ⟨#[120]⟩] w fun e w' => e = .returned (.tuple #[.float .f64 0, .int .i64 0, .bool false]) ∧ w = w' := by
  go_enter Tryd.func35, Tryd.ntmps35
  go_wp2
  go_ret3
  exact ⟨rfl, rfl⟩

set_option maxRecDepth 100000 in
set_option maxHeartbeats 1000000 in
theorem readFloat_x (w : World) : Calls Tryd.prog 36 #[.string ⟨#[120]⟩] w fun e w' => e = .returned (.tuple #[.int .u64 0, .int .i64 0, .bool false, .bool false, .bool false, .int .i64 0, .bool false]) ∧ w = w' := by
  go_enter Tryd.func36, Tryd.ntmps36
  go_wp2
  go_step3
  go_wp2
  go_step3
  go_wp2
  go_rounds 1
  rw [Exit.noGoto_ret]
  exact bodyPost_ret (v := .tuple #[.int .u64 0, .int .i64 0, .bool false, .bool false, .bool false, .int .i64 0, .bool false]) (by simp [results, Tryd.results36, go_sem]) rfl ⟨rfl, rfl⟩

set_option maxRecDepth 100000 in
set_option maxHeartbeats 1000000 in
theorem atof64_x (w : World) : Calls Tryd.prog 32 #[.string ⟨#[120]⟩] w fun e w' => e = .returned (.tuple #[.float .f64 0, .int .i64 0, .iface 43 (.int .i64 2)]) ∧ w = w' := by
  go_enter Tryd.func32, Tryd.ntmps32
  go_wp2_with (first | (go_at_call 35; go_must (refine (special_x _).mono ?_; rintro e w' ⟨rfl, rfl⟩)) | (go_at_call 36; go_must (refine (readFloat_x _).mono ?_; rintro e w' ⟨rfl, rfl⟩)))
  go_ret3
  exact ⟨rfl, rfl⟩

set_option maxHeartbeats 1000000 in
theorem pfp_x (w : World) : Calls Tryd.prog 25 #[.string ⟨#[120]⟩, .int .i64 64] w fun e w' => e = .returned (.tuple #[.float .f64 0, .int .i64 0, .iface 43 (.int .i64 2)]) ∧ w = w' := by
  go_enter Tryd.func25, Tryd.ntmps25
  go_wp2_with (go_at_call 32; go_must (refine (atof64_x _).mono ?_; rintro e w' ⟨rfl, rfl⟩))
  go_ret3
  exact ⟨rfl, rfl⟩

set_option maxHeartbeats 1000000 in
theorem pf_x (w : World) : Calls Tryd.prog 20 #[.string ⟨#[120]⟩, .int .i64 64] w fun e w' => e = .returned (.tuple #[.float .f64 0, .iface 43 (.int .i64 2)]) ∧ w = w' := by
  go_enter Tryd.func20, Tryd.ntmps20
  go_wp2_with (go_at_call 25; go_must (refine (pfp_x _).mono ?_; rintro e w' ⟨rfl, rfl⟩))
  go_ret2
  exact ⟨rfl, rfl⟩

theorem eql_err (a b : Int) (w : World) : (binOp .eql 37 (.iface 43 (.int .i64 a)) (.iface 43 (.int .i64 b))).run Tryd.prog w = .ok (.bool (a == b)) w := by kernel_rfl

set_option maxHeartbeats 1000000 in
theorem kind_nil (w : World) : Calls Tryd.prog 14 #[.nilIface] w fun e w' => e = .returned (.int .i64 0) ∧ w = w' := by
  go_enter Tryd.func14, Tryd.ntmps14
  go_wp2_with fail
  go_ret
  exact ⟨rfl, rfl⟩

set_option maxHeartbeats 1000000 in
theorem kind_range (w : World) : Calls Tryd.prog 14 #[.iface 43 (.int .i64 1)] w fun e w' => e = .returned (.int .i64 2) ∧ w = w' := by
  have he := eql_err
  go_enter Tryd.func14, Tryd.ntmps14
  go_wp2_with (go_at_call 20; go_must (refine (pf_x _).mono ?_; rintro e w' ⟨rfl, rfl⟩))
  go_ret
  exact ⟨rfl, rfl⟩
end Go.Proofs.YtfbbileojddioaaDoor
