/- The walk of sane: '12' to the base 10 is read as 12. No condition. -/
import Derived.Test.YtfbbileojddioaaT9
namespace Go.Proofs.Ytfbbileojddioaa
open Go.RowKit

set_option maxRecDepth 100000 in
set_option maxHeartbeats 1000000 in
theorem parseUint12 (w : World) :
    Calls Try.prog 24 #[.string ⟨#[49, 50]⟩, .int .i64 10, .int .i64 64] w fun e w' => e = .returned (.tuple #[.int .u64 12, .nilIface]) ∧ Below w.heap.size w w' := by
  have hcb := conv_bytes ⟨#[49, 50]⟩ w
  have ho := owns_at w ⟨#[49, 50]⟩ (grownCap w 2 0 5) w.heap.size [49, 50] rfl rfl
  have hc0 : (w.alloc (bRow ⟨#[49, 50]⟩ (grownCap w 2 0 5))).drew.cell? ⟨w.heap.size, 0, none⟩ = some (.int .u8 49) := (ho 0 (by decide)).1
  have hc1 : (w.alloc (bRow ⟨#[49, 50]⟩ (grownCap w 2 0 5))).drew.cell? ⟨w.heap.size, 1, none⟩ = some (.int .u8 50) := (ho 1 (by decide)).1
  clear ho
  go_enter Try.func24, Try.ntmps24
  go_wp2
  clear hcb
  generalize hmv : IntKind.u64.wrap (IntKind.u64.wrap 18446744073709551616 - 1) = mv
  have hge : 12 ≤ mv := by rw [← hmv, IntKind.wrap_u64, IntKind.wrap_u64]; decide
  clear hmv
  go_loop [12, 13, 101] (fun u n c => u = .bool false ∧ ((n = .int .u64 0 ∧ c = .int .i64 0) ∨ (n = .int .u64 1 ∧ c = .int .i64 1) ∨ (n = .int .u64 12 ∧ c = .int .i64 2))) (fun _ _ c => 2 - (intOf c).toNat)
  case atStart => exact ⟨rfl, .inl ⟨rfl, rfl⟩⟩
  case round =>
    obtain ⟨rfl, hrel⟩ := hrel
    rcases hrel with ⟨rfl, rfl⟩ | ⟨rfl, rfl⟩ | ⟨rfl, rfl⟩
    · go_wp2
      go_round
      case rel => exact ⟨rfl, .inr (.inl ⟨rfl, rfl⟩)⟩
      case measure => simp [intOf]
    · go_wp2
      go_round
      case rel => exact ⟨rfl, .inr (.inr ⟨rfl, rfl⟩)⟩
      case measure => simp [intOf]
    · go_wp2
      go_ret2
      exact ⟨rfl, by go_grown⟩

set_option maxRecDepth 100000 in
set_option maxHeartbeats 1000000 in
theorem parseInt12 (w : World) :
    Calls Try.prog 21 #[.string ⟨#[49, 50]⟩, .int .i64 10, .int .i64 64] w fun e w' => e = .returned (.tuple #[.int .i64 12, .nilIface]) ∧ Below w.heap.size w w' := by
  go_enter Try.func21, Try.ntmps21
  go_wp2_with (go_at_call 24; go_must (refine (parseUint12 _).mono ?_; rintro e w1 ⟨rfl, hb1⟩))
  go_ret2
  exact ⟨rfl, hb1⟩

set_option maxHeartbeats 1000000 in
theorem parseWhole12 (w : World) :
    Calls Try.prog 18 #[.string ⟨#[49, 50]⟩, .int .i64 10, .int .i64 64] w fun e w' => e = .returned (.tuple #[.int .i64 12, .int .i64 0]) ∧ Below w.heap.size w w' := by
  go_enter Try.func18, Try.ntmps18
  go_wp2_with (first | (go_at_call 21; go_must (refine (parseInt12 _).mono ?_; rintro e w1 ⟨rfl, hb1⟩)) | (go_at_call 12; go_must (refine (kind_nil _).mono ?_; rintro e w2 ⟨rfl, rfl⟩)))
  go_ret2
  exact ⟨rfl, hb1⟩

set_option maxHeartbeats 1000000 in
theorem sane_any (w : World) :
    Calls Try.prog 8 #[] w fun e w' => e = .returned (.bool true) ∧ Below w.heap.size w w' := by
  go_enter Try.func8, Try.ntmps8
  go_wp2_with (go_at_call 18; go_must (refine (parseWhole12 _).mono ?_; rintro e w1 ⟨rfl, hb1⟩))
  go_ret
  exact ⟨rfl, hb1⟩
end Go.Proofs.Ytfbbileojddioaa
