/- The walks of exp, frac and IsNaN at the bits of a NaN. -/
import Derived.Test.YtfbbileojddioaaT5
import Derived.Laws.BitsLemmas
import Derived.Laws.Bits64
namespace Go.Proofs.Ytfbbileojddioaa
open Go.RowKit

theorem wraps_u64 (n : Int) (h₀ : 0 ≤ n) (h₁ : n < 2 ^ 64) : IntKind.u64.wrap n = n := by rw [IntKind.wrap_u64]; omega

theorem u64_mask (i : Nat) (hi : i ≤ 64) (x : Int) (h0 : 0 ≤ x) (h1 : x < 2 ^ 64) : bits .and .u64 x (2 ^ i - 1) = x % 2 ^ i :=
  bits_mask .u64 64 (by decide) wraps_u64 i hi x h0 h1

set_option maxHeartbeats 400000 in
theorem exp32 (b : Nat) (w : World) (h : 0x7f800000 < b % 2 ^ 31) (hb : b < 2 ^ 32) :
    Calls Try.prog 16 #[.agg #[.int .i64 24, .int .i64 23, .int .i64 (-149), .int .u64 255, .int .u64 2147483648], .int .u64 b] w
    fun e w' => e = .returned (.int .u64 255) ∧ Below w.heap.size w w' := by
  have hm : bits .and .u64 ((b : Int) / 8388608) 255 = 255 := by
    have := u64_mask 8 (by decide) ((b : Int) / 8388608) (by omega) (by omega)
    rw [show ((2 : Int) ^ 8 - 1) = 255 from rfl] at this
    rw [this]; omega
  clear h hb
  have HM := Lib.hid hm
  clear hm
  go_enter Try.func16, Try.ntmps16
  go_wp2
  go_region
  all_goals (try go_wp2)
  all_goals
    go_ret
    exact ⟨ret_int HM.out, by go_grown⟩

set_option maxHeartbeats 400000 in
theorem exp64 (b : Nat) (w : World) (h : 0x7ff0000000000000 < b % 2 ^ 63) (hb : b < 2 ^ 64) :
    Calls Try.prog 16 #[.agg #[.int .i64 53, .int .i64 52, .int .i64 (-1074), .int .u64 2047, .int .u64 9223372036854775808], .int .u64 b] w
    fun e w' => e = .returned (.int .u64 2047) ∧ Below w.heap.size w w' := by
  have hm : bits .and .u64 ((b : Int) / 4503599627370496) 2047 = 2047 := by
    have := u64_mask 11 (by decide) ((b : Int) / 4503599627370496) (by omega) (by omega)
    rw [show ((2 : Int) ^ 11 - 1) = 2047 from rfl] at this
    rw [this]; omega
  clear h hb
  have HM := Lib.hid hm
  clear hm
  go_enter Try.func16, Try.ntmps16
  go_wp2
  go_region
  all_goals (try go_wp2)
  all_goals
    go_ret
    exact ⟨ret_int HM.out, by go_grown⟩

set_option maxHeartbeats 400000 in
theorem frac32 (b : Nat) (w : World) (h : 0x7f800000 < b % 2 ^ 31) (hb : b < 2 ^ 32) :
    Calls Try.prog 17 #[.agg #[.int .i64 24, .int .i64 23, .int .i64 (-149), .int .u64 255, .int .u64 2147483648], .int .u64 b] w
    fun e w' => (∃ f : Int, (f != 0) = true ∧ e = .returned (.int .u64 f)) ∧ Below w.heap.size w w' := by
  have hm : 0 < bits .and .u64 (b : Int) 8388607 := by
    have := u64_mask 23 (by decide) (b : Int) (by omega) (by omega)
    rw [show ((2 : Int) ^ 23 - 1) = 8388607 from rfl] at this
    rw [this]; omega
  clear h hb
  have HM := Lib.hid hm
  clear hm
  go_enter Try.func17, Try.ntmps17
  go_wp2
  all_goals
    go_ret
    exact ⟨⟨_, bne_iff_ne.2 (by have := HM.out; omega), rfl⟩, by go_grown⟩

set_option maxHeartbeats 400000 in
theorem frac64 (b : Nat) (w : World) (h : 0x7ff0000000000000 < b % 2 ^ 63) (hb : b < 2 ^ 64) :
    Calls Try.prog 17 #[.agg #[.int .i64 53, .int .i64 52, .int .i64 (-1074), .int .u64 2047, .int .u64 9223372036854775808], .int .u64 b] w
    fun e w' => (∃ f : Int, (f != 0) = true ∧ e = .returned (.int .u64 f)) ∧ Below w.heap.size w w' := by
  have hm : 0 < bits .and .u64 (b : Int) 4503599627370495 := by
    have := u64_mask 52 (by decide) (b : Int) (by omega) (by omega)
    rw [show ((2 : Int) ^ 52 - 1) = 4503599627370495 from rfl] at this
    rw [this]; omega
  clear h hb
  have HM := Lib.hid hm
  clear hm
  go_enter Try.func17, Try.ntmps17
  go_wp2
  all_goals
    go_ret
    exact ⟨⟨_, bne_iff_ne.2 (by have := HM.out; omega), rfl⟩, by go_grown⟩

theorem bcell {W w1 : World} (hb : Below W.heap.size W w1) : (∀ b o, b < W.heap.size → w1.cell? ⟨b, o, none⟩ = W.cell? ⟨b, o, none⟩) ∧ (∀ b o, b < W.heap.size → w1.frozen? ⟨b, o, none⟩ = W.frozen? ⟨b, o, none⟩) :=
  ⟨fun b o h => hb.cell (p := ⟨b, o, none⟩) h, fun b o h => hb.frozen (p := ⟨b, o, none⟩) h⟩

set_option maxHeartbeats 1000000 in
theorem isNaN32 (b : Nat) (w : World) (h : 0x7f800000 < b % 2 ^ 31) (hb : b < 2 ^ 32) :
    Calls Try.prog 7 #[.agg #[.int .i64 24, .int .i64 23, .int .i64 (-149), .int .u64 255, .int .u64 2147483648], .int .u64 b] w
    fun e w' => e = .returned (.bool true) ∧ Below w.heap.size w w' := by
  have H16 := Lib.hid (fun w => exp32 b w h hb)
  have H17 := Lib.hid (fun w => frac32 b w h hb)
  clear h hb
  go_enter Try.func7, Try.ntmps7
  go_wp2
  go_region_with (first | (go_at_call 16; go_must (refine (H16.out _).mono ?_; rintro e w' ⟨rfl, hb1⟩; obtain ⟨hc1, hf1⟩ := bcell hb1)) | (go_at_call 17; go_must (refine (H17.out _).mono ?_; rintro e w' ⟨⟨f, hf, rfl⟩, hb2⟩; obtain ⟨hc2, hf2⟩ := bcell hb2)))
  all_goals (try go_wp2)
  all_goals
    go_ret
    refine ⟨rfl, ?_⟩
    exact ((((Below.refl _ _).alloc (Nat.le_refl _) _).drew).trans (hb1.mono (by simp))).trans (hb2.mono (Nat.le_trans (by simp) hb1.size))

set_option maxHeartbeats 1000000 in
theorem isNaN64 (b : Nat) (w : World) (h : 0x7ff0000000000000 < b % 2 ^ 63) (hb : b < 2 ^ 64) :
    Calls Try.prog 7 #[.agg #[.int .i64 53, .int .i64 52, .int .i64 (-1074), .int .u64 2047, .int .u64 9223372036854775808], .int .u64 b] w
    fun e w' => e = .returned (.bool true) ∧ Below w.heap.size w w' := by
  have H16 := Lib.hid (fun w => exp64 b w h hb)
  have H17 := Lib.hid (fun w => frac64 b w h hb)
  clear h hb
  go_enter Try.func7, Try.ntmps7
  go_wp2
  go_region_with (first | (go_at_call 16; go_must (refine (H16.out _).mono ?_; rintro e w' ⟨rfl, hb1⟩; obtain ⟨hc1, hf1⟩ := bcell hb1)) | (go_at_call 17; go_must (refine (H17.out _).mono ?_; rintro e w' ⟨⟨f, hf, rfl⟩, hb2⟩; obtain ⟨hc2, hf2⟩ := bcell hb2)))
  all_goals (try go_wp2)
  all_goals
    go_ret
    refine ⟨rfl, ?_⟩
    exact ((((Below.refl _ _).alloc (Nat.le_refl _) _).drew).trans (hb1.mono (by simp))).trans (hb2.mono (Nat.le_trans (by simp) hb1.size))

end Go.Proofs.Ytfbbileojddioaa
