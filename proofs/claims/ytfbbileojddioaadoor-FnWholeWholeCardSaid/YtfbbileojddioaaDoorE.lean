/- The walks of spec.Fit, sane, small, log10Pow2, bool2, isPowerOfTwo. -/
import Derived.Test.YtfbbileojddioaaDoorD
import Derived.Test.YtfbbileojddioaaDoorPl2
namespace Go.Proofs.YtfbbileojddioaaDoor
open Go.RowKit

set_option maxHeartbeats 1000000 in
theorem fit_pos (N z T : Nat) (w : World) (hz1 : 1 ≤ z) (hz64 : z ≤ 64) (hN : N < 2 ^ 64) (hTd : T = 2 ^ (z - 1)) :
    Calls Tryd.prog 9 #[.bool false, .int .u64 N, .int .i64 z] w fun e w' => e = .returned (.tuple #[.int .i64 (Pl.fitV false N T), .bool (Pl.fitO false N T)]) ∧ w = w' := by
  have hT : IntKind.u64.wrap (2 ^ (z - 1)) = (T : Int) := by rw [hTd]; exact half_at z (by omega) hz64
  have HT2 : Hid (T ≤ 2 ^ 63) := Lib.hid (by rw [hTd]; exact Pl.half_le z hz64)
  have HT1 : Hid (1 ≤ T) := Lib.hid (by rw [hTd]; exact Nat.one_le_two_pow)
  clear hTd
  by_cases hc : T ≤ N
  · have hcc : (T : Int) ≤ (N : Int) := by omega
    go_enter Tryd.func9, Tryd.ntmps9
    go_wp2
    go_ret2
    have e1 : wrap64 (IntKind.u64.wrap ((T : Int) - 1)) = (T : Int) - 1 := by
      have a := HT2.out
      have b := HT1.out
      rw [wrap64_is, IntKind.wrap_u64]; omega
    refine ⟨?_, rfl⟩
    have e2 : Pl.fitV false N T = wrap64 (IntKind.u64.wrap ((T : Int) - 1)) := by rw [e1]; simp [Pl.fitV, hc]
    have e3 : Pl.fitO false N T = true := by simp [Pl.fitO, hc]
    rw [e2, e3]
    rfl
  · have hcc : ¬ (T : Int) ≤ (N : Int) := by omega
    go_enter Tryd.func9, Tryd.ntmps9
    go_wp2
    go_ret2
    have e1 : wrap64 (N : Int) = (N : Int) := by
      have a := HT2.out
      rw [wrap64_is]; omega
    refine ⟨?_, rfl⟩
    have e2 : Pl.fitV false N T = wrap64 (N : Int) := by rw [e1]; simp only [Pl.fitV, if_neg hc]
    have e3 : Pl.fitO false N T = false := by simp [Pl.fitO]; omega
    rw [e2, e3]
    rfl

set_option maxHeartbeats 1000000 in
theorem fit_neg (N z T : Nat) (w : World) (hz1 : 1 ≤ z) (hz64 : z ≤ 64) (hN : N < 2 ^ 64) (hTd : T = 2 ^ (z - 1)) :
    Calls Tryd.prog 9 #[.bool true, .int .u64 N, .int .i64 z] w fun e w' => e = .returned (.tuple #[.int .i64 (Pl.fitV true N T), .bool (Pl.fitO true N T)]) ∧ w = w' := by
  have hT : IntKind.u64.wrap (2 ^ (z - 1)) = (T : Int) := by rw [hTd]; exact half_at z (by omega) hz64
  have HT2 : Hid (T ≤ 2 ^ 63) := Lib.hid (by rw [hTd]; exact Pl.half_le z hz64)
  have HT1 : Hid (1 ≤ T) := Lib.hid (by rw [hTd]; exact Nat.one_le_two_pow)
  clear hTd
  by_cases hc : T < N
  · have hcc : (T : Int) < (N : Int) := by omega
    go_enter Tryd.func9, Tryd.ntmps9
    go_wp2
    go_ret2
    have e1 : wrap64 (wrap64 (-wrap64 (IntKind.u64.wrap ((T : Int) - 1))) - 1) = -(T : Int) := by
      have a := HT2.out
      have b := HT1.out
      rw [wrap64_is, wrap64_is, wrap64_is, IntKind.wrap_u64]; omega
    refine ⟨?_, rfl⟩
    have e2 : Pl.fitV true N T = wrap64 (wrap64 (-wrap64 (IntKind.u64.wrap ((T : Int) - 1))) - 1) := by rw [e1]; simp [Pl.fitV, hc]
    have e3 : Pl.fitO true N T = true := by simp [Pl.fitO, hc]
    rw [e2, e3]
    rfl
  · have hcc : ¬ (T : Int) < (N : Int) := by omega
    go_enter Tryd.func9, Tryd.ntmps9
    go_wp2
    go_ret2
    have e1 : wrap64 (IntKind.u64.wrap (-(N : Int))) = -(N : Int) := by
      have a := HT2.out
      rw [wrap64_is, IntKind.wrap_u64]; omega
    refine ⟨?_, rfl⟩
    have e2 : Pl.fitV true N T = wrap64 (IntKind.u64.wrap (-(N : Int))) := by rw [e1]; simp only [Pl.fitV, if_neg hc]
    have e3 : Pl.fitO true N T = false := by simp [Pl.fitO]; omega
    rw [e2, e3]
    rfl

theorem dg12 : Pl.IsDg 10 12 (ByteArray.mk #[49, 50]).data.toList := by
  refine ⟨by decide, by decide, .inr (by decide), fun j hj => ?_⟩
  have : j = 0 ∨ j = 1 := by simp at hj; omega
  rcases this with rfl | rfl <;> decide

set_option maxHeartbeats 1000000 in
theorem sane_any (w : World) : Calls Tryd.prog 8 #[] w fun e w' => e = .returned (.bool true) ∧ Below w.heap.size w w' := by
  have h := parseWhole_of ⟨#[49, 50]⟩ false 12 (2 ^ 63) 10 64 w (parseInt_pos ⟨#[49, 50]⟩ 12 10 64 w (by decide) (by decide) (by decide) (by decide) (by decide) dg12 (2 ^ 63) rfl)
  have hw : ∀ e, WholeSays false 12 (2 ^ 63) e → e = .returned (.tuple #[.int .i64 12, .int .i64 0]) := by
    intro e he
    rw [he]
    have e1 : Pl.fitV false 12 (2 ^ 63) = 12 := by decide
    have e2 : Pl.fitO false 12 (2 ^ 63) = false := by decide
    rw [e1, e2]
    rfl
  have H := Lib.hid h
  have HW := Lib.hid hw
  clear h hw
  go_enter Tryd.func8, Tryd.ntmps8
  go_wp2_with fail
  refine H.out.mono ?_
  rintro e w' ⟨h, hb⟩
  obtain rfl := HW.out e h
  clear h
  go_wp2_with fail
  go_ret
  exact ⟨rfl, hb⟩

set_option maxRecDepth 100000 in
set_option maxHeartbeats 1000000 in
theorem small_any (i : Nat) (w : World) (h1 : i ≤ 99) :
    Calls Tryd.prog 21 #[.int .i64 i] w fun e w' => (∃ s : ByteArray, e = .returned (.string s) ∧ Pl.IsDg 10 i s.data.toList) ∧ w = w' := by
  by_cases h10 : i < 10
  · have HD := Lib.hid (Pl.dg_one i h10)
    have HA := Lib.hid (Pl.alphabet_one i h10)
    go_enter Tryd.func21, Tryd.ntmps21
    go_wp2
    go_ret
    refine ⟨⟨Pl.alphabet.extract i (i + 1), rfl, ?_⟩, rfl⟩
    rw [HA.out]; exact HD.out
  · have HD := Lib.hid (Pl.dg_two i (by omega) (by omega))
    have HA := Lib.hid (Pl.smalls_two i (by omega))
    go_enter Tryd.func21, Tryd.ntmps21
    go_wp2
    go_ret
    refine ⟨⟨Pl.smalls.extract (i * 2) (i * 2 + 2), rfl, ?_⟩, rfl⟩
    rw [HA.out]; exact HD.out

end Go.Proofs.YtfbbileojddioaaDoor
