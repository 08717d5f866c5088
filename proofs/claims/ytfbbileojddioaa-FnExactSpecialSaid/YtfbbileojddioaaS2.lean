/- The walks of spec.Special: the word, letters of any size, and the bits of its infinity. Written by gen_special.py (a program of this claim's prover). -/
import Derived.Test.YtfbbileojddioaaT9
namespace Go.Proofs.Ytfbbileojddioaa
open Go.RowKit

set_option maxHeartbeats 2000000 in
theorem special_spec_4s (n large : Int) (w : World) (h0 : 0 ≤ n) (h1 : n ≤ 255) (hr : n % 7 = 4)  :
    Calls Try.prog 4 #[.int .u8 n, .int .u16 large, .bool true] w fun e w' => Below w.heap.size w w' ∧ ∃ s : ByteArray, s.data.toList.map Pl.lowc = [43, 105, 110, 102, 105, 110, 105, 116, 121] ∧ e = .returned (.tuple #[.string s, .int .u64 2139095040]) := by
  have hcb := conv_bytes
  go_enter Try.func4, Try.ntmps4
  go_wp2_with (go_at_call 6; go_must (refine (formatOf_single _).mono ?_; rintro e w1 ⟨rfl, hb1⟩; unfold sglV))
  clear hcb hr h0 h1
  go_loopw [23] (fun c wr => ∃ (k : Nat) (l : List UInt8), k ≤ 9 ∧ c = .int .i64 k ∧ l.length = 9 ∧ l.map Pl.lowc = [43, 105, 110, 102, 105, 110, 105, 116, 121] ∧ Owns wr (w1.heap.size + 1 + 1) l ∧ Five wr w1.heap.size (.int .i64 24) (.int .i64 23) (.int .i64 (-149)) (.int .u64 255) (.int .u64 2147483648) ∧ w1.heap.size + 3 ≤ wr.heap.size ∧ Below w.heap.size w wr) (fun c _ => 9 - (intOf c).toNat)
  case atStart =>
    refine ⟨0, [43, 105, 110, 102, 105, 110, 105, 116, 121], by omega, rfl, rfl, by decide, ?_, ?_, ?_, ?_⟩
    · exact owns_at _ _ _ _ _ (by simp) rfl
    · exact five_at _ _ _ _ _ _ _ _ _
    · simp
    · exact ((((hb1.alloc hb1.size _).alloc (by have := hb1.size; simp; omega) _).alloc (by have := hb1.size; simp; omega) _)).drew
  case round =>
    obtain ⟨k, l, hk, rfl, hl, hw, hown, hfive, hsz, hbel⟩ := hrel
    have HL := Lib.hid hl
    have HW := Lib.hid hw
    have HO := Lib.hid hown
    have H5 := Lib.hid hfive
    clear hl hw hown hfive
    by_cases hkL : k < 9
    · obtain ⟨c, hc⟩ : ∃ c, c = l.getD k 0 := ⟨_, rfl⟩
      have hcell := (HO.out k (by rw [HL.out]; exact hkL)).1
      have hfr := (HO.out k (by rw [HL.out]; exact hkL)).2
      rw [← hc] at hcell
      have HC := Lib.hid hc
      clear hc
      have hcb : (c.toNat : Int) ≤ 255 := by have := c.toNat_lt; omega
      go_wp2
      all_goals
        go_roundw
        case rel => first
          | exact ⟨k + 1, l.set k (c - 32), by omega, by go_num, by rw [List.length_set]; exact HL.out, by rw [map_set_same (by rw [(lowc_large c (by omega) (by omega)).1, HC.out])]; exact HW.out, HO.out.set (by rw [HL.out]; omega) (c - 32) _ (lowc_large c (by omega) (by omega)).2.symm, H5.out.set (by omega), by simp; omega, hbel.setCell (by have := hb1.size; simp; omega) _⟩
          | exact ⟨k + 1, l, by omega, by go_num, HL.out, HW.out, HO.out, H5.out, hsz, hbel⟩
        case measure => simp [intOf]; omega
    · have hz : k = 9 := by omega
      clear hk
      obtain ⟨f0, f1, f2, f3, f4⟩ := H5.out
      have hb0 := conv_back' wr.drew _ 9 l HO.out.drew HL.out
      have hcell := (HO.out 0 (by rw [HL.out]; omega)).1
      have hneg : (((l.getD 0 0).toNat : Int) == 45) = false := first_byte HW.out (by decide)
      obtain ⟨c0, hc0⟩ : ∃ c0 : Int, c0 = ((l.getD 0 0).toNat : Int) := ⟨_, rfl⟩
      rw [← hc0] at hcell hneg
      clear hc0 H5 hz
      go_wp2_with fail
      go_region_with (go_at_call 9; go_must (refine (inf_single_pos _).mono ?_; rintro e w2 ⟨rfl, hb2⟩; have hb3 := conv_back' w2 _ 9 l (HO.out.drew.below hb2 (by simp; omega)) HL.out))
      all_goals (try go_wp2)
      all_goals
        go_ret2
        exact ⟨hbel.drew.trans (hb2.mono (by have := hbel.size; simp; omega)), ⟨l.toArray⟩, by simpa using HW.out, rfl⟩

set_option maxHeartbeats 2000000 in
theorem special_spec_4d (n large : Int) (w : World) (h0 : 0 ≤ n) (h1 : n ≤ 255) (hr : n % 7 = 4)  :
    Calls Try.prog 4 #[.int .u8 n, .int .u16 large, .bool false] w fun e w' => Below w.heap.size w w' ∧ ∃ s : ByteArray, s.data.toList.map Pl.lowc = [43, 105, 110, 102, 105, 110, 105, 116, 121] ∧ e = .returned (.tuple #[.string s, .int .u64 9218868437227405312]) := by
  have hcb := conv_bytes
  go_enter Try.func4, Try.ntmps4
  go_wp2_with (go_at_call 6; go_must (refine (formatOf_double _).mono ?_; rintro e w1 ⟨rfl, hb1⟩; unfold dblV))
  clear hcb hr h0 h1
  go_loopw [23] (fun c wr => ∃ (k : Nat) (l : List UInt8), k ≤ 9 ∧ c = .int .i64 k ∧ l.length = 9 ∧ l.map Pl.lowc = [43, 105, 110, 102, 105, 110, 105, 116, 121] ∧ Owns wr (w1.heap.size + 1 + 1) l ∧ Five wr w1.heap.size (.int .i64 53) (.int .i64 52) (.int .i64 (-1074)) (.int .u64 2047) (.int .u64 9223372036854775808) ∧ w1.heap.size + 3 ≤ wr.heap.size ∧ Below w.heap.size w wr) (fun c _ => 9 - (intOf c).toNat)
  case atStart =>
    refine ⟨0, [43, 105, 110, 102, 105, 110, 105, 116, 121], by omega, rfl, rfl, by decide, ?_, ?_, ?_, ?_⟩
    · exact owns_at _ _ _ _ _ (by simp) rfl
    · exact five_at _ _ _ _ _ _ _ _ _
    · simp
    · exact ((((hb1.alloc hb1.size _).alloc (by have := hb1.size; simp; omega) _).alloc (by have := hb1.size; simp; omega) _)).drew
  case round =>
    obtain ⟨k, l, hk, rfl, hl, hw, hown, hfive, hsz, hbel⟩ := hrel
    have HL := Lib.hid hl
    have HW := Lib.hid hw
    have HO := Lib.hid hown
    have H5 := Lib.hid hfive
    clear hl hw hown hfive
    by_cases hkL : k < 9
    · obtain ⟨c, hc⟩ : ∃ c, c = l.getD k 0 := ⟨_, rfl⟩
      have hcell := (HO.out k (by rw [HL.out]; exact hkL)).1
      have hfr := (HO.out k (by rw [HL.out]; exact hkL)).2
      rw [← hc] at hcell
      have HC := Lib.hid hc
      clear hc
      have hcb : (c.toNat : Int) ≤ 255 := by have := c.toNat_lt; omega
      go_wp2
      all_goals
        go_roundw
        case rel => first
          | exact ⟨k + 1, l.set k (c - 32), by omega, by go_num, by rw [List.length_set]; exact HL.out, by rw [map_set_same (by rw [(lowc_large c (by omega) (by omega)).1, HC.out])]; exact HW.out, HO.out.set (by rw [HL.out]; omega) (c - 32) _ (lowc_large c (by omega) (by omega)).2.symm, H5.out.set (by omega), by simp; omega, hbel.setCell (by have := hb1.size; simp; omega) _⟩
          | exact ⟨k + 1, l, by omega, by go_num, HL.out, HW.out, HO.out, H5.out, hsz, hbel⟩
        case measure => simp [intOf]; omega
    · have hz : k = 9 := by omega
      clear hk
      obtain ⟨f0, f1, f2, f3, f4⟩ := H5.out
      have hb0 := conv_back' wr.drew _ 9 l HO.out.drew HL.out
      have hcell := (HO.out 0 (by rw [HL.out]; omega)).1
      have hneg : (((l.getD 0 0).toNat : Int) == 45) = false := first_byte HW.out (by decide)
      obtain ⟨c0, hc0⟩ : ∃ c0 : Int, c0 = ((l.getD 0 0).toNat : Int) := ⟨_, rfl⟩
      rw [← hc0] at hcell hneg
      clear hc0 H5 hz
      go_wp2_with fail
      go_region_with (go_at_call 9; go_must (refine (inf_double_pos _).mono ?_; rintro e w2 ⟨rfl, hb2⟩; have hb3 := conv_back' w2 _ 9 l (HO.out.drew.below hb2 (by simp; omega)) HL.out))
      all_goals (try go_wp2)
      all_goals
        go_ret2
        exact ⟨hbel.drew.trans (hb2.mono (by have := hbel.size; simp; omega)), ⟨l.toArray⟩, by simpa using HW.out, rfl⟩

set_option maxHeartbeats 2000000 in
theorem special_spec_5s (n large : Int) (w : World) (h0 : 0 ≤ n) (h1 : n ≤ 255) (hr : n % 7 = 5)  :
    Calls Try.prog 4 #[.int .u8 n, .int .u16 large, .bool true] w fun e w' => Below w.heap.size w w' ∧ ∃ s : ByteArray, s.data.toList.map Pl.lowc = [45, 105, 110, 102, 105, 110, 105, 116, 121] ∧ e = .returned (.tuple #[.string s, .int .u64 4286578688]) := by
  have hcb := conv_bytes
  go_enter Try.func4, Try.ntmps4
  go_wp2_with (go_at_call 6; go_must (refine (formatOf_single _).mono ?_; rintro e w1 ⟨rfl, hb1⟩; unfold sglV))
  clear hcb hr h0 h1
  go_loopw [23] (fun c wr => ∃ (k : Nat) (l : List UInt8), k ≤ 9 ∧ c = .int .i64 k ∧ l.length = 9 ∧ l.map Pl.lowc = [45, 105, 110, 102, 105, 110, 105, 116, 121] ∧ Owns wr (w1.heap.size + 1 + 1) l ∧ Five wr w1.heap.size (.int .i64 24) (.int .i64 23) (.int .i64 (-149)) (.int .u64 255) (.int .u64 2147483648) ∧ w1.heap.size + 3 ≤ wr.heap.size ∧ Below w.heap.size w wr) (fun c _ => 9 - (intOf c).toNat)
  case atStart =>
    refine ⟨0, [45, 105, 110, 102, 105, 110, 105, 116, 121], by omega, rfl, rfl, by decide, ?_, ?_, ?_, ?_⟩
    · exact owns_at _ _ _ _ _ (by simp) rfl
    · exact five_at _ _ _ _ _ _ _ _ _
    · simp
    · exact ((((hb1.alloc hb1.size _).alloc (by have := hb1.size; simp; omega) _).alloc (by have := hb1.size; simp; omega) _)).drew
  case round =>
    obtain ⟨k, l, hk, rfl, hl, hw, hown, hfive, hsz, hbel⟩ := hrel
    have HL := Lib.hid hl
    have HW := Lib.hid hw
    have HO := Lib.hid hown
    have H5 := Lib.hid hfive
    clear hl hw hown hfive
    by_cases hkL : k < 9
    · obtain ⟨c, hc⟩ : ∃ c, c = l.getD k 0 := ⟨_, rfl⟩
      have hcell := (HO.out k (by rw [HL.out]; exact hkL)).1
      have hfr := (HO.out k (by rw [HL.out]; exact hkL)).2
      rw [← hc] at hcell
      have HC := Lib.hid hc
      clear hc
      have hcb : (c.toNat : Int) ≤ 255 := by have := c.toNat_lt; omega
      go_wp2
      all_goals
        go_roundw
        case rel => first
          | exact ⟨k + 1, l.set k (c - 32), by omega, by go_num, by rw [List.length_set]; exact HL.out, by rw [map_set_same (by rw [(lowc_large c (by omega) (by omega)).1, HC.out])]; exact HW.out, HO.out.set (by rw [HL.out]; omega) (c - 32) _ (lowc_large c (by omega) (by omega)).2.symm, H5.out.set (by omega), by simp; omega, hbel.setCell (by have := hb1.size; simp; omega) _⟩
          | exact ⟨k + 1, l, by omega, by go_num, HL.out, HW.out, HO.out, H5.out, hsz, hbel⟩
        case measure => simp [intOf]; omega
    · have hz : k = 9 := by omega
      clear hk
      obtain ⟨f0, f1, f2, f3, f4⟩ := H5.out
      have hb0 := conv_back' wr.drew _ 9 l HO.out.drew HL.out
      have hcell := (HO.out 0 (by rw [HL.out]; omega)).1
      have hneg : (((l.getD 0 0).toNat : Int) == 45) = true := first_byte HW.out (by decide)
      obtain ⟨c0, hc0⟩ : ∃ c0 : Int, c0 = ((l.getD 0 0).toNat : Int) := ⟨_, rfl⟩
      rw [← hc0] at hcell hneg
      clear hc0 H5 hz
      go_wp2_with fail
      go_region_with (go_at_call 9; go_must (refine (inf_single_neg _).mono ?_; rintro e w2 ⟨rfl, hb2⟩; have hb3 := conv_back' w2 _ 9 l (HO.out.drew.below hb2 (by simp; omega)) HL.out))
      all_goals (try go_wp2)
      all_goals
        go_ret2
        exact ⟨hbel.drew.trans (hb2.mono (by have := hbel.size; simp; omega)), ⟨l.toArray⟩, by simpa using HW.out, rfl⟩

set_option maxHeartbeats 2000000 in
theorem special_spec_5d (n large : Int) (w : World) (h0 : 0 ≤ n) (h1 : n ≤ 255) (hr : n % 7 = 5)  :
    Calls Try.prog 4 #[.int .u8 n, .int .u16 large, .bool false] w fun e w' => Below w.heap.size w w' ∧ ∃ s : ByteArray, s.data.toList.map Pl.lowc = [45, 105, 110, 102, 105, 110, 105, 116, 121] ∧ e = .returned (.tuple #[.string s, .int .u64 18442240474082181120]) := by
  have hcb := conv_bytes
  go_enter Try.func4, Try.ntmps4
  go_wp2_with (go_at_call 6; go_must (refine (formatOf_double _).mono ?_; rintro e w1 ⟨rfl, hb1⟩; unfold dblV))
  clear hcb hr h0 h1
  go_loopw [23] (fun c wr => ∃ (k : Nat) (l : List UInt8), k ≤ 9 ∧ c = .int .i64 k ∧ l.length = 9 ∧ l.map Pl.lowc = [45, 105, 110, 102, 105, 110, 105, 116, 121] ∧ Owns wr (w1.heap.size + 1 + 1) l ∧ Five wr w1.heap.size (.int .i64 53) (.int .i64 52) (.int .i64 (-1074)) (.int .u64 2047) (.int .u64 9223372036854775808) ∧ w1.heap.size + 3 ≤ wr.heap.size ∧ Below w.heap.size w wr) (fun c _ => 9 - (intOf c).toNat)
  case atStart =>
    refine ⟨0, [45, 105, 110, 102, 105, 110, 105, 116, 121], by omega, rfl, rfl, by decide, ?_, ?_, ?_, ?_⟩
    · exact owns_at _ _ _ _ _ (by simp) rfl
    · exact five_at _ _ _ _ _ _ _ _ _
    · simp
    · exact ((((hb1.alloc hb1.size _).alloc (by have := hb1.size; simp; omega) _).alloc (by have := hb1.size; simp; omega) _)).drew
  case round =>
    obtain ⟨k, l, hk, rfl, hl, hw, hown, hfive, hsz, hbel⟩ := hrel
    have HL := Lib.hid hl
    have HW := Lib.hid hw
    have HO := Lib.hid hown
    have H5 := Lib.hid hfive
    clear hl hw hown hfive
    by_cases hkL : k < 9
    · obtain ⟨c, hc⟩ : ∃ c, c = l.getD k 0 := ⟨_, rfl⟩
      have hcell := (HO.out k (by rw [HL.out]; exact hkL)).1
      have hfr := (HO.out k (by rw [HL.out]; exact hkL)).2
      rw [← hc] at hcell
      have HC := Lib.hid hc
      clear hc
      have hcb : (c.toNat : Int) ≤ 255 := by have := c.toNat_lt; omega
      go_wp2
      all_goals
        go_roundw
        case rel => first
          | exact ⟨k + 1, l.set k (c - 32), by omega, by go_num, by rw [List.length_set]; exact HL.out, by rw [map_set_same (by rw [(lowc_large c (by omega) (by omega)).1, HC.out])]; exact HW.out, HO.out.set (by rw [HL.out]; omega) (c - 32) _ (lowc_large c (by omega) (by omega)).2.symm, H5.out.set (by omega), by simp; omega, hbel.setCell (by have := hb1.size; simp; omega) _⟩
          | exact ⟨k + 1, l, by omega, by go_num, HL.out, HW.out, HO.out, H5.out, hsz, hbel⟩
        case measure => simp [intOf]; omega
    · have hz : k = 9 := by omega
      clear hk
      obtain ⟨f0, f1, f2, f3, f4⟩ := H5.out
      have hb0 := conv_back' wr.drew _ 9 l HO.out.drew HL.out
      have hcell := (HO.out 0 (by rw [HL.out]; omega)).1
      have hneg : (((l.getD 0 0).toNat : Int) == 45) = true := first_byte HW.out (by decide)
      obtain ⟨c0, hc0⟩ : ∃ c0 : Int, c0 = ((l.getD 0 0).toNat : Int) := ⟨_, rfl⟩
      rw [← hc0] at hcell hneg
      clear hc0 H5 hz
      go_wp2_with fail
      go_region_with (go_at_call 9; go_must (refine (inf_double_neg _).mono ?_; rintro e w2 ⟨rfl, hb2⟩; have hb3 := conv_back' w2 _ 9 l (HO.out.drew.below hb2 (by simp; omega)) HL.out))
      all_goals (try go_wp2)
      all_goals
        go_ret2
        exact ⟨hbel.drew.trans (hb2.mono (by have := hbel.size; simp; omega)), ⟨l.toArray⟩, by simpa using HW.out, rfl⟩
end Go.Proofs.Ytfbbileojddioaa
