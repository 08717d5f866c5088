/- FormatInt, impl.Whole. -/
import Derived.Test.YtfbbileojddioaaDoorJ
namespace Go.Proofs.YtfbbileojddioaaDoor
open Go.RowKit

set_option maxHeartbeats 1000000 in
theorem int_bits_pos (U b : Nat) (w : World) (h10 : b ≠ 10) (hU : U < 2 ^ 63)
    (H : Calls Tryd.prog 24 #[.slice none 0 0, .int .u64 U, .int .i64 b, .bool false, .bool false] w fun e w' => (∃ s : ByteArray, e = .returned (.tuple #[.slice none 0 0, .string s]) ∧ ∃ l, Pl.IsDg b U l ∧ s.data.toList = l) ∧ Below w.heap.size w w') :
    Calls Tryd.prog 17 #[.int .i64 U, .int .i64 b] w fun e w' => (∃ s : ByteArray, e = .returned (.string s) ∧ Pl.IsDg b U s.data.toList) ∧ Below w.heap.size w w' := by
  have hb10 : ((b : Int) == 10) = false := beq_eq_false_iff_ne.2 (by omega)
  have h0 : decide ((U : Int) < 0) = false := decide_eq_false (by omega)
  have HH := Lib.hid H
  clear H h10
  go_enter Tryd.func17, Tryd.ntmps17
  go_wp2_with fail
  refine HH.out.mono ?_
  rintro e w' ⟨⟨s, rfl, l, hl, hs⟩, hbel⟩
  have HR : Hid (Pl.IsDg b U s.data.toList ∧ Below w.heap.size w w') := Lib.hid ⟨hs ▸ hl, hbel⟩
  clear hl hs hbel
  go_wp2_with fail
  go_ret
  exact ⟨⟨s, rfl, HR.out.1⟩, HR.out.2⟩

set_option maxHeartbeats 1000000 in
theorem int_bits_neg (U V b : Nat) (i : Int) (w : World) (h10 : b ≠ 10) (hi : i < 0) (hV : IntKind.u64.wrap i = (V : Int))
    (H : Calls Tryd.prog 24 #[.slice none 0 0, .int .u64 V, .int .i64 b, .bool true, .bool false] w fun e w' => (∃ s : ByteArray, e = .returned (.tuple #[.slice none 0 0, .string s]) ∧ ∃ l, Pl.IsDg b U l ∧ s.data.toList = 45 :: l) ∧ Below w.heap.size w w') :
    Calls Tryd.prog 17 #[.int .i64 i, .int .i64 b] w fun e w' => (∃ s : ByteArray, e = .returned (.string s) ∧ ∃ l, Pl.IsDg b U l ∧ s.data.toList = 45 :: l) ∧ Below w.heap.size w w' := by
  have hb10 : ((b : Int) == 10) = false := beq_eq_false_iff_ne.2 (by omega)
  have h0 : decide (i < 0) = true := decide_eq_true (by omega)
  have HH := Lib.hid H
  clear H h10
  go_enter Tryd.func17, Tryd.ntmps17
  go_wp2_with fail
  refine HH.out.mono ?_
  rintro e w' ⟨⟨s, rfl, l, hl, hs⟩, hbel⟩
  have HR : Hid (Pl.IsDg b U l ∧ s.data.toList = 45 :: l ∧ Below w.heap.size w w') := Lib.hid ⟨hl, hs, hbel⟩
  clear hl hs hbel
  go_wp2_with fail
  go_ret
  exact ⟨⟨s, rfl, l, HR.out.1, HR.out.2.1⟩, HR.out.2.2⟩

set_option maxHeartbeats 1000000 in
theorem int_small (U : Nat) (w : World) (hU : U < 100) :
    Calls Tryd.prog 17 #[.int .i64 U, .int .i64 10] w fun e w' => (∃ s : ByteArray, e = .returned (.string s) ∧ Pl.IsDg 10 U s.data.toList) ∧ Below w.heap.size w w' := by
  have HH := Lib.hid (small_any U w (by omega))
  have h0 : decide (0 ≤ (U : Int)) = true := decide_eq_true (by omega)
  have h1 : decide ((U : Int) < 100) = true := decide_eq_true (by omega)
  go_enter Tryd.func17, Tryd.ntmps17
  go_wp2_with fail
  refine HH.out.mono ?_
  rintro e w' ⟨⟨s, rfl, hs⟩, rfl⟩
  have HR := Lib.hid hs
  clear hs
  go_wp2_with fail
  go_ret
  exact ⟨⟨s, rfl, HR.out⟩, Below.refl _ _⟩

set_option maxHeartbeats 1000000 in
theorem int_ten_pos (U : Nat) (w : World) (hU : 100 ≤ U) (hU63 : U < 2 ^ 63) (hP : Pows w) (hs : 3 ≤ w.heap.size) :
    Calls Tryd.prog 17 #[.int .i64 U, .int .i64 10] w fun e w' => (∃ s : ByteArray, e = .returned (.string s) ∧ Pl.IsDg 10 U s.data.toList) ∧ Below w.heap.size w w' := by
  have hbel : Below w.heap.size w (w.alloc (.cells (zeros 24) 52)) := (Below.refl _ _).alloc (Nat.le_refl _) _
  have hU64 : U < 2 ^ 64 := by omega
  have H22 := Lib.hid (numDigits_any U (w.alloc (.cells (zeros 24) 52)) (by omega) hU64 (hP.below hs hbel))
  have hd := dg10 U (by omega) hU64
  generalize Pl.digitsOf (Lib.bitLen U) U = nd at H22 hd
  have HD := Lib.hid hd
  have hnd1 : 1 ≤ nd := hd.1
  have hnd20 : nd ≤ 20 := hd.2.1
  have H23 := Lib.hid (base10_any U nd w.heap.size 1 24 23 (w.alloc (.cells (zeros 24) 52)) (List.replicate 24 0) rfl (by omega) hnd1 hnd20 hU64 hd.2.2.1 (owns_zeros w 24 52))
  have hsl := slice52l w.heap.size nd (by omega)
  have HB := Lib.hid hbel
  have hz := zero24
  have h0 : decide (0 ≤ (U : Int)) = true := decide_eq_true (by omega)
  have h1 : decide ((U : Int) < 100) = false := decide_eq_false (by omega)
  have h2 : decide ((U : Int) < 0) = false := decide_eq_false (by omega)
  clear hd hP hbel
  go_enter Tryd.func17, Tryd.ntmps17
  go_wp2_with fail
  refine H22.out.mono ?_
  rintro e w' ⟨rfl, rfl⟩
  clear hz
  go_wp2_with fail
  refine H23.out.mono ?_
  rintro e w' ⟨rfl, ⟨x, hft⟩, hb2⟩
  obtain ⟨m, HM, hcv⟩ := hft.conv HD.out.1 HD.out.2.2.1 HD.out.2.2.2
  have HB2 := Lib.hid hb2
  clear hft hb2
  go_wp2_with fail
  go_ret
  exact ⟨⟨_, rfl, by simpa using HM.out⟩, HB.out.trans HB2.out⟩

set_option maxHeartbeats 1000000 in
theorem int_ten_neg (U V : Nat) (i : Int) (w : World) (hi : i < 0) (hi2 : -9223372036854775808 ≤ i) (hV : IntKind.u64.wrap i = (V : Int)) (hV2 : IntKind.u64.wrap (-(V : Int)) = (U : Int))
    (hU : 1 ≤ U) (hU64 : U < 2 ^ 64) (hP : Pows w) (hs : 3 ≤ w.heap.size) :
    Calls Tryd.prog 17 #[.int .i64 i, .int .i64 10] w fun e w' => (∃ s : ByteArray, e = .returned (.string s) ∧ ∃ l, Pl.IsDg 10 U l ∧ s.data.toList = 45 :: l) ∧ Below w.heap.size w w' := by
  have hbel : Below w.heap.size w (w.alloc (.cells (zeros 24) 52)) := (Below.refl _ _).alloc (Nat.le_refl _) _
  have H22 := Lib.hid (numDigits_any U (w.alloc (.cells (zeros 24) 52)) (by omega) hU64 (hP.below hs hbel))
  have hd := dg10 U (by omega) hU64
  generalize Pl.digitsOf (Lib.bitLen U) U = nd at H22 hd
  have HD := Lib.hid hd
  have hnd1 : 1 ≤ nd := hd.1
  have hnd20 : nd ≤ 20 := hd.2.1
  have H23 := Lib.hid (base10_any U nd w.heap.size 1 24 23 (w.alloc (.cells (zeros 24) 52)) (List.replicate 24 0) rfl (by omega) hnd1 hnd20 hU64 hd.2.2.1 (owns_zeros w 24 52))
  have hsl := slice52l w.heap.size nd (by omega)
  have hsg := slice52g w.heap.size nd (by omega)
  have HB := Lib.hid hbel
  have hz := zero24
  have h0 : decide (0 ≤ i) = false := decide_eq_false (by omega)
  have h2 : decide (i < 0) = true := decide_eq_true (by omega)
  clear hd hP hbel
  go_enter Tryd.func17, Tryd.ntmps17
  go_wp2_with fail
  refine H22.out.mono ?_
  rintro e w' ⟨rfl, rfl⟩
  clear hz
  go_wp2_with fail
  refine H23.out.mono ?_
  rintro e w' ⟨rfl, ⟨x, hft⟩, hb2⟩
  obtain ⟨m, HM, ⟨v, hcell⟩, hfr, hcv⟩ := hft.conv_neg HD.out.1 HD.out.2.2.1 HD.out.2.2.2
  have HB2 := Lib.hid hb2
  clear hft hb2
  go_wp2_with fail
  go_ret
  exact ⟨⟨_, rfl, m, HM.out, by simp⟩, (HB.out.trans HB2.out).setCell (Nat.le_refl _) _⟩

theorem int_pos (U b : Nat) (w : World) (h2 : 2 ≤ b) (h36 : b ≤ 36) (hU : U < 2 ^ 63) (hP : Pows w) (hT : Tz w) :
    Calls Tryd.prog 17 #[.int .i64 U, .int .i64 b] w fun e w' => (∃ s : ByteArray, e = .returned (.string s) ∧ Pl.IsDg b U s.data.toList) ∧ Below w.heap.size w w' := by
  have hU64 : U < 2 ^ 64 := by omega
  rcases base_ways b h2 h36 with rfl | ⟨k, hk, k1, k5⟩ | ⟨h3, h10, hpw⟩
  · by_cases hs : U < 100
    · exact int_small U w hs
    · exact int_ten_pos U w (by omega) hU hP hT.1
  · exact int_bits_pos U b w (by intro e; subst e; have : ∀ y : Fin 6, 10 ≠ 2 ^ y.val := by decide +kernel
                                 exact this ⟨k, by omega⟩ hk) hU (formatBits_pow U b k w hk k1 k5 hT hU64)
  · exact int_bits_pos U b w h10 hU (formatBits_gen U b w h3 h36 h10 hpw hU64)

theorem int_neg (U b : Nat) (w : World) (h2 : 2 ≤ b) (h36 : b ≤ 36) (hU1 : 1 ≤ U) (hU : U ≤ 2 ^ 63) (hP : Pows w) (hT : Tz w) :
    Calls Tryd.prog 17 #[.int .i64 (-(U : Int)), .int .i64 b] w fun e w' => (∃ s : ByteArray, e = .returned (.string s) ∧ ∃ l, Pl.IsDg b U l ∧ s.data.toList = 45 :: l) ∧ Below w.heap.size w w' := by
  have hU64 : U < 2 ^ 64 := by omega
  have hV : IntKind.u64.wrap (-(U : Int)) = ((18446744073709551616 - U : Nat) : Int) := by rw [IntKind.wrap_u64]; omega
  have hV2 : IntKind.u64.wrap (-((18446744073709551616 - U : Nat) : Int)) = (U : Int) := by rw [IntKind.wrap_u64]; omega
  rcases base_ways b h2 h36 with rfl | ⟨k, hk, k1, k5⟩ | ⟨h3, h10, hpw⟩
  · exact int_ten_neg U _ _ w (by omega) (by omega) hV hV2 hU1 hU64 hP hT.1
  · exact int_bits_neg U _ b _ w (by intro e; subst e; have : ∀ y : Fin 6, 10 ≠ 2 ^ y.val := by decide +kernel
                                     exact this ⟨k, by omega⟩ hk) (by omega) hV (formatBits_pow_neg U b k _ hV2 w hk k1 k5 hT hU64)
  · exact int_bits_neg U _ b _ w h10 (by omega) hV (formatBits_gen_neg U b _ hV2 w h3 h36 h10 hpw hU64)

set_option maxHeartbeats 1000000 in
theorem whole_text (i : Int) (b : Nat) (Q : List UInt8 → Prop) (w : World)
    (H : Calls Tryd.prog 17 #[.int .i64 i, .int .i64 b] w fun e w' => (∃ s : ByteArray, e = .returned (.string s) ∧ Q s.data.toList) ∧ Below w.heap.size w w') :
    Calls Tryd.prog 11 #[.int .i64 i, .int .i64 b] w fun e w' => (∃ s : ByteArray, e = .returned (.string s) ∧ Q s.data.toList) ∧ Below w.heap.size w w' := by
  have HH := Lib.hid H
  clear H
  go_enter Tryd.func11, Tryd.ntmps11
  go_wp2_with fail
  refine HH.out.mono ?_
  rintro e w' ⟨⟨s, rfl, hs⟩, hbel⟩
  have HR := Lib.hid hs
  have HB := Lib.hid hbel
  clear hs hbel
  go_wp2_with fail
  go_ret
  exact ⟨⟨s, rfl, HR.out⟩, HB.out⟩
end Go.Proofs.YtfbbileojddioaaDoor
