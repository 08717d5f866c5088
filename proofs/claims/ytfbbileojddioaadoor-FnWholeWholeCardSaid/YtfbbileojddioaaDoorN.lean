/- The law FnWholeWhole. -/
import Derived.Test.YtfbbileojddioaaDoorL
namespace Go.Proofs.YtfbbileojddioaaDoor
open Go.RowKit

set_option maxRecDepth 100000 in
set_option maxHeartbeats 2000000 in
theorem law4_ntt (neg : Bool) (N b z : Nat) (b0 z0 v x : Int) (Q : List UInt8 → Prop) (w : World) (hb36 : b ≤ 36) (hz64 : z ≤ 64)
    (h0 : 0 ≤ b0 ∧ b0 ≤ 255 ∧ 0 ≤ z0 ∧ z0 ≤ 255) (eb : 2 + b0 % 35 = (b : Int)) (ez : 2 + z0 % 63 = (z : Int)) (hN0 : ((N : Int) == 0) = false)
    (H5 : Calls Tryd.prog 5 #[.bool neg, .int .u64 N, .int .i64 b] w fun e w' => (∃ s : ByteArray, e = .returned (.string s) ∧ Q s.data.toList) ∧ w = w')
    (H9 : Calls Tryd.prog 9 #[.bool neg, .int .u64 N, .int .i64 z] w fun e w' => e = .returned (.tuple #[.int .i64 v, .bool true]) ∧ w = w')
    (H10 : ∀ s : ByteArray, Q s.data.toList → Calls Tryd.prog 10 #[.string s, .int .i64 b, .int .i64 z] w fun e w' => e = .returned (.tuple #[.int .i64 v, .int .i64 2]) ∧ Below w.heap.size w w')
    (H9b : ∀ w1, Calls Tryd.prog 9 #[.bool neg, .int .u64 N, .int .i64 64] w1 fun e w' => e = .returned (.tuple #[.int .i64 x, .bool true]) ∧ w1 = w') :
    Calls Tryd.prog 4 #[.bool neg, .int .u64 N, .int .u8 b0, .int .u8 z0] w fun e w' => e = .returned (.bool true) ∧ Below w.heap.size w w' := by
  have HH5 := Lib.hid H5
  have HH9 := Lib.hid H9
  have HH10 := Lib.hid H10
  have HH9b := Lib.hid H9b
  clear H5 H9 H10 H9b 
  go_enter Tryd.func4, Tryd.ntmps4
  go_wp2_with fail
  refine HH5.out.mono ?_
  rintro e w' ⟨⟨s, rfl, hs⟩, rfl⟩
  have HS := Lib.hid hs
  clear hs eb ez
  go_wp2_with fail
  refine HH9.out.mono ?_
  rintro e w' ⟨rfl, rfl⟩
  go_wp2_with fail
  refine (HH10.out s HS.out).mono ?_
  rintro e w1 ⟨rfl, hbel⟩
  have HB := Lib.hid hbel
  clear hbel
  go_wp2_with fail
  refine (HH9b.out w1).mono ?_
  rintro e w' ⟨rfl, rfl⟩
  go_wp2_with fail
  refine (sane_any w1).mono ?_
  rintro e w3 ⟨rfl, hbel3⟩
  have HB3 := Lib.hid hbel3
  clear hbel3
  go_wp2_with fail
  go_ret
  exact ⟨rfl, below_on HB.out HB3.out⟩

set_option maxRecDepth 100000 in
set_option maxHeartbeats 2000000 in
theorem law4_ntf (neg : Bool) (N b z : Nat) (b0 z0 v x : Int) (Q : List UInt8 → Prop) (w : World) (hb36 : b ≤ 36) (hz64 : z ≤ 64)
    (h0 : 0 ≤ b0 ∧ b0 ≤ 255 ∧ 0 ≤ z0 ∧ z0 ≤ 255) (eb : 2 + b0 % 35 = (b : Int)) (ez : 2 + z0 % 63 = (z : Int)) (hN0 : ((N : Int) == 0) = false) (hQ : ∀ s s' : ByteArray, Q s.data.toList → Q s'.data.toList → s = s')
    (H5 : Calls Tryd.prog 5 #[.bool neg, .int .u64 N, .int .i64 b] w fun e w' => (∃ s : ByteArray, e = .returned (.string s) ∧ Q s.data.toList) ∧ w = w')
    (H9 : Calls Tryd.prog 9 #[.bool neg, .int .u64 N, .int .i64 z] w fun e w' => e = .returned (.tuple #[.int .i64 v, .bool true]) ∧ w = w')
    (H10 : ∀ s : ByteArray, Q s.data.toList → Calls Tryd.prog 10 #[.string s, .int .i64 b, .int .i64 z] w fun e w' => e = .returned (.tuple #[.int .i64 v, .int .i64 2]) ∧ Below w.heap.size w w')
    (H9b : ∀ w1, Calls Tryd.prog 9 #[.bool neg, .int .u64 N, .int .i64 64] w1 fun e w' => e = .returned (.tuple #[.int .i64 x, .bool false]) ∧ w1 = w')
    (H11 : ∀ w1, Below w.heap.size w w1 → Calls Tryd.prog 11 #[.int .i64 x, .int .i64 b] w1 fun e w' => (∃ s : ByteArray, e = .returned (.string s) ∧ Q s.data.toList) ∧ Below w1.heap.size w1 w') :
    Calls Tryd.prog 4 #[.bool neg, .int .u64 N, .int .u8 b0, .int .u8 z0] w fun e w' => e = .returned (.bool true) ∧ Below w.heap.size w w' := by
  have HH5 := Lib.hid H5
  have HH9 := Lib.hid H9
  have HH10 := Lib.hid H10
  have HH9b := Lib.hid H9b
  have HH11 := Lib.hid H11
  clear H5 H9 H10 H9b H11 
  go_enter Tryd.func4, Tryd.ntmps4
  go_wp2_with fail
  refine HH5.out.mono ?_
  rintro e w' ⟨⟨s, rfl, hs⟩, rfl⟩
  have HS := Lib.hid hs
  clear hs eb ez
  go_wp2_with fail
  refine HH9.out.mono ?_
  rintro e w' ⟨rfl, rfl⟩
  go_wp2_with fail
  refine (HH10.out s HS.out).mono ?_
  rintro e w1 ⟨rfl, hbel⟩
  have HB := Lib.hid hbel
  clear hbel
  go_wp2_with fail
  refine (HH9b.out w1).mono ?_
  rintro e w' ⟨rfl, rfl⟩
  go_wp2_with fail
  refine (HH11.out w1 HB.out).mono ?_
  rintro e w2 ⟨⟨s2, rfl, hs2⟩, hbel2⟩
  obtain rfl := hQ s2 s hs2 HS.out
  have HB2 := Lib.hid hbel2
  clear hs2 hbel2 hQ
  go_wp2_with fail
  refine (sane_any w2).mono ?_
  rintro e w3 ⟨rfl, hbel3⟩
  have HB3 := Lib.hid hbel3
  clear hbel3
  go_wp2_with fail
  go_ret
  exact ⟨rfl, below_on (below_on HB.out HB2.out) HB3.out⟩

set_option maxRecDepth 100000 in
set_option maxHeartbeats 2000000 in
theorem law4_nft (neg : Bool) (N b z : Nat) (b0 z0 v x : Int) (Q : List UInt8 → Prop) (w : World) (hb36 : b ≤ 36) (hz64 : z ≤ 64)
    (h0 : 0 ≤ b0 ∧ b0 ≤ 255 ∧ 0 ≤ z0 ∧ z0 ≤ 255) (eb : 2 + b0 % 35 = (b : Int)) (ez : 2 + z0 % 63 = (z : Int)) (hN0 : ((N : Int) == 0) = false)
    (H5 : Calls Tryd.prog 5 #[.bool neg, .int .u64 N, .int .i64 b] w fun e w' => (∃ s : ByteArray, e = .returned (.string s) ∧ Q s.data.toList) ∧ w = w')
    (H9 : Calls Tryd.prog 9 #[.bool neg, .int .u64 N, .int .i64 z] w fun e w' => e = .returned (.tuple #[.int .i64 v, .bool false]) ∧ w = w')
    (H10 : ∀ s : ByteArray, Q s.data.toList → Calls Tryd.prog 10 #[.string s, .int .i64 b, .int .i64 z] w fun e w' => e = .returned (.tuple #[.int .i64 v, .int .i64 0]) ∧ Below w.heap.size w w')
    (H9b : ∀ w1, Calls Tryd.prog 9 #[.bool neg, .int .u64 N, .int .i64 64] w1 fun e w' => e = .returned (.tuple #[.int .i64 x, .bool true]) ∧ w1 = w') :
    Calls Tryd.prog 4 #[.bool neg, .int .u64 N, .int .u8 b0, .int .u8 z0] w fun e w' => e = .returned (.bool true) ∧ Below w.heap.size w w' := by
  have HH5 := Lib.hid H5
  have HH9 := Lib.hid H9
  have HH10 := Lib.hid H10
  have HH9b := Lib.hid H9b
  clear H5 H9 H10 H9b 
  go_enter Tryd.func4, Tryd.ntmps4
  go_wp2_with fail
  refine HH5.out.mono ?_
  rintro e w' ⟨⟨s, rfl, hs⟩, rfl⟩
  have HS := Lib.hid hs
  clear hs eb ez
  go_wp2_with fail
  refine HH9.out.mono ?_
  rintro e w' ⟨rfl, rfl⟩
  go_wp2_with fail
  refine (HH10.out s HS.out).mono ?_
  rintro e w1 ⟨rfl, hbel⟩
  have HB := Lib.hid hbel
  clear hbel
  go_wp2_with fail
  refine (HH9b.out w1).mono ?_
  rintro e w' ⟨rfl, rfl⟩
  go_wp2_with fail
  refine (sane_any w1).mono ?_
  rintro e w3 ⟨rfl, hbel3⟩
  have HB3 := Lib.hid hbel3
  clear hbel3
  go_wp2_with fail
  go_ret
  exact ⟨rfl, below_on HB.out HB3.out⟩

set_option maxRecDepth 100000 in
set_option maxHeartbeats 2000000 in
theorem law4_nff (neg : Bool) (N b z : Nat) (b0 z0 v x : Int) (Q : List UInt8 → Prop) (w : World) (hb36 : b ≤ 36) (hz64 : z ≤ 64)
    (h0 : 0 ≤ b0 ∧ b0 ≤ 255 ∧ 0 ≤ z0 ∧ z0 ≤ 255) (eb : 2 + b0 % 35 = (b : Int)) (ez : 2 + z0 % 63 = (z : Int)) (hN0 : ((N : Int) == 0) = false) (hQ : ∀ s s' : ByteArray, Q s.data.toList → Q s'.data.toList → s = s')
    (H5 : Calls Tryd.prog 5 #[.bool neg, .int .u64 N, .int .i64 b] w fun e w' => (∃ s : ByteArray, e = .returned (.string s) ∧ Q s.data.toList) ∧ w = w')
    (H9 : Calls Tryd.prog 9 #[.bool neg, .int .u64 N, .int .i64 z] w fun e w' => e = .returned (.tuple #[.int .i64 v, .bool false]) ∧ w = w')
    (H10 : ∀ s : ByteArray, Q s.data.toList → Calls Tryd.prog 10 #[.string s, .int .i64 b, .int .i64 z] w fun e w' => e = .returned (.tuple #[.int .i64 v, .int .i64 0]) ∧ Below w.heap.size w w')
    (H9b : ∀ w1, Calls Tryd.prog 9 #[.bool neg, .int .u64 N, .int .i64 64] w1 fun e w' => e = .returned (.tuple #[.int .i64 x, .bool false]) ∧ w1 = w')
    (H11 : ∀ w1, Below w.heap.size w w1 → Calls Tryd.prog 11 #[.int .i64 x, .int .i64 b] w1 fun e w' => (∃ s : ByteArray, e = .returned (.string s) ∧ Q s.data.toList) ∧ Below w1.heap.size w1 w') :
    Calls Tryd.prog 4 #[.bool neg, .int .u64 N, .int .u8 b0, .int .u8 z0] w fun e w' => e = .returned (.bool true) ∧ Below w.heap.size w w' := by
  have HH5 := Lib.hid H5
  have HH9 := Lib.hid H9
  have HH10 := Lib.hid H10
  have HH9b := Lib.hid H9b
  have HH11 := Lib.hid H11
  clear H5 H9 H10 H9b H11 
  go_enter Tryd.func4, Tryd.ntmps4
  go_wp2_with fail
  refine HH5.out.mono ?_
  rintro e w' ⟨⟨s, rfl, hs⟩, rfl⟩
  have HS := Lib.hid hs
  clear hs eb ez
  go_wp2_with fail
  refine HH9.out.mono ?_
  rintro e w' ⟨rfl, rfl⟩
  go_wp2_with fail
  refine (HH10.out s HS.out).mono ?_
  rintro e w1 ⟨rfl, hbel⟩
  have HB := Lib.hid hbel
  clear hbel
  go_wp2_with fail
  refine (HH9b.out w1).mono ?_
  rintro e w' ⟨rfl, rfl⟩
  go_wp2_with fail
  refine (HH11.out w1 HB.out).mono ?_
  rintro e w2 ⟨⟨s2, rfl, hs2⟩, hbel2⟩
  obtain rfl := hQ s2 s hs2 HS.out
  have HB2 := Lib.hid hbel2
  clear hs2 hbel2 hQ
  go_wp2_with fail
  refine (sane_any w2).mono ?_
  rintro e w3 ⟨rfl, hbel3⟩
  have HB3 := Lib.hid hbel3
  clear hbel3
  go_wp2_with fail
  go_ret
  exact ⟨rfl, below_on (below_on HB.out HB2.out) HB3.out⟩

set_option maxRecDepth 100000 in
set_option maxHeartbeats 2000000 in
theorem law4_zff (neg0 : Bool) (N b z : Nat) (b0 z0 v x : Int) (Q : List UInt8 → Prop) (w : World) (hb36 : b ≤ 36) (hz64 : z ≤ 64)
    (h0 : 0 ≤ b0 ∧ b0 ≤ 255 ∧ 0 ≤ z0 ∧ z0 ≤ 255) (eb : 2 + b0 % 35 = (b : Int)) (ez : 2 + z0 % 63 = (z : Int)) (hN0 : ((N : Int) == 0) = true) (hQ : ∀ s s' : ByteArray, Q s.data.toList → Q s'.data.toList → s = s')
    (H5 : Calls Tryd.prog 5 #[.bool false, .int .u64 N, .int .i64 b] w fun e w' => (∃ s : ByteArray, e = .returned (.string s) ∧ Q s.data.toList) ∧ w = w')
    (H9 : Calls Tryd.prog 9 #[.bool false, .int .u64 N, .int .i64 z] w fun e w' => e = .returned (.tuple #[.int .i64 v, .bool false]) ∧ w = w')
    (H10 : ∀ s : ByteArray, Q s.data.toList → Calls Tryd.prog 10 #[.string s, .int .i64 b, .int .i64 z] w fun e w' => e = .returned (.tuple #[.int .i64 v, .int .i64 0]) ∧ Below w.heap.size w w')
    (H9b : ∀ w1, Calls Tryd.prog 9 #[.bool false, .int .u64 N, .int .i64 64] w1 fun e w' => e = .returned (.tuple #[.int .i64 x, .bool false]) ∧ w1 = w')
    (H11 : ∀ w1, Below w.heap.size w w1 → Calls Tryd.prog 11 #[.int .i64 x, .int .i64 b] w1 fun e w' => (∃ s : ByteArray, e = .returned (.string s) ∧ Q s.data.toList) ∧ Below w1.heap.size w1 w') :
    Calls Tryd.prog 4 #[.bool neg0, .int .u64 N, .int .u8 b0, .int .u8 z0] w fun e w' => e = .returned (.bool true) ∧ Below w.heap.size w w' := by
  have HH5 := Lib.hid H5
  have HH9 := Lib.hid H9
  have HH10 := Lib.hid H10
  have HH9b := Lib.hid H9b
  have HH11 := Lib.hid H11
  clear H5 H9 H10 H9b H11 
  go_enter Tryd.func4, Tryd.ntmps4
  go_wp2_with fail
  refine HH5.out.mono ?_
  rintro e w' ⟨⟨s, rfl, hs⟩, rfl⟩
  have HS := Lib.hid hs
  clear hs eb ez
  go_wp2_with fail
  refine HH9.out.mono ?_
  rintro e w' ⟨rfl, rfl⟩
  go_wp2_with fail
  refine (HH10.out s HS.out).mono ?_
  rintro e w1 ⟨rfl, hbel⟩
  have HB := Lib.hid hbel
  clear hbel
  go_wp2_with fail
  refine (HH9b.out w1).mono ?_
  rintro e w' ⟨rfl, rfl⟩
  go_wp2_with fail
  refine (HH11.out w1 HB.out).mono ?_
  rintro e w2 ⟨⟨s2, rfl, hs2⟩, hbel2⟩
  obtain rfl := hQ s2 s hs2 HS.out
  have HB2 := Lib.hid hbel2
  clear hs2 hbel2 hQ
  go_wp2_with fail
  refine (sane_any w2).mono ?_
  rintro e w3 ⟨rfl, hbel3⟩
  have HB3 := Lib.hid hbel3
  clear hbel3
  go_wp2_with fail
  go_ret
  exact ⟨rfl, below_on (below_on HB.out HB2.out) HB3.out⟩

end Go.Proofs.YtfbbileojddioaaDoor
