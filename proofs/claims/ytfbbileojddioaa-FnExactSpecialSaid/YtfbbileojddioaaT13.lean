/- The walk of the law FnExactSpecial, out of its callees' contracts. -/
import Derived.Test.YtfbbileojddioaaT11
import Derived.Test.YtfbbileojddioaaT12
namespace Go.Proofs.Ytfbbileojddioaa
open Go.RowKit

set_option maxHeartbeats 1000000 in
theorem law_inf (n large b : Int) (single : Bool) (w : World) (Q : ByteArray → Prop) (h0 : 0 ≤ n) (h1 : n ≤ 255) (h6 : (n % 7 == 6) = false)
    (h4 : Calls Try.prog 4 #[.int .u8 n, .int .u16 large, .bool single] w fun e w' => Below w.heap.size w w' ∧ ∃ s : ByteArray, Q s ∧ e = .returned (.tuple #[.string s, .int .u64 b]))
    (h5 : ∀ (s : ByteArray) (w : World), Q s → Calls Try.prog 5 #[.string s, .bool single] w fun e w' => e = .returned (.tuple #[.int .u64 b, .int .i64 0]) ∧ w = w') :
    Calls Try.prog 3 #[.int .u8 n, .int .u16 large, .bool single] w fun e w' => e = .returned (.bool true) ∧ Below w.heap.size w w' := by
  have H4 := Lib.hid h4
  have H5 := Lib.hid h5
  clear h4 h5
  go_enter Try.func3, Try.ntmps3
  go_wp2_with fail
  refine H4.out.mono ?_
  rintro e w1 ⟨hb1, s, hs, rfl⟩
  go_wp2_with fail
  refine (H5.out s _ hs).mono ?_
  rintro e w2 ⟨rfl, rfl⟩
  go_wp2_with fail
  refine (sane_any _).mono ?_
  rintro e w2 ⟨rfl, hb2⟩
  go_wp2_with fail
  go_ret
  exact ⟨rfl, hb1.trans (hb2.mono hb1.size)⟩

set_option maxHeartbeats 1000000 in
theorem law_nan (n large b : Int) (single : Bool) (w : World) (Q : ByteArray → Prop) (N : Nat → Prop) (h0 : 0 ≤ n) (h1 : n ≤ 255) (h6 : (n % 7 == 6) = true) (V : Value)
    (h4 : Calls Try.prog 4 #[.int .u8 n, .int .u16 large, .bool single] w fun e w' => Below w.heap.size w w' ∧ ∃ s : ByteArray, Q s ∧ e = .returned (.tuple #[.string s, .int .u64 b]))
    (h5 : ∀ (s : ByteArray) (w : World), Q s → Calls Try.prog 5 #[.string s, .bool single] w fun e w' => (∃ g : Nat, N g ∧ e = .returned (.tuple #[.int .u64 g, .int .i64 0])) ∧ Below w.heap.size w w')
    (hf : ∀ w : World, Calls Try.prog 6 #[.bool single] w fun e w' => e = .returned V ∧ Below w.heap.size w w')
    (h7 : ∀ (g : Nat) (w : World), N g → Calls Try.prog 7 #[V, .int .u64 g] w fun e w' => e = .returned (.bool true) ∧ Below w.heap.size w w') :
    Calls Try.prog 3 #[.int .u8 n, .int .u16 large, .bool single] w fun e w' => e = .returned (.bool true) ∧ Below w.heap.size w w' := by
  have H4 := Lib.hid h4
  have H5 := Lib.hid h5
  have H6 := Lib.hid hf
  have H7 := Lib.hid h7
  clear h4 h5 hf h7
  go_enter Try.func3, Try.ntmps3
  go_wp2_with fail
  refine H4.out.mono ?_
  rintro e w1 ⟨hb1, s, hs, rfl⟩
  go_wp2_with fail
  refine (H5.out s _ hs).mono ?_
  rintro e w2 ⟨⟨g, hg, rfl⟩, hb2⟩
  go_wp2_with fail
  refine (H6.out _).mono ?_
  rintro e w3 ⟨rfl, hb3⟩
  go_wp2_with fail
  refine (H7.out g _ hg).mono ?_
  rintro e w4 ⟨rfl, hb4⟩
  go_wp2_with fail
  refine (sane_any _).mono ?_
  rintro e w5 ⟨rfl, hb5⟩
  go_wp2_with fail
  go_ret
  have k2 := hb1.trans (hb2.mono hb1.size)
  have k3 := k2.trans (hb3.mono k2.size)
  have k4 := k3.trans (hb4.mono k3.size)
  exact ⟨rfl, k4.trans (hb5.mono k4.size)⟩
end Go.Proofs.Ytfbbileojddioaa
