/- The law FnUnsignedWhole. -/
import Derived.Test.YtfbbileojddioaaDoorK
import Derived.Lib.MinMax
namespace Go.Proofs.YtfbbileojddioaaDoor
open Go.RowKit

theorem same_text {b n : Nat} {s s' : ByteArray} (hb : 2 ≤ b) (h : Pl.IsDg b n s.data.toList) (h' : Pl.IsDg b n s'.data.toList) : s = s' := by
  have := h.unique hb h'
  cases s; cases s'
  simp only at this
  congr 1
  exact Array.toList_inj.1 this

theorem text_any (N b : Nat) (w : World) (hb2 : 2 ≤ b) (hb36 : b ≤ 36) (hN : N < 2 ^ 64) :
    Calls Tryd.prog 5 #[.bool false, .int .u64 N, .int .i64 b] w fun e w' => (∃ s : ByteArray, e = .returned (.string s) ∧ Pl.IsDg b N s.data.toList) ∧ w = w' := by
  refine (whole_any false N b ⟨#[]⟩ w hb2 hb36 hN (by decide) (sign_pos w)).mono ?_
  rintro e w' ⟨⟨s, he, l, hl, hs⟩, hw⟩
  exact ⟨⟨s, he, by rw [hs]; simpa using hl⟩, hw⟩

theorem below_on {w w1 w2 : World} (h1 : Below w.heap.size w w1) (h2 : Below w1.heap.size w1 w2) : Below w.heap.size w w2 := h1.trans (h2.mono h1.size)

set_option maxRecDepth 100000 in
set_option maxHeartbeats 2000000 in
theorem law3_fits (N b z : Nat) (b0 z0 : Int) (w : World) (hb2 : 2 ≤ b) (hb36 : b ≤ 36) (hz1 : 1 ≤ z) (hz64 : z < 64) (hN : N < 2 ^ 64) (hM : N ≤ 2 ^ z - 1) (hP : Pows w) (hT : Tz w)
    (h0 : 0 ≤ b0 ∧ b0 ≤ 255 ∧ 0 ≤ z0 ∧ z0 ≤ 255) (eb : 2 + b0 % 35 = (b : Int)) (ez : 1 + z0 % 64 = (z : Int)) :
    Calls Tryd.prog 3 #[.int .u64 N, .int .u8 b0, .int .u8 z0] w fun e w' => e = .returned (.bool true) ∧ Below w.heap.size w w' := by
  have H5 := Lib.hid (text_any N b w hb2 hb36 hN)
  have H6 := Lib.hid (fun (s : ByteArray) hs => parseUnsigned_any s N b z w hb2 hb36 hz1 (by omega) hN hs)
  have H7 := Lib.hid (fun w1 (h : Below w.heap.size w w1) => unsigned_any N b w1 hb2 hb36 hN (hP.below hT.1 h) (hT.below h))
  have HMX := Lib.hid (max_at z hz1 (by omega))
  have HM := Lib.hid hM
  clear hP hT
  generalize 2 ^ z - 1 = M at HMX hM H6 HM
  have HMN : Hid (min (N : Int) (M : Int) = (N : Int)) := Lib.hid (by omega)
  clear hM
  go_enter Tryd.func3, Tryd.ntmps3
  go_wp2_with fail
  refine H5.out.mono ?_
  rintro e w' ⟨⟨s, rfl, hs⟩, rfl⟩
  have HS := Lib.hid hs
  clear hs eb ez
  go_wp2_with fail
  rw [HMX.out, HMN.out]
  refine (H6.out s HS.out).mono ?_
  rintro e w1 ⟨hres, hbel⟩
  have he : e = .returned (.tuple #[.int .u64 N, .int .i64 0]) := by
    rcases hres with ⟨_, he⟩ | ⟨h, _⟩
    · exact he
    · exact absurd HM.out (by omega)
  subst he
  have HB := Lib.hid hbel
  clear hres hbel
  go_wp2_with fail
  refine (H7.out w1 HB.out).mono ?_
  rintro e w2 ⟨⟨s2, rfl, hs2⟩, hbel2⟩
  obtain rfl := same_text hb2 hs2 HS.out
  have HB2 := Lib.hid hbel2
  clear hs2 hbel2
  go_wp2_with fail
  refine (sane_any w2).mono ?_
  rintro e w3 ⟨rfl, hbel3⟩
  have HB3 := Lib.hid hbel3
  clear hbel3
  go_wp2_with fail
  go_ret
  exact ⟨rfl, below_on (below_on HB.out HB2.out) HB3.out⟩

set_option maxRecDepth 100000 in
set_option maxHeartbeats 2000000 in
theorem law3_over (N b z : Nat) (b0 z0 : Int) (w : World) (hb2 : 2 ≤ b) (hb36 : b ≤ 36) (hz1 : 1 ≤ z) (hz64 : z < 64) (hN : N < 2 ^ 64) (hM : 2 ^ z - 1 < N) (hP : Pows w) (hT : Tz w)
    (h0 : 0 ≤ b0 ∧ b0 ≤ 255 ∧ 0 ≤ z0 ∧ z0 ≤ 255) (eb : 2 + b0 % 35 = (b : Int)) (ez : 1 + z0 % 64 = (z : Int)) :
    Calls Tryd.prog 3 #[.int .u64 N, .int .u8 b0, .int .u8 z0] w fun e w' => e = .returned (.bool true) ∧ Below w.heap.size w w' := by
  have H5 := Lib.hid (text_any N b w hb2 hb36 hN)
  have H6 := Lib.hid (fun (s : ByteArray) hs => parseUnsigned_any s N b z w hb2 hb36 hz1 (by omega) hN hs)
  have H7 := Lib.hid (fun w1 (h : Below w.heap.size w w1) => unsigned_any N b w1 hb2 hb36 hN (hP.below hT.1 h) (hT.below h))
  have HMX := Lib.hid (max_at z hz1 (by omega))
  have HM := Lib.hid hM
  clear hP hT
  generalize 2 ^ z - 1 = M at HMX hM H6 HM
  have HMN : Hid (min (N : Int) (M : Int) = (M : Int)) := Lib.hid (by omega)
  have hne : ((M : Int) == (N : Int)) = false := beq_eq_false_iff_ne.2 (by omega)
  have hne2 : ((M : Int) != (N : Int)) = true := bne_iff_ne.2 (by omega)
  have hne3 : ¬ (M : Int) = (N : Int) := by omega
  have hne4 : decide ((M : Int) = (N : Int)) = false := decide_eq_false (by omega)
  clear hM
  go_enter Tryd.func3, Tryd.ntmps3
  go_wp2_with fail
  refine H5.out.mono ?_
  rintro e w' ⟨⟨s, rfl, hs⟩, rfl⟩
  have HS := Lib.hid hs
  clear hs eb ez
  go_wp2_with fail
  rw [HMX.out, HMN.out]
  refine (H6.out s HS.out).mono ?_
  rintro e w1 ⟨hres, hbel⟩
  have he : e = .returned (.tuple #[.int .u64 M, .int .i64 2]) := by
    rcases hres with ⟨h, _⟩ | ⟨_, he⟩
    · exact absurd HM.out (by omega)
    · exact he
  subst he
  have HB := Lib.hid hbel
  clear hres hbel
  go_wp2_with fail
  refine (H7.out w1 HB.out).mono ?_
  rintro e w2 ⟨⟨s2, rfl, hs2⟩, hbel2⟩
  obtain rfl := same_text hb2 hs2 HS.out
  have HB2 := Lib.hid hbel2
  clear hs2 hbel2
  go_wp2_with fail
  refine (sane_any w2).mono ?_
  rintro e w3 ⟨rfl, hbel3⟩
  have HB3 := Lib.hid hbel3
  clear hbel3
  go_wp2_with fail
  go_ret
  exact ⟨rfl, below_on (below_on HB.out HB2.out) HB3.out⟩

set_option maxRecDepth 100000 in
set_option maxHeartbeats 2000000 in
theorem law3_full (N b z : Nat) (b0 z0 : Int) (w : World) (hb2 : 2 ≤ b) (hb36 : b ≤ 36) (hz1 : 1 ≤ z) (hz64 : z = 64) (hN : N < 2 ^ 64) (hP : Pows w) (hT : Tz w)
    (h0 : 0 ≤ b0 ∧ b0 ≤ 255 ∧ 0 ≤ z0 ∧ z0 ≤ 255) (eb : 2 + b0 % 35 = (b : Int)) (ez : 1 + z0 % 64 = (z : Int)) :
    Calls Tryd.prog 3 #[.int .u64 N, .int .u8 b0, .int .u8 z0] w fun e w' => e = .returned (.bool true) ∧ Below w.heap.size w w' := by
  have H5 := Lib.hid (text_any N b w hb2 hb36 hN)
  have H6 := Lib.hid (fun (s : ByteArray) hs => parseUnsigned_any s N b z w hb2 hb36 hz1 (by omega) hN hs)
  have H7 := Lib.hid (fun w1 (h : Below w.heap.size w w1) => unsigned_any N b w1 hb2 hb36 hN (hP.below hT.1 h) (hT.below h))
  have HM : Hid (N ≤ 2 ^ z - 1) := Lib.hid (by subst hz64; omega)
  clear hP hT
  generalize 2 ^ z - 1 = M at H6 HM
  have hz : decide ((z : Int) < 64) = false := decide_eq_false (by omega)
  have hz64b : z ≤ 64 := by omega
  clear hz64
  go_enter Tryd.func3, Tryd.ntmps3
  go_wp2_with fail
  refine H5.out.mono ?_
  rintro e w' ⟨⟨s, rfl, hs⟩, rfl⟩
  have HS := Lib.hid hs
  clear hs eb ez
  go_wp2_with fail
  refine (H6.out s HS.out).mono ?_
  rintro e w1 ⟨hres, hbel⟩
  have he : e = .returned (.tuple #[.int .u64 N, .int .i64 0]) := by
    rcases hres with ⟨_, he⟩ | ⟨h, _⟩
    · exact he
    · exact absurd HM.out (by omega)
  subst he
  have HB := Lib.hid hbel
  clear hres hbel
  go_wp2_with fail
  refine (H7.out w1 HB.out).mono ?_
  rintro e w2 ⟨⟨s2, rfl, hs2⟩, hbel2⟩
  obtain rfl := same_text hb2 hs2 HS.out
  have HB2 := Lib.hid hbel2
  clear hs2 hbel2
  go_wp2_with fail
  refine (sane_any w2).mono ?_
  rintro e w3 ⟨rfl, hbel3⟩
  have HB3 := Lib.hid hbel3
  clear hbel3
  go_wp2_with fail
  go_ret
  exact ⟨rfl, below_on (below_on HB.out HB2.out) HB3.out⟩

theorem law3_any (N b0 z0 : Nat) (w : World) (hN : N < 2 ^ 64) (hb : b0 ≤ 255) (hz : z0 ≤ 255) (hP : Pows w) (hT : Tz w) :
    Calls Tryd.prog 3 #[.int .u64 N, .int .u8 b0, .int .u8 z0] w fun e w' => e = .returned (.bool true) ∧ Below w.heap.size w w' := by
  have hz1 : 1 ≤ 1 + z0 % 64 := by omega
  by_cases h64 : 1 + z0 % 64 < 64
  · by_cases hM : N ≤ 2 ^ (1 + z0 % 64) - 1
    · exact law3_fits N (2 + b0 % 35) (1 + z0 % 64) b0 z0 w (by omega) (by omega) hz1 h64 hN hM hP hT (by omega) (by omega) (by omega)
    · exact law3_over N (2 + b0 % 35) (1 + z0 % 64) b0 z0 w (by omega) (by omega) hz1 h64 hN (Nat.lt_of_not_le hM) hP hT (by omega) (by omega) (by omega)
  · exact law3_full N (2 + b0 % 35) (1 + z0 % 64) b0 z0 w (by omega) (by omega) hz1 (by omega) hN hP hT (by omega) (by omega) (by omega)
end Go.Proofs.YtfbbileojddioaaDoor
