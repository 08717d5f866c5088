/- The walk of numDigits: how many digits a number has that is not 0. It reads the table of the powers of ten. -/
import Derived.Test.YtfbbileojddioaaDoorE
import Derived.Test.YtfbbileojddioaaDoorShelf
import Derived.Lib.BitFns
namespace Go.Proofs.YtfbbileojddioaaDoor
open Go.RowKit

theorem bitLenAux_ok : ∀ (f x : Nat), 0 < x → x < 2 ^ f → 1 ≤ Lib.bitLenAux f x ∧ Lib.bitLenAux f x ≤ f ∧ 2 ^ (Lib.bitLenAux f x - 1) ≤ x ∧ x < 2 ^ Lib.bitLenAux f x
  | 0, x, h0, h => by simp at h; omega
  | f + 1, x, h0, h => by
    unfold Lib.bitLenAux
    rw [if_neg (by omega)]
    by_cases hx : x / 2 = 0
    · have e : Lib.bitLenAux f (x / 2) = 0 := by rw [hx]; cases f <;> simp [Lib.bitLenAux]
      rw [e]
      have : x = 1 := by omega
      subst this
      simp
    · have ih := bitLenAux_ok f (x / 2) (by omega) (by rw [Nat.pow_succ] at h; omega)
      obtain ⟨i1, i2, i3, i4⟩ := ih
      generalize Lib.bitLenAux f (x / 2) = L at i1 i2 i3 i4 ⊢
      obtain ⟨M, rfl⟩ : ∃ M, L = M + 1 := ⟨L - 1, by omega⟩
      rw [Nat.add_sub_cancel] at i3
      rw [show 1 + (M + 1) - 1 = M + 1 from by omega, show 1 + (M + 1) = M + 1 + 1 from by omega]
      refine ⟨by omega, by omega, ?_, ?_⟩
      · rw [Nat.pow_succ]; omega
      · rw [Nat.pow_succ]; omega

theorem bitLen_ok (x : Nat) (h0 : 0 < x) (h : x < 2 ^ 64) : 1 ≤ Lib.bitLen x ∧ Lib.bitLen x ≤ 64 ∧ 2 ^ (Lib.bitLen x - 1) ≤ x ∧ x < 2 ^ Lib.bitLen x :=
  bitLenAux_ok 64 x h0 h

/-- The table of the powers of ten lies in its variable. -/
def Pows (w : World) : Prop := ∀ j, j < 20 → w.cell? ⟨0, j, none⟩ = some (.int .u64 ((10 ^ j : Nat) : Int))

set_option maxHeartbeats 1000000 in
theorem log10_any (L : Nat) (h : L ≤ 64) (w : World) : Calls Tryd.prog 26 #[.int .i64 L] w fun e w' => e = .returned (.int .i64 (Pl.guess L)) ∧ w = w' := by
  go_enter Tryd.func26, Tryd.ntmps26
  go_wp2
  go_ret
  refine ⟨ret_int ?_, rfl⟩
  unfold Pl.guess
  omega

set_option maxHeartbeats 1000000 in
theorem bool2_true (w : World) : Calls Tryd.prog 28 #[.bool true] w fun e w' => e = .returned (.int .i64 1) ∧ w = w' := by
  go_enter Tryd.func28, Tryd.ntmps28
  go_wp2
  go_ret
  exact ⟨rfl, rfl⟩

set_option maxHeartbeats 1000000 in
theorem bool2_false (w : World) : Calls Tryd.prog 28 #[.bool false] w fun e w' => e = .returned (.int .i64 0) ∧ w = w' := by
  go_enter Tryd.func28, Tryd.ntmps28
  go_wp2
  go_ret
  exact ⟨rfl, rfl⟩

set_option maxHeartbeats 1000000 in
theorem numDigits_any (d : Nat) (w : World) (h1 : 1 ≤ d) (h2 : d < 2 ^ 64) (ht : Pows w) :
    Calls Tryd.prog 22 #[.int .u64 d] w fun e w' => e = .returned (.int .i64 (Pl.digitsOf (Lib.bitLen d) d)) ∧ w = w' := by
  have hL := bitLen_ok d (by omega) h2
  have H27 := Lib.hid (Tryd.bits_Len64 (d : Int) w (by omega) (by omega))
  rw [Int.toNat_natCast] at H27
  have hg := Pl.guess_ok ⟨Lib.bitLen d, by omega⟩ hL.1
  simp only at hg
  have hL64 : Lib.bitLen d ≤ 64 := hL.2.1
  have HD : Hid (Pl.digitsOf (Lib.bitLen d) d = Pl.guess (Lib.bitLen d) + if 10 ^ Pl.guess (Lib.bitLen d) ≤ d then 1 else 0) := Lib.hid rfl
  generalize Pl.digitsOf (Lib.bitLen d) d = D at HD ⊢
  generalize Lib.bitLen d = L at *
  have H26 := Lib.hid (log10_any L hL64 w)
  generalize hgg : Pl.guess L = g at *
  have hcell := ht g (by omega)
  have hg19 : (g : Int) ≤ 19 := by omega
  clear hL hg hL64 hgg ht
  by_cases hc : 10 ^ g ≤ d
  · have hcc : decide (((10 ^ g : Nat) : Int) ≤ (d : Int)) = true := decide_eq_true (Int.ofNat_le.2 hc)
    rw [if_pos hc] at HD
    clear hc
    generalize ((10 ^ g : Nat) : Int) = P at hcell hcc
    go_enter Tryd.func22, Tryd.ntmps22
    go_wp2_with fail
    refine H27.out.mono ?_
    rintro e w' ⟨rfl, rfl⟩
    go_wp2_with fail
    refine H26.out.mono ?_
    rintro e w' ⟨rfl, rfl⟩
    go_wp2_with fail
    refine (bool2_true _).mono ?_
    rintro e w' ⟨rfl, rfl⟩
    go_wp2_with fail
    go_ret
    exact ⟨ret_int (by rw [HD.out]; simp), rfl⟩
  · have hcc : decide (((10 ^ g : Nat) : Int) ≤ (d : Int)) = false := decide_eq_false (fun h => hc (Int.ofNat_le.1 h))
    rw [if_neg hc] at HD
    clear hc
    generalize ((10 ^ g : Nat) : Int) = P at hcell hcc
    go_enter Tryd.func22, Tryd.ntmps22
    go_wp2_with fail
    refine H27.out.mono ?_
    rintro e w' ⟨rfl, rfl⟩
    go_wp2_with fail
    refine H26.out.mono ?_
    rintro e w' ⟨rfl, rfl⟩
    go_wp2_with fail
    refine (bool2_false _).mono ?_
    rintro e w' ⟨rfl, rfl⟩
    go_wp2_with fail
    go_ret
    exact ⟨ret_int (by rw [HD.out]; simp), rfl⟩
end Go.Proofs.YtfbbileojddioaaDoor
