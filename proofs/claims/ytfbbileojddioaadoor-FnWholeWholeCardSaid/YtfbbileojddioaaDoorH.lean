/- formatBits: the bases 2, 4, 8, 16, 32. -/
import Derived.Test.YtfbbileojddioaaDoorG
namespace Go.Proofs.YtfbbileojddioaaDoor
open Go.RowKit

/-- The five places of the table in math/bits that are read. -/
def Tz (w : World) : Prop := 3 ≤ w.heap.size ∧ ∀ k : Nat, 1 ≤ k → k ≤ 5 → w.cell? ⟨2, 2 ^ k - 1, none⟩ = some (.int .u8 (k : Int))

theorem Tz.below {w w' : World} (h : Tz w) (hb : Below w.heap.size w w') : Tz w' :=
  ⟨Nat.le_trans h.1 hb.size, fun k h1 h5 => (hb.cell (p := ⟨2, 2 ^ k - 1, none⟩) (by show 2 < w.heap.size; have := h.1; omega)).trans (h.2 k h1 h5)⟩

set_option maxHeartbeats 2000000 in
theorem tz34 (k : Nat) (h1 : 1 ≤ k) (h5 : k ≤ 5) (w : World) (hT : Tz w) : Calls Tryd.prog 34 #[.int .u64 ((2 ^ k : Nat) : Int)] w fun e w' => e = .returned (.int .i64 k) ∧ w = w' := by
  have hcell := hT.2 k h1 h5
  have hx : IntKind.u64.wrap (bits .and .u64 ((2 ^ k : Nat) : Int) (IntKind.u64.wrap (-((2 ^ k : Nat) : Int))) * 285870213051353865) / 288230376151711744 = ((2 ^ k - 1 : Nat) : Int) := by
    have : ∀ y : Fin 6, 1 ≤ y.val → IntKind.u64.wrap (bits .and .u64 ((2 ^ y.val : Nat) : Int) (IntKind.u64.wrap (-((2 ^ y.val : Nat) : Int))) * 285870213051353865) / 288230376151711744 = ((2 ^ y.val - 1 : Nat) : Int) := by decide +kernel
    exact this ⟨k, by omega⟩ h1
  have hb : (2 : Nat) ^ k ≤ 32 ∧ 2 ≤ 2 ^ k := by
    have : ∀ y : Fin 6, 1 ≤ y.val → 2 ^ y.val ≤ 32 ∧ 2 ≤ 2 ^ y.val := by decide +kernel
    exact this ⟨k, by omega⟩ h1
  clear hT
  generalize hbb : 2 ^ k = b at *
  obtain ⟨i, hi⟩ : ∃ i, i = b - 1 := ⟨_, rfl⟩
  rw [← hi] at hx hcell
  have hi2 : i ≤ 31 := by omega
  have hb0 : ((b : Int) == 0) = false := beq_eq_false_iff_ne.2 (by omega)
  clear hbb hi
  go_enter Tryd.func34, Tryd.ntmps34
  go_wp2
  go_ret
  exact ⟨rfl, rfl⟩

set_option maxHeartbeats 2000000 in
theorem tz30 (k : Nat) (h1 : 1 ≤ k) (h5 : k ≤ 5) (w : World) (hT : Tz w) : Calls Tryd.prog 30 #[.int .u64 ((2 ^ k : Nat) : Int)] w fun e w' => e = .returned (.int .i64 k) ∧ w = w' := by
  have H := Lib.hid (tz34 k h1 h5 w hT)
  clear hT h1 h5
  generalize ((2 ^ k : Nat) : Int) = b at H
  go_enter Tryd.func30, Tryd.ntmps30
  go_wp2_with fail
  refine H.out.mono ?_
  rintro e w' ⟨rfl, rfl⟩
  go_wp2_with fail
  go_ret
  exact ⟨rfl, rfl⟩

set_option maxRecDepth 100000 in
set_option maxHeartbeats 2000000 in
theorem isPow_true (k : Nat) (h1 : 1 ≤ k) (h5 : k ≤ 5) (w : World) : Calls Tryd.prog 29 #[.int .i64 ((2 ^ k : Nat) : Int)] w fun e w' => e = .returned (.bool true) ∧ w = w' := by
  have hx : (bits .and .i64 ((2 ^ k : Nat) : Int) (((2 ^ k : Nat) : Int) - 1) == 0) = true := by
    have : ∀ y : Fin 6, 1 ≤ y.val → (bits .and .i64 ((2 ^ y.val : Nat) : Int) (((2 ^ y.val : Nat) : Int) - 1) == 0) = true := by decide +kernel
    exact this ⟨k, by omega⟩ h1
  have hb : (2 : Nat) ^ k ≤ 32 ∧ 2 ≤ 2 ^ k := by
    have : ∀ y : Fin 6, 1 ≤ y.val → 2 ^ y.val ≤ 32 ∧ 2 ≤ 2 ^ y.val := by decide +kernel
    exact this ⟨k, by omega⟩ h1
  generalize 2 ^ k = b at *
  clear h1 h5
  go_enter Tryd.func29, Tryd.ntmps29
  go_wp2
  go_ret
  exact ⟨rfl, rfl⟩

theorem splitPow (x k b : Nat) (hb : b = 2 ^ k) (h1 : 1 ≤ k) (h5 : k ≤ 5) (hx : b ≤ x) (hX : x < 2 ^ 64) : ∃ y r : Nat, Hid (y = x / b) ∧ Hid (r = x % b) ∧ Hid (y < x) ∧ y ≤ x ∧ r < 36 ∧
    (x : Int) / 2 ^ k = (y : Int) ∧ bits .and .u64 (x : Int) ((b : Int) - 1) = (r : Int) := by
  have hb2 : (2 : Nat) ^ k ≤ 32 ∧ 2 ≤ 2 ^ k := by
    have : ∀ y : Fin 6, 1 ≤ y.val → 2 ^ y.val ≤ 32 ∧ 2 ≤ 2 ^ y.val := by decide +kernel
    exact this ⟨k, by omega⟩ h1
  have hm := Nat.mod_lt x (show 0 < b by omega)
  have hl := Nat.div_lt_self (show 0 < x by omega) (show 1 < b by omega)
  refine ⟨x / b, x % b, Lib.hid rfl, Lib.hid rfl, Lib.hid hl, Nat.le_of_lt hl, by omega, ?_, ?_⟩
  · rw [hb]; simp
  · have e : (b : Int) - 1 = ((b - 1 : Nat) : Int) := by omega
    rw [e, bits_and_u64_nat x (b - 1) (by omega) (by omega)]
    have := Nat.and_two_pow_sub_one_eq_mod x k
    rw [← hb] at this
    rw [this]

set_option maxRecDepth 100000 in
set_option maxHeartbeats 2000000 in
theorem formatBits_pow (U b k : Nat) (w : World) (hbk : b = 2 ^ k) (h1 : 1 ≤ k) (h5 : k ≤ 5) (hT : Tz w) (hU : U < 2 ^ 64) :
    Calls Tryd.prog 24 #[.slice none 0 0, .int .u64 U, .int .i64 b, .bool false, .bool false] w fun e w' => (∃ s : ByteArray, e = .returned (.tuple #[.slice none 0 0, .string s]) ∧ ∃ l, Pl.IsDg b U l ∧ s.data.toList = l) ∧ Below w.heap.size w w' := by
  have hb : b ≤ 32 ∧ 2 ≤ b := by
    have : ∀ y : Fin 6, 1 ≤ y.val → 2 ^ y.val ≤ 32 ∧ 2 ≤ 2 ^ y.val := by decide +kernel
    rw [hbk]
    exact this ⟨k, by omega⟩ h1
  have hn10 : b ≠ 10 := by
    have : ∀ y : Fin 6, 2 ^ y.val ≠ 10 := by decide +kernel
    rw [hbk]
    exact this ⟨k, by omega⟩
  have hbA : decide ((b : Int) < 2) = false := decide_eq_false (by omega)
  have hbB : decide (36 < (b : Int)) = false := decide_eq_false (by omega)
  have hb10 : ((b : Int) == 10) = false := beq_eq_false_iff_ne.2 (by omega)
  have H29 := Lib.hid (fun w => isPow_true k h1 h5 w)
  have H30 := Lib.hid (tz30 k h1 h5 (w.alloc (.cells (zeros 65) 63)) (hT.below ((Below.refl _ _).alloc (Nat.le_refl _) _))) 
  rw [← hbk] at H29 H30
  have HB := Lib.hid hbk
  have hz := zero65
  clear hn10 hbk hT
  go_enter Tryd.func24, Tryd.ntmps24
  go_wp2_with fail
  refine (H29.out _).mono ?_
  rintro e w' ⟨rfl, rfl⟩
  clear hz
  go_wp2_with fail
  refine H30.out.mono ?_
  rintro e w' ⟨rfl, rfl⟩
  go_wp2_with fail
  go_loopw [1, 13] (fun u i wr => ∃ x k : Nat, u = .int .u64 x ∧ i = .int .i64 k ∧ FB b U w wr x k) (fun u _ _ => (intOf u).toNat)
  case atStart => exact ⟨U, 65, rfl, rfl, FB.start b U w⟩
  case round =>
    obtain ⟨x, kk, rfl, rfl, hfb⟩ := hrel
    have hr := hfb.room (by omega) hU
    obtain ⟨k2, k65, hxU, ⟨v, hcell⟩, hfr⟩ := hr
    obtain ⟨j, rfl⟩ : ∃ j, kk = j + 1 := ⟨kk - 1, by omega⟩
    rw [Nat.add_sub_cancel] at hcell hfr
    have HF := Lib.hid hfb
    clear hfb
    have hlit := lit_at
    by_cases hx : b ≤ x
    · have hxx : (b : Int) ≤ (x : Int) := by omega
      obtain ⟨y, r, hy, hr, hyx, hpx, hr36, e1, e2⟩ := splitPow x k b HB.out h1 h5 hx (by omega)
      go_wp2
      all_goals go_ways
      all_goals refine ⟨⟨y, j, rfl, rfl, ?_⟩, ?_⟩
      · rw [hy.out, hr.out]
        exact HF.out.step (by omega) hU hx _ rfl
      · have := hyx.out
        simp only [intOf, Int.toNat_natCast]
        exact this
    · have hxx : ¬ (b : Int) ≤ (x : Int) := by omega
      have hsl := slice63 w.heap.size j (by omega)
      obtain ⟨m, HM, hcv⟩ := conv_last HF.out (by omega) hU (by omega)
      go_wp2
      all_goals go_ways
      all_goals go_ret2
      all_goals exact ⟨⟨_, rfl, by simpa using HM.out⟩, HF.out.bel.setCell (Nat.le_refl _) _⟩

set_option maxRecDepth 100000 in
set_option maxHeartbeats 2000000 in
theorem formatBits_pow_neg (U b k : Nat) (u0 : Int) (hu0 : IntKind.u64.wrap (-u0) = (U : Int)) (w : World) (hbk : b = 2 ^ k) (h1 : 1 ≤ k) (h5 : k ≤ 5) (hT : Tz w) (hU : U < 2 ^ 64) :
    Calls Tryd.prog 24 #[.slice none 0 0, .int .u64 u0, .int .i64 b, .bool true, .bool false] w fun e w' => (∃ s : ByteArray, e = .returned (.tuple #[.slice none 0 0, .string s]) ∧ ∃ l, Pl.IsDg b U l ∧ s.data.toList = 45 :: l) ∧ Below w.heap.size w w' := by
  have hb : b ≤ 32 ∧ 2 ≤ b := by
    have : ∀ y : Fin 6, 1 ≤ y.val → 2 ^ y.val ≤ 32 ∧ 2 ≤ 2 ^ y.val := by decide +kernel
    rw [hbk]
    exact this ⟨k, by omega⟩ h1
  have hn10 : b ≠ 10 := by
    have : ∀ y : Fin 6, 2 ^ y.val ≠ 10 := by decide +kernel
    rw [hbk]
    exact this ⟨k, by omega⟩
  have hbA : decide ((b : Int) < 2) = false := decide_eq_false (by omega)
  have hbB : decide (36 < (b : Int)) = false := decide_eq_false (by omega)
  have hb10 : ((b : Int) == 10) = false := beq_eq_false_iff_ne.2 (by omega)
  have H29 := Lib.hid (fun w => isPow_true k h1 h5 w)
  have H30 := Lib.hid (tz30 k h1 h5 (w.alloc (.cells (zeros 65) 63)) (hT.below ((Below.refl _ _).alloc (Nat.le_refl _) _))) 
  rw [← hbk] at H29 H30
  have HB := Lib.hid hbk
  have hz := zero65
  clear hn10 hbk hT
  go_enter Tryd.func24, Tryd.ntmps24
  go_wp2_with fail
  refine (H29.out _).mono ?_
  rintro e w' ⟨rfl, rfl⟩
  clear hz
  go_wp2_with fail
  refine H30.out.mono ?_
  rintro e w' ⟨rfl, rfl⟩
  go_wp2_with fail
  go_loopw [1, 13] (fun u i wr => ∃ x k : Nat, u = .int .u64 x ∧ i = .int .i64 k ∧ FB b U w wr x k) (fun u _ _ => (intOf u).toNat)
  case atStart => exact ⟨U, 65, rfl, rfl, FB.start b U w⟩
  case round =>
    obtain ⟨x, kk, rfl, rfl, hfb⟩ := hrel
    have hr := hfb.room (by omega) hU
    obtain ⟨k2, k65, hxU, ⟨v, hcell⟩, hfr⟩ := hr
    obtain ⟨j, rfl⟩ : ∃ j, kk = j + 1 := ⟨kk - 1, by omega⟩
    rw [Nat.add_sub_cancel] at hcell hfr
    obtain ⟨i, rfl⟩ : ∃ i, j = i + 1 := ⟨j - 1, by omega⟩
    have hr2 : (∃ v, wr.cell? ⟨w.heap.size, i, none⟩ = some v) ∧ wr.frozen? ⟨w.heap.size, i, none⟩ = false := by
      obtain ⟨l, m, h1, h2, h3, ho, _⟩ := hfb
      exact ⟨⟨_, (ho i (by omega)).1⟩, (ho i (by omega)).2⟩
    obtain ⟨⟨v2, hcell2⟩, hfr2⟩ := hr2
    have HF := Lib.hid hfb
    clear hfb
    have hlit := lit_at
    by_cases hx : b ≤ x
    · have hxx : (b : Int) ≤ (x : Int) := by omega
      obtain ⟨y, r, hy, hr, hyx, hpx, hr36, e1, e2⟩ := splitPow x k b HB.out h1 h5 hx (by omega)
      go_wp2
      all_goals go_ways
      all_goals refine ⟨⟨y, (i + 1), rfl, rfl, ?_⟩, ?_⟩
      · rw [hy.out, hr.out]
        exact HF.out.step (by omega) hU hx _ rfl
      · have := hyx.out
        simp only [intOf, Int.toNat_natCast]
        exact this
    · have hxx : ¬ (b : Int) ≤ (x : Int) := by omega
      have hsl := slice63 w.heap.size i (by omega)
      obtain ⟨m, HM, hcv⟩ := conv_last_neg HF.out (by omega) hU (by omega)
      go_wp2
      all_goals go_ways
      all_goals go_ret2
      all_goals exact ⟨⟨_, rfl, m, HM.out, by simp⟩, (HF.out.bel.setCell (Nat.le_refl _) _).setCell (Nat.le_refl _) _⟩
end Go.Proofs.YtfbbileojddioaaDoor
