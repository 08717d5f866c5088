/- The law FnWholeWhole, put together. -/
import Derived.Test.YtfbbileojddioaaDoorN
namespace Go.Proofs.YtfbbileojddioaaDoor
open Go.RowKit

theorem fit_any (neg : Bool) (N z T : Nat) (w : World) (hz1 : 1 ≤ z) (hz64 : z ≤ 64) (hN : N < 2 ^ 64) (hTd : T = 2 ^ (z - 1)) :
    Calls Tryd.prog 9 #[.bool neg, .int .u64 N, .int .i64 z] w fun e w' => e = .returned (.tuple #[.int .i64 (Pl.fitV neg N T), .bool (Pl.fitO neg N T)]) ∧ w = w' := by
  cases neg
  · exact fit_pos N z T w hz1 hz64 hN hTd
  · exact fit_neg N z T w hz1 hz64 hN hTd

/-- The text of a whole number. -/
def Txt (neg : Bool) (b N : Nat) (L : List UInt8) : Prop :=
  match neg with
  | false => Pl.IsDg b N L
  | true => ∃ l, Pl.IsDg b N l ∧ L = 45 :: l

theorem Txt.same {neg : Bool} {b N : Nat} (hb : 2 ≤ b) (s s' : ByteArray) (h : Txt neg b N s.data.toList) (h' : Txt neg b N s'.data.toList) : s = s' := by
  cases neg
  · exact same_text hb h h'
  · obtain ⟨l, h1, h2⟩ := h
    obtain ⟨l', h1', h2'⟩ := h'
    have := h1.unique hb h1'
    subst this
    rw [← h2'] at h2
    cases s; cases s'
    simp only at h2
    congr 1
    exact Array.toList_inj.1 h2

theorem text_neg (N b : Nat) (w : World) (hb2 : 2 ≤ b) (hb36 : b ≤ 36) (hN : N < 2 ^ 64) :
    Calls Tryd.prog 5 #[.bool true, .int .u64 N, .int .i64 b] w fun e w' => (∃ s : ByteArray, e = .returned (.string s) ∧ Txt true b N s.data.toList) ∧ w = w' := by
  refine (whole_any true N b ⟨#[45]⟩ w hb2 hb36 hN (by decide) (sign_neg w)).mono ?_
  rintro e w' ⟨⟨s, he, l, hl, hs⟩, hw⟩
  exact ⟨⟨s, he, l, hl, by rw [hs]; rfl⟩, hw⟩

theorem text_of (neg : Bool) (N b : Nat) (w : World) (hb2 : 2 ≤ b) (hb36 : b ≤ 36) (hN : N < 2 ^ 64) :
    Calls Tryd.prog 5 #[.bool neg, .int .u64 N, .int .i64 b] w fun e w' => (∃ s : ByteArray, e = .returned (.string s) ∧ Txt neg b N s.data.toList) ∧ w = w' := by
  cases neg
  · exact text_any N b w hb2 hb36 hN
  · exact text_neg N b w hb2 hb36 hN

theorem cut_sign (s : ByteArray) (l : List UInt8) (h : s.data.toList = 45 :: l) : ∃ h0 : 0 < s.size, (s[0].toNat : Int) = 45 ∧ (s.extract 1 s.size).data.toList = l := by
  have h2 : s.data.toList.length = s.size := by simp
  have hl : s.size = l.length + 1 := by rw [← h2, h]; rfl
  refine ⟨by omega, ?_, ?_⟩
  · have := get_first s (by omega)
    rw [h] at this
    rw [← this]; rfl
  · rw [ByteArray.data_extract, Array.toList_extract, h, hl]
    simp

theorem parse_of (neg : Bool) (N b z T : Nat) (w : World) (hb2 : 2 ≤ b) (hb36 : b ≤ 36) (hz1 : 2 ≤ z) (hz64 : z ≤ 64) (hN : N < 2 ^ 64) (hTd : T = 2 ^ (z - 1)) (s : ByteArray) (hs : Txt neg b N s.data.toList) :
    Calls Tryd.prog 10 #[.string s, .int .i64 b, .int .i64 z] w fun e w' => WholeSays neg N T e ∧ Below w.heap.size w w' := by
  cases neg
  · exact parseWhole_of s false N T b z w (parseInt_pos s N b z w hb2 hb36 hz1 hz64 hN hs T hTd)
  · obtain ⟨l, hl, h⟩ := hs
    obtain ⟨h0, h45, hx⟩ := cut_sign s l h
    exact parseWhole_of s true N T b z w (parseInt_neg s (s.extract 1 s.size) N b z w hb2 hb36 hz1 hz64 hN h0 rfl h45 (by rw [hx]; exact hl) T hTd)

theorem back_of (neg : Bool) (N b : Nat) (w : World) (hb2 : 2 ≤ b) (hb36 : b ≤ 36) (hneg : neg = true → 1 ≤ N) (hf : Pl.fitO neg N (2 ^ 63) = false) (hP : Pows w) (hT : Tz w) :
    Calls Tryd.prog 11 #[.int .i64 (Pl.fitV neg N (2 ^ 63)), .int .i64 b] w fun e w' => (∃ s : ByteArray, e = .returned (.string s) ∧ Txt neg b N s.data.toList) ∧ Below w.heap.size w w' := by
  cases neg
  · have h : ¬ 2 ^ 63 ≤ N := of_decide_eq_false hf
    have e : Pl.fitV false N (2 ^ 63) = (N : Int) := by unfold Pl.fitV; simp only; rw [if_neg h]
    rw [e]
    exact whole_text _ b _ w (int_pos N b w hb2 hb36 (by omega) hP hT)
  · have h : ¬ 2 ^ 63 < N := of_decide_eq_false hf
    have e : Pl.fitV true N (2 ^ 63) = -(N : Int) := by unfold Pl.fitV; simp only; rw [if_neg h]
    rw [e]
    exact whole_text _ b (Txt true b N) w (int_neg N b w hb2 hb36 (hneg rfl) (by omega) hP hT)

theorem says_kind {neg : Bool} {N T : Nat} {b z : Int} {s : ByteArray} {w : World} (o : Bool) (ho : Pl.fitO neg N T = o)
    (h : Calls Tryd.prog 10 #[.string s, .int .i64 b, .int .i64 z] w fun e w' => WholeSays neg N T e ∧ Below w.heap.size w w') :
    Calls Tryd.prog 10 #[.string s, .int .i64 b, .int .i64 z] w fun e w' => e = .returned (.tuple #[.int .i64 (Pl.fitV neg N T), .int .i64 (if o = true then 2 else 0)]) ∧ Below w.heap.size w w' := by
  subst ho; exact h

theorem fit_kind {neg : Bool} {N T z : Nat} {w : World} (o : Bool) (ho : Pl.fitO neg N T = o)
    (h : Calls Tryd.prog 9 #[.bool neg, .int .u64 N, .int .i64 z] w fun e w' => e = .returned (.tuple #[.int .i64 (Pl.fitV neg N T), .bool (Pl.fitO neg N T)]) ∧ w = w') :
    Calls Tryd.prog 9 #[.bool neg, .int .u64 N, .int .i64 z] w fun e w' => e = .returned (.tuple #[.int .i64 (Pl.fitV neg N T), .bool o]) ∧ w = w' := by
  subst ho; exact h

theorem law4_nz (neg : Bool) (N b0 z0 : Nat) (w : World) (hN : N < 2 ^ 64) (h0 : N ≠ 0) (hb : b0 ≤ 255) (hz : z0 ≤ 255) (hP : Pows w) (hT : Tz w) :
    Calls Tryd.prog 4 #[.bool neg, .int .u64 N, .int .u8 b0, .int .u8 z0] w fun e w' => e = .returned (.bool true) ∧ Below w.heap.size w w' := by
  have hb2 : 2 ≤ 2 + b0 % 35 := by omega
  have hb36 : 2 + b0 % 35 ≤ 36 := by omega
  have hz2 : 2 ≤ 2 + z0 % 63 := by omega
  have hz64 : 2 + z0 % 63 ≤ 64 := by omega
  have eb : 2 + (b0 : Int) % 35 = ((2 + b0 % 35 : Nat) : Int) := by omega
  have ez : 2 + (z0 : Int) % 63 = ((2 + z0 % 63 : Nat) : Int) := by omega
  have hn : ((N : Int) == 0) = false := beq_eq_false_iff_ne.2 (by omega)
  have H5 := text_of neg N (2 + b0 % 35) w hb2 hb36 hN
  have H9 := fit_any neg N (2 + z0 % 63) _ w (by omega) hz64 hN rfl
  have H10 := parse_of neg N (2 + b0 % 35) (2 + z0 % 63) _ w hb2 hb36 hz2 hz64 hN rfl
  have H9b := fun w1 => fit_any neg N 64 (2 ^ 63) w1 (by omega) (by omega) hN rfl
  have H11 := fun hf w1 (h : Below w.heap.size w w1) => back_of neg N (2 + b0 % 35) w1 hb2 hb36 (fun _ => by omega) hf (hP.below hT.1 h) (hT.below h)
  have hQ := fun s s' => Txt.same (neg := neg) (b := 2 + b0 % 35) (N := N) hb2 s s'
  have hbz : 0 ≤ (b0 : Int) ∧ (b0 : Int) ≤ 255 ∧ 0 ≤ (z0 : Int) ∧ (z0 : Int) ≤ 255 := by omega
  generalize 2 ^ (2 + z0 % 63 - 1) = T at *
  cases ho : Pl.fitO neg N T <;> cases hf : Pl.fitO neg N (2 ^ 63)
  · exact law4_nff neg N _ _ b0 z0 _ _ _ w hb36 hz64 hbz eb ez hn hQ H5 (fit_kind _ ho H9) (fun s hs => says_kind _ ho (H10 s hs)) (fun w1 => fit_kind _ hf (H9b w1)) (H11 hf)
  · exact law4_nft neg N _ _ b0 z0 _ _ _ w hb36 hz64 hbz eb ez hn H5 (fit_kind _ ho H9) (fun s hs => says_kind _ ho (H10 s hs)) (fun w1 => fit_kind _ hf (H9b w1))
  · exact law4_ntf neg N _ _ b0 z0 _ _ _ w hb36 hz64 hbz eb ez hn hQ H5 (fit_kind _ ho H9) (fun s hs => says_kind _ ho (H10 s hs)) (fun w1 => fit_kind _ hf (H9b w1)) (H11 hf)
  · exact law4_ntt neg N _ _ b0 z0 _ _ _ w hb36 hz64 hbz eb ez hn H5 (fit_kind _ ho H9) (fun s hs => says_kind _ ho (H10 s hs)) (fun w1 => fit_kind _ hf (H9b w1))

theorem law4_zero (neg : Bool) (b0 z0 : Nat) (w : World) (hb : b0 ≤ 255) (hz : z0 ≤ 255) (hP : Pows w) (hT : Tz w) :
    Calls Tryd.prog 4 #[.bool neg, .int .u64 ((0 : Nat) : Int), .int .u8 b0, .int .u8 z0] w fun e w' => e = .returned (.bool true) ∧ Below w.heap.size w w' := by
  have hb2 : 2 ≤ 2 + b0 % 35 := by omega
  have hb36 : 2 + b0 % 35 ≤ 36 := by omega
  have hz2 : 2 ≤ 2 + z0 % 63 := by omega
  have hz64 : 2 + z0 % 63 ≤ 64 := by omega
  have hN : 0 < 2 ^ 64 := by omega
  have eb : 2 + (b0 : Int) % 35 = ((2 + b0 % 35 : Nat) : Int) := by omega
  have ez : 2 + (z0 : Int) % 63 = ((2 + z0 % 63 : Nat) : Int) := by omega
  have hn : (((0 : Nat) : Int) == 0) = true := rfl
  have H5 := text_of false 0 (2 + b0 % 35) w hb2 hb36 hN
  have H9 := fit_any false 0 (2 + z0 % 63) _ w (by omega) hz64 hN rfl
  have H10 := parse_of false 0 (2 + b0 % 35) (2 + z0 % 63) _ w hb2 hb36 hz2 hz64 hN rfl
  have H9b := fun w1 => fit_any false 0 64 (2 ^ 63) w1 (by omega) (by omega) hN rfl
  have hf : Pl.fitO false 0 (2 ^ 63) = false := by decide
  have H11 := fun w1 (h : Below w.heap.size w w1) => back_of false 0 (2 + b0 % 35) w1 hb2 hb36 (fun h => by cases h) hf (hP.below hT.1 h) (hT.below h)
  have hQ := fun s s' => Txt.same (neg := false) (b := 2 + b0 % 35) (N := 0) hb2 s s'
  have hbz : 0 ≤ (b0 : Int) ∧ (b0 : Int) ≤ 255 ∧ 0 ≤ (z0 : Int) ∧ (z0 : Int) ≤ 255 := by omega
  have ht : 0 < 2 ^ (2 + z0 % 63 - 1) := Nat.two_pow_pos _
  generalize 2 ^ (2 + z0 % 63 - 1) = T at *
  have ho : Pl.fitO false 0 T = false := decide_eq_false (by omega)
  exact law4_zff neg 0 _ _ b0 z0 _ _ _ w hb36 hz64 hbz eb ez hn hQ H5 (fit_kind _ ho H9) (fun s hs => says_kind _ ho (H10 s hs)) (fun w1 => fit_kind _ hf (H9b w1)) H11

theorem law4_any (neg : Bool) (N b0 z0 : Nat) (w : World) (hN : N < 2 ^ 64) (hb : b0 ≤ 255) (hz : z0 ≤ 255) (hP : Pows w) (hT : Tz w) :
    Calls Tryd.prog 4 #[.bool neg, .int .u64 N, .int .u8 b0, .int .u8 z0] w fun e w' => e = .returned (.bool true) ∧ Below w.heap.size w w' := by
  by_cases h0 : N = 0
  · subst h0; exact law4_zero neg b0 z0 w hb hz hP hT
  · exact law4_nz neg N b0 z0 w hN h0 hb hz hP hT
end Go.Proofs.YtfbbileojddioaaDoor
