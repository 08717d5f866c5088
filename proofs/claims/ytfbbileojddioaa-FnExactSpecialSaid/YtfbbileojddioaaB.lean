/- The walks of the readers of floats at the special words: special, atof32, atof64, ParseFloat, kind, Parse. -/
import Derived.Test.YtfbbileojddioaaA
namespace Go.Proofs.Ytfbbileojddioaa
open Go.RowKit
theorem call45 (n : Int) (w : World) : (callFunc 45 #[.int .u64 n]).run Try.prog w = .ok (.value (.float .f64 n.toNat)) w := by kernel_rfl

set_option maxHeartbeats 400000 in
theorem inf_pos (w : World) :
    Calls Try.prog 43 #[.int .i64 1] w fun e w' => e = .returned (.float .f64 0x7FF0000000000000) ∧ w = w' := by
  have h45 := call45
  go_enter Try.func43, Try.ntmps43
  go_wp2
  go_ret
  exact ⟨rfl, rfl⟩
set_option maxHeartbeats 400000 in
theorem nan_any (w : World) :
    Calls Try.prog 44 #[] w fun e w' => e = .returned (.float .f64 0x7FF8000000000001) ∧ w = w' := by
  have h45 := call45
  go_enter Try.func44, Try.ntmps44
  go_wp2
  go_ret
  exact ⟨rfl, rfl⟩

def infWord : ByteArray := ⟨#[105, 110, 102, 105, 110, 105, 116, 121]⟩
def nanWord : ByteArray := ⟨#[110, 97, 110]⟩

set_option maxHeartbeats 400000 in
theorem special_plain (s : ByteArray) (w : World) (L : Nat) (c : Int) (hL : L = 3 ∨ L = 8) (hc : c = 105 ∨ c = 73) (h0 : 0 < s.size) (hs0 : (s[0].toNat : Int) = c)
    (hcp : Pl.cpl s.data.toList infWord.data.toList = L) (hs : s.size ≤ 9) :
    Calls Try.prog 25 #[.string s] w fun e w' => e = .returned (.tuple #[.float .f64 0x7FF0000000000000, .int .i64 L, .bool true]) ∧ w = w' := by
  have h45 := call45
  have H42 := Lib.hid (cpl_any s infWord w (by unfold maxLen; omega) (by decide))
  rw [hcp] at H42
  clear hcp
  rcases hL with rfl | rfl <;> rcases hc with rfl | rfl
  all_goals
    go_enter Try.func25, Try.ntmps25
    go_wp2_with fail
    refine H42.out.mono ?_
    rintro e w' ⟨rfl, rfl⟩
    go_wp2
    go_ret3
    exact ⟨rfl, rfl⟩

set_option maxHeartbeats 800000 in
theorem special_plus (s : ByteArray) (w : World) (L : Nat) (hL : L = 3 ∨ L = 8) (h0 : 0 < s.size) (hs0 : (s[0].toNat : Int) = 43)
    (hcp : Pl.cpl (s.extract 1 s.size).data.toList infWord.data.toList = L) (hs : s.size ≤ 9) :
    Calls Try.prog 25 #[.string s] w fun e w' => e = .returned (.tuple #[.float .f64 0x7FF0000000000000, .int .i64 (L + 1), .bool true]) ∧ w = w' := by
  have h45 := call45
  have H42 := Lib.hid (cpl_any (s.extract 1 s.size) infWord w (by unfold maxLen; simp; omega) (by decide))
  rw [hcp] at H42
  clear hcp
  rcases hL with rfl | rfl
  all_goals
    go_enter Try.func25, Try.ntmps25
    go_wp2_with fail
    refine H42.out.mono ?_
    rintro e w' ⟨rfl, rfl⟩
    go_wp2
    go_ret3
    exact ⟨rfl, rfl⟩

set_option maxHeartbeats 800000 in
theorem special_minus (s : ByteArray) (w : World) (L : Nat) (hL : L = 3 ∨ L = 8) (h0 : 0 < s.size) (hs0 : (s[0].toNat : Int) = 45)
    (hcp : Pl.cpl (s.extract 1 s.size).data.toList infWord.data.toList = L) (hs : s.size ≤ 9) :
    Calls Try.prog 25 #[.string s] w fun e w' => e = .returned (.tuple #[.float .f64 0xFFF0000000000000, .int .i64 (L + 1), .bool true]) ∧ w = w' := by
  have h45 := call45
  have H42 := Lib.hid (cpl_any (s.extract 1 s.size) infWord w (by unfold maxLen; simp; omega) (by decide))
  rw [hcp] at H42
  clear hcp
  rcases hL with rfl | rfl
  all_goals
    go_enter Try.func25, Try.ntmps25
    go_wp2_with fail
    refine H42.out.mono ?_
    rintro e w' ⟨rfl, rfl⟩
    go_wp2
    go_ret3
    exact ⟨rfl, rfl⟩

set_option maxHeartbeats 800000 in
theorem special_nan (s : ByteArray) (w : World) (c : Int) (hc : c = 110 ∨ c = 78) (h0 : 0 < s.size) (hs0 : (s[0].toNat : Int) = c)
    (hcp : Pl.cpl s.data.toList nanWord.data.toList = 3) (hs : s.size ≤ 9) :
    Calls Try.prog 25 #[.string s] w fun e w' => e = .returned (.tuple #[.float .f64 0x7FF8000000000001, .int .i64 3, .bool true]) ∧ w = w' := by
  have h45 := call45
  have H42 := Lib.hid (cpl_any s nanWord w (by unfold maxLen; omega) (by decide))
  rw [hcp] at H42
  clear hcp
  rcases hc with rfl | rfl
  all_goals
    go_enter Try.func25, Try.ntmps25
    go_wp2_with fail
    refine H42.out.mono ?_
    rintro e w' ⟨rfl, rfl⟩
    go_wp2
    go_ret3
    exact ⟨rfl, rfl⟩

theorem decode64_nan {b : Nat} (h : 0x7ff0000000000000 < b % 2 ^ 63) : ∃ s q, FloatKind.f64.decode b = .nan s q := by
  have e1 : Ieee.double.binade = 0x10000000000000 := by decide +kernel
  have e2 : Ieee.double.infRung = 0x7ff0000000000000 := by decide +kernel
  have e3 : Ieee.double.signWeight = 2 ^ 63 := by decide +kernel
  simp only [FloatKind.decode, FloatKind.format, Ieee.Format.read, e1, e2, e3]
  rw [if_neg (by omega), if_neg (by omega), if_neg (by omega)]
  exact ⟨_, _, rfl⟩

theorem decode32_nan {b : Nat} (h : 0x7f800000 < b % 2 ^ 31) : ∃ s q, FloatKind.f32.decode b = .nan s q := by
  have e1 : Ieee.single.binade = 0x800000 := by decide +kernel
  have e2 : Ieee.single.infRung = 0x7f800000 := by decide +kernel
  have e3 : Ieee.single.signWeight = 2 ^ 31 := by decide +kernel
  simp only [FloatKind.decode, FloatKind.format, Ieee.Format.read, e1, e2, e3]
  rw [if_neg (by omega), if_neg (by omega), if_neg (by omega)]
  exact ⟨_, _, rfl⟩

theorem conv32_nan {b : Nat} (h : 0x7ff0000000000000 < b % 2 ^ 63) (w : World) :
    ∃ r, 0x7f800000 < r % 2 ^ 31 ∧ r < 2 ^ 32 ∧ (convert 37 44 (.float .f64 b)).run Try.prog w = .ok (.float .f32 r) w.drew := by
  obtain ⟨s, q, hd⟩ := decode64_nan h
  generalize ht : w.tape w.drawn (.nanConv .f32 b) = t
  have hm : t % 2 = 0 ∨ t % 2 = 1 := by omega
  have hy : t / 2 % (2 ^ 23 - 1) < 2 ^ 23 - 1 := Nat.mod_lt _ (by decide)
  refine ⟨(Question.nanConv .f32 b).cut t, ?_, ?_, ?_⟩
  · simp only [Question.cut]; generalize t / 2 % (2 ^ 23 - 1) = y at hy ⊢; rcases hm with hm | hm <;> rw [hm] <;> omega
  · simp only [Question.cut]; generalize t / 2 % (2 ^ 23 - 1) = y at hy ⊢; rcases hm with hm | hm <;> rw [hm] <;> omega
  · simp [convert, run_underlying Try.underlying37, run_underlying Try.underlying44, Conv.floatToFloat, hd, ← ht]
    intro hf; cases hf

theorem conv64_nan {b : Nat} (h : 0x7f800000 < b % 2 ^ 31) (w : World) :
    ∃ r, 0x7ff0000000000000 < r % 2 ^ 63 ∧ r < 2 ^ 64 ∧ (convert 44 37 (.float .f32 b)).run Try.prog w = .ok (.float .f64 r) w.drew := by
  obtain ⟨s, q, hd⟩ := decode32_nan h
  generalize ht : w.tape w.drawn (.nanConv .f64 b) = t
  have hm : t % 2 = 0 ∨ t % 2 = 1 := by omega
  have hy : t / 2 % (2 ^ 52 - 1) < 2 ^ 52 - 1 := Nat.mod_lt _ (by decide)
  refine ⟨(Question.nanConv .f64 b).cut t, ?_, ?_, ?_⟩
  · simp only [Question.cut]; generalize t / 2 % (2 ^ 52 - 1) = y at hy ⊢; rcases hm with hm | hm <;> rw [hm] <;> omega
  · simp only [Question.cut]; generalize t / 2 % (2 ^ 52 - 1) = y at hy ⊢; rcases hm with hm | hm <;> rw [hm] <;> omega
  · simp [convert, run_underlying Try.underlying37, run_underlying Try.underlying44, Conv.floatToFloat, hd, ← ht]
    intro hf; cases hf

theorem call13 (b : Nat) (w : World) : (callFunc 13 #[.float .f64 b]).run Try.prog w = .ok (.value (.int .u64 b)) w := by kernel_rfl
theorem call11 (b : Nat) (w : World) : (callFunc 11 #[.float .f32 b]).run Try.prog w = .ok (.value (.int .u32 b)) w := by kernel_rfl

theorem conv32_inf (w : World) : (convert 37 44 (.float .f64 0x7ff0000000000000)).run Try.prog w = .ok (.float .f32 0x7f800000) w := by kernel_rfl
theorem conv32_ninf (w : World) : (convert 37 44 (.float .f64 0xfff0000000000000)).run Try.prog w = .ok (.float .f32 0xff800000) w := by kernel_rfl
theorem conv64_inf (w : World) : (convert 44 37 (.float .f32 0x7f800000)).run Try.prog w = .ok (.float .f64 0x7ff0000000000000) w := by kernel_rfl
theorem conv64_ninf (w : World) : (convert 44 37 (.float .f32 0xff800000)).run Try.prog w = .ok (.float .f64 0xfff0000000000000) w := by kernel_rfl

set_option maxHeartbeats 400000 in
theorem atof64_sp (s : ByteArray) (w : World) (f : Nat) (L : Int)
    (h : Calls Try.prog 25 #[.string s] w fun e w' => e = .returned (.tuple #[.float .f64 f, .int .i64 L, .bool true]) ∧ w = w') :
    Calls Try.prog 23 #[.string s] w fun e w' => e = .returned (.tuple #[.float .f64 f, .int .i64 L, .nilIface]) ∧ w = w' := by
  have H := Lib.hid h
  clear h
  go_enter Try.func23, Try.ntmps23
  go_wp2_with fail
  refine H.out.mono ?_
  rintro e w' ⟨rfl, rfl⟩
  go_wp2_with fail
  go_ret3
  exact ⟨rfl, rfl⟩

set_option maxHeartbeats 400000 in
theorem atof32_sp (s : ByteArray) (w w1 : World) (f g : Nat) (L : Int)
    (h : Calls Try.prog 25 #[.string s] w fun e w' => e = .returned (.tuple #[.float .f64 f, .int .i64 L, .bool true]) ∧ w = w')
    (hc : (convert 37 44 (.float .f64 f)).run Try.prog w = .ok (.float .f32 g) w1) :
    Calls Try.prog 22 #[.string s] w fun e w' => e = .returned (.tuple #[.float .f32 g, .int .i64 L, .nilIface]) ∧ w1 = w' := by
  have H := Lib.hid h
  clear h
  go_enter Try.func22, Try.ntmps22
  go_wp2_with fail
  refine H.out.mono ?_
  rintro e w' ⟨rfl, rfl⟩
  go_wp2_with fail
  go_ret3
  exact ⟨rfl, rfl⟩

set_option maxHeartbeats 400000 in
theorem pfp64_sp (s : ByteArray) (w : World) (f : Nat) (L : Int)
    (h : Calls Try.prog 25 #[.string s] w fun e w' => e = .returned (.tuple #[.float .f64 f, .int .i64 L, .bool true]) ∧ w = w') :
    Calls Try.prog 20 #[.string s, .int .i64 64] w fun e w' => e = .returned (.tuple #[.float .f64 f, .int .i64 L, .nilIface]) ∧ w = w' := by
  have H := Lib.hid (atof64_sp s w f L h)
  clear h
  go_enter Try.func20, Try.ntmps20
  go_wp2_with fail
  refine H.out.mono ?_
  rintro e w' ⟨rfl, rfl⟩
  go_wp2_with fail
  go_ret3
  exact ⟨rfl, rfl⟩

set_option maxHeartbeats 400000 in
theorem pfp32_sp (s : ByteArray) (w w1 w2 : World) (f g f2 : Nat) (L : Int)
    (h : Calls Try.prog 25 #[.string s] w fun e w' => e = .returned (.tuple #[.float .f64 f, .int .i64 L, .bool true]) ∧ w = w')
    (hc : (convert 37 44 (.float .f64 f)).run Try.prog w = .ok (.float .f32 g) w1)
    (hd : (convert 44 37 (.float .f32 g)).run Try.prog w1 = .ok (.float .f64 f2) w2) :
    Calls Try.prog 20 #[.string s, .int .i64 32] w fun e w' => e = .returned (.tuple #[.float .f64 f2, .int .i64 L, .nilIface]) ∧ w2 = w' := by
  have H := Lib.hid (atof32_sp s w w1 f g L h hc)
  clear h hc
  go_enter Try.func20, Try.ntmps20
  go_wp2_with fail
  refine H.out.mono ?_
  rintro e w' ⟨rfl, rfl⟩
  go_wp2_with fail
  go_ret3
  exact ⟨rfl, rfl⟩

set_option maxHeartbeats 400000 in
theorem pf_sp (s : ByteArray) (w w1 : World) (f : Nat) (z : Int)
    (h : Calls Try.prog 20 #[.string s, .int .i64 z] w fun e w' => e = .returned (.tuple #[.float .f64 f, .int .i64 s.size, .nilIface]) ∧ w1 = w') :
    Calls Try.prog 10 #[.string s, .int .i64 z] w fun e w' => e = .returned (.tuple #[.float .f64 f, .nilIface]) ∧ w1 = w' := by
  have H := Lib.hid h
  clear h
  go_enter Try.func10, Try.ntmps10
  go_wp2_with fail
  refine H.out.mono ?_
  rintro e w' ⟨rfl, rfl⟩
  go_wp2_with fail
  go_ret2
  exact ⟨rfl, rfl⟩

set_option maxHeartbeats 400000 in
theorem kind_nil (w : World) :
    Calls Try.prog 12 #[.nilIface] w fun e w' => e = .returned (.int .i64 0) ∧ w = w' := by
  go_enter Try.func12, Try.ntmps12
  go_wp2_with fail
  go_ret
  exact ⟨rfl, rfl⟩

set_option maxHeartbeats 400000 in
theorem parse64_sp (s : ByteArray) (w : World) (f : Nat)
    (h : Calls Try.prog 10 #[.string s, .int .i64 64] w fun e w' => e = .returned (.tuple #[.float .f64 f, .nilIface]) ∧ w = w') :
    Calls Try.prog 5 #[.string s, .bool false] w fun e w' => e = .returned (.tuple #[.int .u64 f, .int .i64 0]) ∧ w = w' := by
  have H := Lib.hid h
  clear h
  have h13 := call13
  go_enter Try.func5, Try.ntmps5
  go_wp2_with fail
  refine H.out.mono ?_
  rintro e w' ⟨rfl, rfl⟩
  go_wp2_with fail
  refine (kind_nil _).mono ?_
  rintro e w' ⟨rfl, rfl⟩
  go_wp2_with fail
  go_ret2
  exact ⟨rfl, rfl⟩

set_option maxHeartbeats 400000 in
theorem parse32_sp (s : ByteArray) (w w1 w2 : World) (f g : Nat) (hg : (g : Int) < 4294967296)
    (h : Calls Try.prog 10 #[.string s, .int .i64 32] w fun e w' => e = .returned (.tuple #[.float .f64 f, .nilIface]) ∧ w1 = w')
    (hc : (convert 37 44 (.float .f64 f)).run Try.prog w1 = .ok (.float .f32 g) w2) :
    Calls Try.prog 5 #[.string s, .bool true] w fun e w' => e = .returned (.tuple #[.int .u64 g, .int .i64 0]) ∧ w2 = w' := by
  have H := Lib.hid h
  clear h
  have h11 := call11
  go_enter Try.func5, Try.ntmps5
  go_wp2_with fail
  refine H.out.mono ?_
  rintro e w' ⟨rfl, rfl⟩
  go_wp2_with fail
  refine (kind_nil _).mono ?_
  rintro e w' ⟨rfl, rfl⟩
  go_wp2_with fail
  go_ret2
  exact ⟨rfl, rfl⟩
end Go.Proofs.Ytfbbileojddioaa
