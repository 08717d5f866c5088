/- The walks of spec.sign and spec.Whole: a whole number's sign and digits. -/
import Derived.Test.YtfbbileojddioaaDoorRows
import Derived.Test.YtfbbileojddioaaDoorPl
import Derived.WalkKit
import Derived.WalkSpells
import Derived.WalkLawsBesides
import Derived.Lib.Hide
import Derived.Handy
import Derived.Laws.BitsLemmas
import Derived.Laws.Bits64
namespace Go.Proofs.YtfbbileojddioaaDoor
open Go.RowKit

theorem ret_int {k : IntKind} {a b : Int} (h : a = b) : Ending.returned (.int k a) = .returned (.int k b) := by rw [h]

set_option maxHeartbeats 400000 in
theorem sign_pos (w : World) : Calls Tryd.prog 12 #[.bool false] w fun e w' => e = .returned (.string ⟨#[]⟩) ∧ w = w' := by
  go_enter Tryd.func12, Tryd.ntmps12
  go_wp2
  go_ret
  exact ⟨rfl, rfl⟩

set_option maxHeartbeats 400000 in
theorem sign_neg (w : World) : Calls Tryd.prog 12 #[.bool true] w fun e w' => e = .returned (.string ⟨#[45]⟩) ∧ w = w' := by
  go_enter Tryd.func12, Tryd.ntmps12
  go_wp2
  go_ret
  exact ⟨rfl, rfl⟩

def isTrue : Value → Nat
  | .bool true => 1
  | _ => 0

set_option maxHeartbeats 1000000 in
theorem whole_any (neg : Bool) (N b : Nat) (sg : ByteArray) (w : World) (hb2 : 2 ≤ b) (hb36 : b ≤ 36) (hN : N < 2 ^ 64) (hsg : sg.size ≤ 1)
    (hsign : Calls Tryd.prog 12 #[.bool neg] w fun e w' => e = .returned (.string sg) ∧ w = w') :
    Calls Tryd.prog 5 #[.bool neg, .int .u64 N, .int .i64 b] w fun e w' => (∃ s : ByteArray, e = .returned (.string s) ∧ ∃ l, Pl.IsDg b N l ∧ s.data.toList = sg.data.toList ++ l) ∧ w = w' := by
  have HS := Lib.hid hsign
  clear hsign
  go_enter Tryd.func5, Tryd.ntmps5
  go_wp2
  go_loop [1, 7, 8] (fun n s a => ∃ (m : Nat) (S : ByteArray) (bb : Bool), n = .int .u64 m ∧ s = .string S ∧ a = .bool bb ∧ m ≤ N ∧ Pl.Part b N m S.data.toList ∧ (bb = true → S.data.toList = [] ∨ 0 < m) ∧ (bb = false → m = 0 ∧ S.data.toList ≠ []))
    (fun n _ a => (intOf n).toNat + isTrue a)
  case atStart => exact ⟨N, ⟨#[]⟩, true, rfl, rfl, rfl, Nat.le_refl _, Pl.Part.start b N, fun _ => .inl rfl, fun h => by cases h⟩
  case round =>
    obtain ⟨m, S, bb, rfl, rfl, rfl, hmN, hp, ht, hf⟩ := hrel
    have HP := Lib.hid hp
    cases bb
    · obtain ⟨rfl, hS⟩ := hf rfl
      have HD := Lib.hid (hp.done hb2 hS)
      have hsz : S.size ≤ 64 := by have := (hp.done hb2 hS).short hb2 hN; simpa using this
      clear hp ht hf HP
      go_wp2_with fail
      refine HS.out.mono ?_
      rintro e w' ⟨rfl, rfl⟩
      go_wp2
      go_ret
      exact ⟨⟨_, rfl, S.data.toList, HD.out, by simp⟩, rfl⟩
    · have HT := Lib.hid (ht rfl)
      have hsz : S.size ≤ 63 := by have := hp.short hb2 hN (ht rfl); simpa using this
      have hst := hp.step hb2 (ht rfl)
      have HStep := Lib.hid hst
      clear hp ht hf hst
      have hm0 : 0 ≤ (m : Int) % (b : Int) := by omega
      have hm1 : (m : Int) % (b : Int) ≤ 35 := by have := Int.emod_lt_of_pos (m : Int) (show (0 : Int) < b by omega); omega
      have hmd : m % b < 36 := by have := Nat.mod_lt m (show b > 0 by omega); omega
      have hq : IntKind.u64.wrap ((m : Int) / (b : Int)) = (m : Int) / (b : Int) := by
        rw [IntKind.wrap_u64]
        have h1 : ((m : Int) / (b : Int)) = ((m / b : Nat) : Int) := (Int.natCast_ediv _ _).symm
        have h2 : m / b ≤ m := Nat.div_le_self _ _
        generalize m / b = x at h1 h2
        rw [h1]; omega
      go_wp2
      all_goals
        have h2 : m / b ≤ m := Nat.div_le_self _ _
        have h1 : ((m : Int) / (b : Int)) = ((m / b : Nat) : Int) := (Int.natCast_ediv _ _).symm
        have h3 : 0 < m → m / b < m := fun h => Nat.div_lt_self h hb2
        go_round
        case rel =>
          refine ⟨m / b, ((Pl.alphabet.extract (m % b) 36).extract 0 1) ++ S, decide (0 < m / b), by rw [h1], rfl, congrArg Value.bool (decide_eq_decide.2 (by rw [h1]; omega)), by omega, ?_, ?_, ?_⟩
          · rw [Pl.cut_digit (m % b) hmd S]; exact HStep.out
          · intro h; right; exact of_decide_eq_true h
          · intro h
            refine ⟨Nat.eq_zero_of_not_pos (of_decide_eq_false h), ?_⟩
            rw [Pl.cut_digit (m % b) hmd S]
            simp
        case measure =>
          rw [h1]
          generalize m / b = x at h1 h2 h3
          by_cases hx : 0 < x
          · simp [intOf, isTrue, hx]; omega
          · simp [intOf, isTrue, hx]; omega
end Go.Proofs.YtfbbileojddioaaDoor
