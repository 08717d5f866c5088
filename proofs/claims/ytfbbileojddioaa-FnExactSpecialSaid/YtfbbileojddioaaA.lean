/- The walks of the reader's special words: the common prefix in letters of any size. -/
import Derived.Test.YtfbbileojddioaaRows
import Derived.Test.YtfbbileojddioaaPlain
import Derived.WalkKit
import Derived.WalkSpells
import Derived.WalkLawsBesides
import Derived.Lib.Hide
namespace Go.Proofs.Ytfbbileojddioaa
open Go.RowKit

theorem ret_int {k : IntKind} {a b : Int} (h : a = b) : Ending.returned (.int k a) = .returned (.int k b) := by rw [h]

set_option maxHeartbeats 400000 in
theorem cpl_any (s p : ByteArray) (w : World) (hs : s.size ≤ maxLen) (hp : p.size ≤ maxLen) :
    Calls Try.prog 42 #[.string s, .string p] w fun e w' => e = .returned (.int .i64 (Pl.cpl s.data.toList p.data.toList)) ∧ w = w' := by
  unfold maxLen at hs hp
  go_enter Try.func42, Try.ntmps42
  go_wp2
  all_goals
    go_loop [6] (fun i => ∃ k : Nat, k ≤ s.size ∧ k ≤ p.size ∧ i = .int .i64 k ∧ ∀ j, j < k → Pl.lowc (s.data.toList.getD j 0) = p.data.toList.getD j 0) (fun i => s.size - (intOf i).toNat)
  case atStart => exact ⟨0, by omega, by omega, rfl, fun j hj => absurd hj (by omega)⟩
  case atStart => exact ⟨0, by omega, by omega, rfl, fun j hj => absurd hj (by omega)⟩
  all_goals
    obtain ⟨k, hk1, hk2, rfl, hm⟩ := hrel
    have HM := Lib.hid hm
    clear hm
    by_cases hks : k < s.size
    · by_cases hkp : k < p.size
      · have HL := Lib.hid (Pl.lowc_toNat s[k])
        go_wp2
        all_goals first
          | (go_ret
             refine ⟨ret_int ?_, rfl⟩
             have hc := Pl.cpl_stop s p k hks hkp HM.out (by rw [HL.out]; simp_all; split <;> omega)
             omega)
          | (go_round
             case rel => exact ⟨k + 1, by omega, by omega, by go_num, Pl.cpl_more s p k hks hkp HM.out (by rw [HL.out]; simp_all; split <;> omega)⟩
             case measure => simp [intOf]; omega)
      · go_wp2
        all_goals
          go_ret
          refine ⟨ret_int ?_, rfl⟩
          have hc := Pl.cpl_end s p k (by omega) (by omega) (by omega) HM.out
          omega
    · go_wp2
      all_goals
        go_ret
        refine ⟨ret_int ?_, rfl⟩
        have hc := Pl.cpl_end s p k (by omega) (by omega) (by omega) HM.out
        omega
end Go.Proofs.Ytfbbileojddioaa
