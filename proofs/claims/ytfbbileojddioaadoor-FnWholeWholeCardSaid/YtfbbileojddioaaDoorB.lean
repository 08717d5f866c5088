/- The walk of ParseUint at the digits of a number: the number, or the greatest one of its size and a range error. Bases 2 to 36, sizes 1 to 64. -/
import Derived.Test.YtfbbileojddioaaDoorM
namespace Go.Proofs.YtfbbileojddioaaDoor
open Go.RowKit

set_option maxHeartbeats 400000 in
theorem lower_letter (x : Int) (h0 : 97 ≤ x) (h1 : x ≤ 122) (w : World) :
    Calls Tryd.prog 18 #[.int .u8 x] w fun e w' => e = .returned (.int .u8 x) ∧ w = w' := by
  have hx : bits .or .u8 x 32 = x := by
    have : ∀ d : Fin 26, bits .or .u8 (97 + (d.val : Int)) 32 = 97 + (d.val : Int) := by decide +kernel
    have h := this ⟨(x - 97).toNat, by omega⟩
    have e : (97 : Int) + (((x - 97).toNat : Nat) : Int) = x := by omega
    simp only at h
    rw [e] at h
    exact h
  go_enter Tryd.func18, Tryd.ntmps18
  go_wp2
  go_ret
  exact ⟨rfl, rfl⟩

/-- What ParseUint answers at N in the size z. -/
def UintSays (N z : Nat) (e : Ending) : Prop :=
  (N ≤ 2 ^ z - 1 ∧ e = .returned (.tuple #[.int .u64 N, .nilIface])) ∨ (2 ^ z - 1 < N ∧ e = .returned (.tuple #[.int .u64 ((2 ^ z - 1 : Nat) : Int), .iface 43 (.int .i64 1)]))

theorem max_at (z : Nat) (hz1 : 1 ≤ z) (hz64 : z ≤ 64) : IntKind.u64.wrap (IntKind.u64.wrap (2 ^ z) - 1) = ((2 ^ z - 1 : Nat) : Int) := by
  have : ∀ y : Fin 65, 1 ≤ y.val → IntKind.u64.wrap (IntKind.u64.wrap (2 ^ y.val) - 1) = ((2 ^ y.val - 1 : Nat) : Int) := by decide +kernel
  exact this ⟨z, by omega⟩ hz1

theorem cut_at (b : Nat) (hb2 : 2 ≤ b) (hb36 : b ≤ 36) : IntKind.u64.wrap (18446744073709551615 / (b : Int) + 1) = ((18446744073709551615 / b + 1 : Nat) : Int) := by
  have : ∀ y : Fin 37, 2 ≤ y.val → IntKind.u64.wrap (18446744073709551615 / (y.val : Int) + 1) = ((18446744073709551615 / y.val + 1 : Nat) : Int) := by decide +kernel
  exact this ⟨b, by omega⟩ hb2

set_option maxRecDepth 100000 in
set_option maxHeartbeats 4000000 in
theorem parseUint_any (s : ByteArray) (N b z : Nat) (w : World) (hb2 : 2 ≤ b) (hb36 : b ≤ 36) (hz1 : 1 ≤ z) (hz64 : z ≤ 64) (hN : N < 2 ^ 64) (hl : Pl.IsDg b N s.data.toList) :
    Calls Tryd.prog 13 #[.string s, .int .i64 b, .int .i64 z] w fun e w' => UintSays N z e ∧ Below w.heap.size w w' := by
  have hsz1 : 1 ≤ s.size := by have := hl.1; simpa using this
  have hsz2 : s.size ≤ 64 := by have := hl.short hb2 hN; simpa using this
  have hne : s.toList.isEmpty = false := by
    rw [List.isEmpty_eq_false_iff]
    intro h
    have h2 : s.toList.length = 0 := by rw [h]; rfl
    have h3 : s.toList.length = s.size := by rw [ByteArray.toList_eq]; simp
    omega
  have h0 : ((b : Int) == 0) = false := beq_eq_false_iff_ne.2 (by omega)
  have hz0 : ((z : Int) == 0) = false := beq_eq_false_iff_ne.2 (by omega)
  have hbA : decide (2 ≤ (b : Int)) = true := decide_eq_true (by omega)
  have hbB : decide ((b : Int) ≤ 36) = true := decide_eq_true (by omega)
  have hzA : decide ((z : Int) < 0) = false := decide_eq_false (by omega)
  have hzB : decide (64 < (z : Int)) = false := decide_eq_false (by omega)
  have HM := Lib.hid (max_at z hz1 hz64)
  have HC := Lib.hid (cut_at b hb2 hb36)
  have HL := Lib.hid hl
  have hcb := conv_bytes s w
  have ho := owns_at w s (grownCap w s.size 0 5) w.heap.size s.data.toList rfl rfl
  have HO := Lib.hid ho
  clear hl ho
  have hcase : (((b : Int) == 10) = true ∧ b = 10) ∨ ((((b : Int) == 10) = false) ∧ ((b : Int) == 16) = true ∧ b = 16) ∨ ((((b : Int) == 10) = false) ∧ ((b : Int) == 16) = false) := by
    by_cases h10 : b = 10
    · exact .inl ⟨beq_iff_eq.2 (by omega), h10⟩
    · by_cases h16 : b = 16
      · exact .inr (.inl ⟨beq_eq_false_iff_ne.2 (by omega), beq_iff_eq.2 (by omega), h16⟩)
      · exact .inr (.inr ⟨beq_eq_false_iff_ne.2 (by omega), beq_eq_false_iff_ne.2 (by omega)⟩)
  have HV := Lib.hid (fun k => Pl.pre_step b N s.data.toList k)
  have hlen : s.data.toList.length = s.size := by simp
  have HLen := Lib.hid hlen
  clear hlen
  rcases hcase with ⟨c10, hb⟩ | ⟨c10, c16, hb⟩ | ⟨c10, c16⟩
  · have HCV : Hid (∀ p : Nat, p * b < 2 ^ 64 → (p : Int) < 1844674407370955162) := Lib.hid (fun p hp => by subst hb; omega)
    clear hb
    go_enter Tryd.func13, Tryd.ntmps13
    go_wp2
    clear hcb c10
    rw [HM.out]
    generalize (1844674407370955162 : Int) = cv at HCV ⊢
    go_loop [12, 13, 101] (fun u n c => u = .bool false ∧ ∃ k : Nat, k ≤ s.size ∧ c = .int .i64 k ∧ n = .int .u64 ((Pl.pre b N s.size k : Nat) : Int) ∧ Pl.pre b N s.size k ≤ 2 ^ z - 1) (fun _ _ c => s.size - (intOf c).toNat)
    case atStart => exact ⟨rfl, 0, Nat.zero_le _, rfl, by rw [← HLen.out, Pl.pre_zero HL.out]; rfl, by rw [← HLen.out, Pl.pre_zero HL.out]; omega⟩
    case round =>
      obtain ⟨rfl, k, hk, rfl, rfl, hpM⟩ := hrel
      by_cases hkL : k < s.size
      · have hv := HV.out k (by rw [HLen.out]; exact hkL)
        have hcell := (HO.out k (by rw [HLen.out]; exact hkL)).1
        have hdig := HL.out.2.2.2 k (by rw [HLen.out]; exact hkL)
        have hle := Pl.pre_le b N s.size (k + 1)
        rw [HLen.out] at hv hdig
        rw [hdig] at hcell
        clear hdig
        have hd36 : N / b ^ (s.size - 1 - k) % b < b := Nat.mod_lt _ (by omega)
        generalize N / b ^ (s.size - 1 - k) % b = d at hv hcell hd36
        generalize Pl.pre b N s.size k = p at hv hpM ⊢
        have hpb : p * b + d ≤ N := by omega
        have hmul : IntKind.u64.wrap ((p : Int) * (b : Int)) = (p : Int) * (b : Int) := by rw [IntKind.wrap_u64, ← Int.natCast_mul]; generalize p * b = x at hpb; omega
        have hadd : IntKind.u64.wrap ((p : Int) * (b : Int) + (d : Int)) = (p : Int) * (b : Int) + (d : Int) := by rw [IntKind.wrap_u64, ← Int.natCast_mul]; generalize p * b = x at hpb; omega
        have hcut : (p : Int) < cv := HCV.out p (by generalize p * b = x at hpb; omega)
        have hge : (p : Int) ≤ (p : Int) * (b : Int) := by
          have : p * 1 ≤ p * b := Nat.mul_le_mul_left p (by omega)
          rw [← Int.natCast_mul]; omega
        have HVK := Lib.hid hv
        clear hv
        by_cases hd : d < 10
        · rw [Pl.ch_small d hd] at hcell
          go_wp2
          · have hov : 2 ^ z - 1 < p * b + d := by
              have hh := ‹_ ∨ _›
              have e : ((2 ^ z - 1 : Nat) : Int) < ((p * b + d : Nat) : Int) := by rw [Int.natCast_add, Int.natCast_mul]; omega
              exact Int.ofNat_lt.1 e
            go_ret2
            exact ⟨.inr ⟨by omega, rfl⟩, by go_grown⟩
          · have hnx : p * b + d ≤ 2 ^ z - 1 := by
              have hh := ‹_ ∧ _›
              have e : ((p * b + d : Nat) : Int) ≤ ((2 ^ z - 1 : Nat) : Int) := by rw [Int.natCast_add, Int.natCast_mul]; omega
              exact Int.ofNat_le.1 e
            go_round
            case rel => exact ⟨rfl, k + 1, by omega, by go_num, by rw [HVK.out]; exact congrArg (Value.int IntKind.u64) (by rw [Int.natCast_add, Int.natCast_mul]; omega), by rw [HVK.out]; exact hnx⟩
            case measure => simp [intOf]; omega
        · rw [Pl.ch_large d (by omega) (by omega)] at hcell
          go_wp2_with (go_at_call 18; go_must (refine (lower_letter _ (by omega) (by omega) _).mono ?_; rintro e w' ⟨rfl, rfl⟩))
          · have hov : 2 ^ z - 1 < p * b + d := by
              have hh := ‹_ ∨ _›
              have e : ((2 ^ z - 1 : Nat) : Int) < ((p * b + d : Nat) : Int) := by rw [Int.natCast_add, Int.natCast_mul]; omega
              exact Int.ofNat_lt.1 e
            go_ret2
            exact ⟨.inr ⟨by omega, rfl⟩, by go_grown⟩
          · have hnx : p * b + d ≤ 2 ^ z - 1 := by
              have hh := ‹_ ∧ _›
              have e : ((p * b + d : Nat) : Int) ≤ ((2 ^ z - 1 : Nat) : Int) := by rw [Int.natCast_add, Int.natCast_mul]; omega
              exact Int.ofNat_le.1 e
            go_round
            case rel => exact ⟨rfl, k + 1, by omega, by go_num, by rw [HVK.out]; exact congrArg (Value.int IntKind.u64) (by rw [Int.natCast_add, Int.natCast_mul]; omega), by rw [HVK.out]; exact hnx⟩
            case measure => simp [intOf]; omega
      · obtain rfl : k = s.size := by omega
        go_wp2
        go_ret2
        rw [Pl.pre_full] at hpM
        refine ⟨.inl ⟨hpM, ?_⟩, by go_grown⟩
        rw [Pl.pre_full]
        rfl
  · have HCV : Hid (∀ p : Nat, p * b < 2 ^ 64 → (p : Int) < 1152921504606846976) := Lib.hid (fun p hp => by subst hb; omega)
    clear hb
    go_enter Tryd.func13, Tryd.ntmps13
    go_wp2
    clear hcb c10 c16
    rw [HM.out]
    generalize (1152921504606846976 : Int) = cv at HCV ⊢
    go_loop [12, 13, 101] (fun u n c => u = .bool false ∧ ∃ k : Nat, k ≤ s.size ∧ c = .int .i64 k ∧ n = .int .u64 ((Pl.pre b N s.size k : Nat) : Int) ∧ Pl.pre b N s.size k ≤ 2 ^ z - 1) (fun _ _ c => s.size - (intOf c).toNat)
    case atStart => exact ⟨rfl, 0, Nat.zero_le _, rfl, by rw [← HLen.out, Pl.pre_zero HL.out]; rfl, by rw [← HLen.out, Pl.pre_zero HL.out]; omega⟩
    case round =>
      obtain ⟨rfl, k, hk, rfl, rfl, hpM⟩ := hrel
      by_cases hkL : k < s.size
      · have hv := HV.out k (by rw [HLen.out]; exact hkL)
        have hcell := (HO.out k (by rw [HLen.out]; exact hkL)).1
        have hdig := HL.out.2.2.2 k (by rw [HLen.out]; exact hkL)
        have hle := Pl.pre_le b N s.size (k + 1)
        rw [HLen.out] at hv hdig
        rw [hdig] at hcell
        clear hdig
        have hd36 : N / b ^ (s.size - 1 - k) % b < b := Nat.mod_lt _ (by omega)
        generalize N / b ^ (s.size - 1 - k) % b = d at hv hcell hd36
        generalize Pl.pre b N s.size k = p at hv hpM ⊢
        have hpb : p * b + d ≤ N := by omega
        have hmul : IntKind.u64.wrap ((p : Int) * (b : Int)) = (p : Int) * (b : Int) := by rw [IntKind.wrap_u64, ← Int.natCast_mul]; generalize p * b = x at hpb; omega
        have hadd : IntKind.u64.wrap ((p : Int) * (b : Int) + (d : Int)) = (p : Int) * (b : Int) + (d : Int) := by rw [IntKind.wrap_u64, ← Int.natCast_mul]; generalize p * b = x at hpb; omega
        have hcut : (p : Int) < cv := HCV.out p (by generalize p * b = x at hpb; omega)
        have hge : (p : Int) ≤ (p : Int) * (b : Int) := by
          have : p * 1 ≤ p * b := Nat.mul_le_mul_left p (by omega)
          rw [← Int.natCast_mul]; omega
        have HVK := Lib.hid hv
        clear hv
        by_cases hd : d < 10
        · rw [Pl.ch_small d hd] at hcell
          go_wp2
          · have hov : 2 ^ z - 1 < p * b + d := by
              have hh := ‹_ ∨ _›
              have e : ((2 ^ z - 1 : Nat) : Int) < ((p * b + d : Nat) : Int) := by rw [Int.natCast_add, Int.natCast_mul]; omega
              exact Int.ofNat_lt.1 e
            go_ret2
            exact ⟨.inr ⟨by omega, rfl⟩, by go_grown⟩
          · have hnx : p * b + d ≤ 2 ^ z - 1 := by
              have hh := ‹_ ∧ _›
              have e : ((p * b + d : Nat) : Int) ≤ ((2 ^ z - 1 : Nat) : Int) := by rw [Int.natCast_add, Int.natCast_mul]; omega
              exact Int.ofNat_le.1 e
            go_round
            case rel => exact ⟨rfl, k + 1, by omega, by go_num, by rw [HVK.out]; exact congrArg (Value.int IntKind.u64) (by rw [Int.natCast_add, Int.natCast_mul]; omega), by rw [HVK.out]; exact hnx⟩
            case measure => simp [intOf]; omega
        · rw [Pl.ch_large d (by omega) (by omega)] at hcell
          go_wp2_with (go_at_call 18; go_must (refine (lower_letter _ (by omega) (by omega) _).mono ?_; rintro e w' ⟨rfl, rfl⟩))
          · have hov : 2 ^ z - 1 < p * b + d := by
              have hh := ‹_ ∨ _›
              have e : ((2 ^ z - 1 : Nat) : Int) < ((p * b + d : Nat) : Int) := by rw [Int.natCast_add, Int.natCast_mul]; omega
              exact Int.ofNat_lt.1 e
            go_ret2
            exact ⟨.inr ⟨by omega, rfl⟩, by go_grown⟩
          · have hnx : p * b + d ≤ 2 ^ z - 1 := by
              have hh := ‹_ ∧ _›
              have e : ((p * b + d : Nat) : Int) ≤ ((2 ^ z - 1 : Nat) : Int) := by rw [Int.natCast_add, Int.natCast_mul]; omega
              exact Int.ofNat_le.1 e
            go_round
            case rel => exact ⟨rfl, k + 1, by omega, by go_num, by rw [HVK.out]; exact congrArg (Value.int IntKind.u64) (by rw [Int.natCast_add, Int.natCast_mul]; omega), by rw [HVK.out]; exact hnx⟩
            case measure => simp [intOf]; omega
      · obtain rfl : k = s.size := by omega
        go_wp2
        go_ret2
        rw [Pl.pre_full] at hpM
        refine ⟨.inl ⟨hpM, ?_⟩, by go_grown⟩
        rw [Pl.pre_full]
        rfl
  · have HCV : Hid (∀ p : Nat, p * b < 2 ^ 64 → (p : Int) < ((18446744073709551615 / b + 1 : Nat) : Int)) := Lib.hid (fun p hp => by have := Pl.cut_lt hb2 hp; omega)
    go_enter Tryd.func13, Tryd.ntmps13
    go_wp2
    clear hcb c10 c16
    rw [HM.out, HC.out]
    generalize ((18446744073709551615 / b + 1 : Nat) : Int) = cv at HCV ⊢
    go_loop [12, 13, 101] (fun u n c => u = .bool false ∧ ∃ k : Nat, k ≤ s.size ∧ c = .int .i64 k ∧ n = .int .u64 ((Pl.pre b N s.size k : Nat) : Int) ∧ Pl.pre b N s.size k ≤ 2 ^ z - 1) (fun _ _ c => s.size - (intOf c).toNat)
    case atStart => exact ⟨rfl, 0, Nat.zero_le _, rfl, by rw [← HLen.out, Pl.pre_zero HL.out]; rfl, by rw [← HLen.out, Pl.pre_zero HL.out]; omega⟩
    case round =>
      obtain ⟨rfl, k, hk, rfl, rfl, hpM⟩ := hrel
      by_cases hkL : k < s.size
      · have hv := HV.out k (by rw [HLen.out]; exact hkL)
        have hcell := (HO.out k (by rw [HLen.out]; exact hkL)).1
        have hdig := HL.out.2.2.2 k (by rw [HLen.out]; exact hkL)
        have hle := Pl.pre_le b N s.size (k + 1)
        rw [HLen.out] at hv hdig
        rw [hdig] at hcell
        clear hdig
        have hd36 : N / b ^ (s.size - 1 - k) % b < b := Nat.mod_lt _ (by omega)
        generalize N / b ^ (s.size - 1 - k) % b = d at hv hcell hd36
        generalize Pl.pre b N s.size k = p at hv hpM ⊢
        have hpb : p * b + d ≤ N := by omega
        have hmul : IntKind.u64.wrap ((p : Int) * (b : Int)) = (p : Int) * (b : Int) := by rw [IntKind.wrap_u64, ← Int.natCast_mul]; generalize p * b = x at hpb; omega
        have hadd : IntKind.u64.wrap ((p : Int) * (b : Int) + (d : Int)) = (p : Int) * (b : Int) + (d : Int) := by rw [IntKind.wrap_u64, ← Int.natCast_mul]; generalize p * b = x at hpb; omega
        have hcut : (p : Int) < cv := HCV.out p (by generalize p * b = x at hpb; omega)
        have hge : (p : Int) ≤ (p : Int) * (b : Int) := by
          have : p * 1 ≤ p * b := Nat.mul_le_mul_left p (by omega)
          rw [← Int.natCast_mul]; omega
        have HVK := Lib.hid hv
        clear hv
        by_cases hd : d < 10
        · rw [Pl.ch_small d hd] at hcell
          go_wp2
          · have hov : 2 ^ z - 1 < p * b + d := by
              have hh := ‹_ ∨ _›
              have e : ((2 ^ z - 1 : Nat) : Int) < ((p * b + d : Nat) : Int) := by rw [Int.natCast_add, Int.natCast_mul]; omega
              exact Int.ofNat_lt.1 e
            go_ret2
            exact ⟨.inr ⟨by omega, rfl⟩, by go_grown⟩
          · have hnx : p * b + d ≤ 2 ^ z - 1 := by
              have hh := ‹_ ∧ _›
              have e : ((p * b + d : Nat) : Int) ≤ ((2 ^ z - 1 : Nat) : Int) := by rw [Int.natCast_add, Int.natCast_mul]; omega
              exact Int.ofNat_le.1 e
            go_round
            case rel => exact ⟨rfl, k + 1, by omega, by go_num, by rw [HVK.out]; exact congrArg (Value.int IntKind.u64) (by rw [Int.natCast_add, Int.natCast_mul]; omega), by rw [HVK.out]; exact hnx⟩
            case measure => simp [intOf]; omega
        · rw [Pl.ch_large d (by omega) (by omega)] at hcell
          go_wp2_with (go_at_call 18; go_must (refine (lower_letter _ (by omega) (by omega) _).mono ?_; rintro e w' ⟨rfl, rfl⟩))
          · have hov : 2 ^ z - 1 < p * b + d := by
              have hh := ‹_ ∨ _›
              have e : ((2 ^ z - 1 : Nat) : Int) < ((p * b + d : Nat) : Int) := by rw [Int.natCast_add, Int.natCast_mul]; omega
              exact Int.ofNat_lt.1 e
            go_ret2
            exact ⟨.inr ⟨by omega, rfl⟩, by go_grown⟩
          · have hnx : p * b + d ≤ 2 ^ z - 1 := by
              have hh := ‹_ ∧ _›
              have e : ((p * b + d : Nat) : Int) ≤ ((2 ^ z - 1 : Nat) : Int) := by rw [Int.natCast_add, Int.natCast_mul]; omega
              exact Int.ofNat_le.1 e
            go_round
            case rel => exact ⟨rfl, k + 1, by omega, by go_num, by rw [HVK.out]; exact congrArg (Value.int IntKind.u64) (by rw [Int.natCast_add, Int.natCast_mul]; omega), by rw [HVK.out]; exact hnx⟩
            case measure => simp [intOf]; omega
      · obtain rfl : k = s.size := by omega
        go_wp2
        go_ret2
        rw [Pl.pre_full] at hpM
        refine ⟨.inl ⟨hpM, ?_⟩, by go_grown⟩
        rw [Pl.pre_full]
        rfl
end Go.Proofs.YtfbbileojddioaaDoor
