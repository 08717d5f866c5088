/- The walks of ParseUnsigned, ParseInt, ParseWhole. -/
import Derived.Test.YtfbbileojddioaaDoorB
import Derived.Test.YtfbbileojddioaaDoorC
namespace Go.Proofs.YtfbbileojddioaaDoor
open Go.RowKit

set_option maxHeartbeats 1000000 in
theorem parseUnsigned_any (s : ByteArray) (N b z : Nat) (w : World) (hb2 : 2 ≤ b) (hb36 : b ≤ 36) (hz1 : 1 ≤ z) (hz64 : z ≤ 64) (hN : N < 2 ^ 64) (hl : Pl.IsDg b N s.data.toList) :
    Calls Tryd.prog 6 #[.string s, .int .i64 b, .int .i64 z] w fun e w' => ((N ≤ 2 ^ z - 1 ∧ e = .returned (.tuple #[.int .u64 N, .int .i64 0])) ∨ (2 ^ z - 1 < N ∧ e = .returned (.tuple #[.int .u64 ((2 ^ z - 1 : Nat) : Int), .int .i64 2]))) ∧ Below w.heap.size w w' := by
  have H := Lib.hid (parseUint_any s N b z w hb2 hb36 hz1 hz64 hN hl)
  clear hl
  go_enter Tryd.func6, Tryd.ntmps6
  go_wp2_with fail
  refine H.out.mono ?_
  rintro e w' ⟨h, hb⟩
  rcases h with ⟨h, rfl⟩ | ⟨h, rfl⟩
  · go_wp2_with fail
    refine (kind_nil _).mono ?_
    rintro e w2 ⟨rfl, rfl⟩
    go_wp2_with fail
    go_ret2
    exact ⟨.inl ⟨h, rfl⟩, hb⟩
  · go_wp2_with fail
    refine (kind_range _).mono ?_
    rintro e w2 ⟨rfl, rfl⟩
    go_wp2_with fail
    go_ret2
    exact ⟨.inr ⟨h, rfl⟩, hb⟩

theorem neq_err (a b : Int) (w : World) : (binOp .neq 37 (.iface 43 (.int .i64 a)) (.iface 43 (.int .i64 b))).run Tryd.prog w = .ok (.bool (!(a == b))) w := by kernel_rfl

/-- What ParseInt answers. -/
def IntSays (neg : Bool) (N T : Nat) (e : Ending) : Prop :=
  e = .returned (.tuple #[.int .i64 (Pl.fitV neg N T), if Pl.fitO neg N T = true then .iface 43 (.int .i64 1) else .nilIface])

theorem says_over {neg : Bool} {N T : Nat} {v : Int} (ho : Pl.fitO neg N T = true) (hv : v = Pl.fitV neg N T) : IntSays neg N T (.returned (.tuple #[.int .i64 v, .iface 43 (.int .i64 1)])) := by
  unfold IntSays; rw [ho, hv]; rfl

theorem says_fits {neg : Bool} {N T : Nat} {v : Int} (ho : Pl.fitO neg N T = false) (hv : v = Pl.fitV neg N T) : IntSays neg N T (.returned (.tuple #[.int .i64 v, .nilIface])) := by
  unfold IntSays; rw [ho, hv]; rfl

theorem half_at (z : Nat) (hz1 : 1 ≤ z) (hz64 : z ≤ 64) : IntKind.u64.wrap (2 ^ (z - 1)) = ((2 ^ (z - 1) : Nat) : Int) := by
  have : ∀ y : Fin 65, 1 ≤ y.val → IntKind.u64.wrap (2 ^ (y.val - 1)) = ((2 ^ (y.val - 1) : Nat) : Int) := by decide +kernel
  exact this ⟨z, by omega⟩ hz1

theorem wrap64_is (n : Int) : wrap64 n = (n + 9223372036854775808) % 18446744073709551616 - 9223372036854775808 := by
  unfold wrap64; omega

theorem get_first (s : ByteArray) (h : 0 < s.size) : s.data.toList.getD 0 0 = s[0] := by
  have h' : 0 < s.data.toList.length := by simpa using h
  rw [List.getD_eq_getElem?_getD, List.getElem?_eq_getElem h']; rfl

theorem not_empty (s : ByteArray) (h : 0 < s.size) : s.toList.isEmpty = false := by
  rw [List.isEmpty_eq_false_iff]
  intro h1
  have h2 : s.toList.length = 0 := by rw [h1]; rfl
  have h3 : s.toList.length = s.size := by rw [ByteArray.toList_eq]; simp
  omega

set_option maxHeartbeats 1000000 in
theorem parseInt_pos (s : ByteArray) (N b z : Nat) (w : World) (hb2 : 2 ≤ b) (hb36 : b ≤ 36) (hz1 : 2 ≤ z) (hz64 : z ≤ 64) (hN : N < 2 ^ 64) (hl : Pl.IsDg b N s.data.toList) (T : Nat) (hTd : T = 2 ^ (z - 1)) :
    Calls Tryd.prog 16 #[.string s, .int .i64 b, .int .i64 z] w fun e w' => IntSays false N T e ∧ Below w.heap.size w w' := by
  have H := Lib.hid (parseUint_any s N b z w hb2 hb36 (by omega) hz64 hN hl)
  have hsz1 : 0 < s.size := by
    have h2 : s.data.toList.length = s.size := by simp
    rw [← h2]; exact hl.1
  have hne := not_empty s hsz1
  have hcf := Pl.ch_first hb2 hb36 hl
  rw [get_first s hsz1] at hcf
  have h0 : ((s[0].toNat : Int) == 43) = false := beq_eq_false_iff_ne.2 (by omega)
  have h1 : ((s[0].toNat : Int) == 45) = false := beq_eq_false_iff_ne.2 (by omega)
  have hz0 : ((z : Int) == 0) = false := beq_eq_false_iff_ne.2 (by omega)
  have hnq := neq_err
  have hT : IntKind.u64.wrap (2 ^ (z - 1)) = (T : Int) := by rw [hTd]; exact half_at z (by omega) hz64
  have HZ : Hid (2 ^ z = 2 * T) := Lib.hid (by rw [hTd]; exact Pl.two_half z (by omega))
  have HT2 : Hid (T ≤ 2 ^ 63) := Lib.hid (by rw [hTd]; exact Pl.half_le z hz64)
  have HT1 : Hid (1 ≤ T) := Lib.hid (by rw [hTd]; exact Nat.one_le_two_pow)
  clear hl hcf hTd
  go_enter Tryd.func16, Tryd.ntmps16
  go_wp2_with fail
  refine H.out.mono ?_
  rintro e w' ⟨h, hb⟩
  rcases h with ⟨h, rfl⟩ | ⟨h, rfl⟩
  · have HM := Lib.hid h
    clear h
    by_cases hc : T ≤ N
    · have hcc : ((T : Nat) : Int) ≤ (N : Int) := Int.ofNat_le.2 hc
      go_wp2
      go_ret2
      refine ⟨?_, hb⟩
      have e1 : wrap64 (IntKind.u64.wrap (((T : Nat) : Int) - 1)) = ((T : Nat) : Int) - 1 := by
        have a := HT2.out
        have b := HT1.out
        rw [wrap64_is, IntKind.wrap_u64]; omega
      exact says_over (by simp [Pl.fitO, hc]) (e1.trans (by simp [Pl.fitV, hc]))
    · have hcc : ¬ ((T : Nat) : Int) ≤ (N : Int) := fun h => hc (Int.ofNat_le.1 h)
      go_wp2
      go_ret2
      refine ⟨?_, hb⟩
      have e1 : wrap64 (N : Int) = (N : Int) := by
        have a := HT2.out
        rw [wrap64_is]; omega
      exact says_fits (by simp [Pl.fitO]; omega) (e1.trans (by simp only [Pl.fitV, if_neg hc]))
  · have hM : T ≤ 2 ^ z - 1 := by have a := HZ.out; have b := HT1.out; omega
    have hcN : T ≤ N := by omega
    have hcc : ((T : Nat) : Int) ≤ ((2 ^ z - 1 : Nat) : Int) := Int.ofNat_le.2 hM
    have HcN := Lib.hid hcN
    clear h hM hcN
    go_wp2
    go_ret2
    refine ⟨?_, hb⟩
    have e1 : wrap64 (IntKind.u64.wrap (((T : Nat) : Int) - 1)) = ((T : Nat) : Int) - 1 := by
      have a := HT2.out
      have b := HT1.out
      rw [wrap64_is, IntKind.wrap_u64]; omega
    exact says_over (by simp [Pl.fitO, HcN.out]) (e1.trans (by simp [Pl.fitV, HcN.out]))


set_option maxHeartbeats 1000000 in
theorem parseInt_neg (s s1 : ByteArray) (N b z : Nat) (w : World) (hb2 : 2 ≤ b) (hb36 : b ≤ 36) (hz1 : 2 ≤ z) (hz64 : z ≤ 64) (hN : N < 2 ^ 64) (hs0 : 0 < s.size) (hs1 : s.extract 1 s.size = s1) (hs : (s[0].toNat : Int) = 45)
    (hl : Pl.IsDg b N s1.data.toList) (T : Nat) (hTd : T = 2 ^ (z - 1)) :
    Calls Tryd.prog 16 #[.string s, .int .i64 b, .int .i64 z] w fun e w' => IntSays true N T e ∧ Below w.heap.size w w' := by
  have H := Lib.hid (parseUint_any s1 N b z w hb2 hb36 (by omega) hz64 hN hl)
  have hne := not_empty s hs0
  have h0 : ((s[0].toNat : Int) == 43) = false := beq_eq_false_iff_ne.2 (by omega)
  have h1 : ((s[0].toNat : Int) == 45) = true := beq_iff_eq.2 hs
  have hz0 : ((z : Int) == 0) = false := beq_eq_false_iff_ne.2 (by omega)
  have hnq := neq_err
  have hT : IntKind.u64.wrap (2 ^ (z - 1)) = (T : Int) := by rw [hTd]; exact half_at z (by omega) hz64
  have HZ : Hid (2 ^ z = 2 * T) := Lib.hid (by rw [hTd]; exact Pl.two_half z (by omega))
  have HT2 : Hid (T ≤ 2 ^ 63) := Lib.hid (by rw [hTd]; exact Pl.half_le z hz64)
  have HT1 : Hid (1 ≤ T) := Lib.hid (by rw [hTd]; exact Nat.one_le_two_pow)
  clear hl hTd hs
  go_enter Tryd.func16, Tryd.ntmps16
  go_wp2_with fail
  refine H.out.mono ?_
  rintro e w' ⟨h, hb⟩
  rcases h with ⟨h, rfl⟩ | ⟨h, rfl⟩
  · have HM := Lib.hid h
    clear h
    by_cases hc : T < N
    · have hcc : (T : Int) < (N : Int) := by omega
      go_wp2
      go_ret2
      refine ⟨?_, hb⟩
      have e1 : wrap64 (-wrap64 (T : Int)) = -(T : Int) := by
        have a := HT2.out
        have b := HT1.out
        rw [wrap64_is, wrap64_is]; omega
      exact says_over (by simp [Pl.fitO, hc]) (e1.trans (by simp [Pl.fitV, hc]))
    · have hcc : ¬ (T : Int) < (N : Int) := by omega
      go_wp2
      go_ret2
      refine ⟨?_, hb⟩
      have e1 : wrap64 (-wrap64 (N : Int)) = -(N : Int) := by
        have a := HT2.out
        rw [wrap64_is, wrap64_is]; omega
      exact says_fits (by simp [Pl.fitO]; omega) (e1.trans (by simp only [Pl.fitV, if_neg hc]))
  · have hM : T ≤ 2 ^ z - 1 := by have a := HZ.out; have b := HT1.out; omega
    have hcN : T < N := by omega
    by_cases hTM : T < 2 ^ z - 1
    · have hcc : (T : Int) < ((2 ^ z - 1 : Nat) : Int) := Int.ofNat_lt.2 hTM
      have HcN := Lib.hid hcN
      clear h hM hcN hTM
      go_wp2
      go_ret2
      refine ⟨?_, hb⟩
      have e1 : wrap64 (-wrap64 (T : Int)) = -(T : Int) := by
        have a := HT2.out
        have b := HT1.out
        rw [wrap64_is, wrap64_is]; omega
      exact says_over (by simp [Pl.fitO, HcN.out]) (e1.trans (by simp [Pl.fitV, HcN.out]))
    · exfalso
      have a := HZ.out
      have b := HT1.out
      have : 2 ^ 2 ≤ 2 ^ z := Nat.pow_le_pow_right (by omega) hz1
      omega

/-- What ParseWhole answers. -/
def WholeSays (neg : Bool) (N T : Nat) (e : Ending) : Prop :=
  e = .returned (.tuple #[.int .i64 (Pl.fitV neg N T), .int .i64 (if Pl.fitO neg N T = true then 2 else 0)])

set_option maxHeartbeats 1000000 in
theorem parseWhole_of (s : ByteArray) (neg : Bool) (N T : Nat) (b z : Int) (w : World)
    (h : Calls Tryd.prog 16 #[.string s, .int .i64 b, .int .i64 z] w fun e w' => IntSays neg N T e ∧ Below w.heap.size w w') :
    Calls Tryd.prog 10 #[.string s, .int .i64 b, .int .i64 z] w fun e w' => WholeSays neg N T e ∧ Below w.heap.size w w' := by
  have H := Lib.hid h
  clear h
  go_enter Tryd.func10, Tryd.ntmps10
  go_wp2_with fail
  refine H.out.mono ?_
  rintro e w' ⟨h, hb⟩
  unfold IntSays at h
  generalize hV : Pl.fitV neg N T = V at h
  cases ho : Pl.fitO neg N T
  · rw [ho] at h
    simp only [Bool.false_eq_true, if_false] at h
    subst h
    have HO := Lib.hid ho
    have HV := Lib.hid hV
    clear ho hV
    go_wp2_with fail
    refine (kind_nil _).mono ?_
    rintro e w2 ⟨rfl, rfl⟩
    go_wp2_with fail
    go_ret2
    exact ⟨by unfold WholeSays; rw [HO.out, HV.out]; rfl, hb⟩
  · rw [ho] at h
    simp only [if_true] at h
    subst h
    have HO := Lib.hid ho
    have HV := Lib.hid hV
    clear ho hV
    go_wp2_with fail
    refine (kind_range _).mono ?_
    rintro e w2 ⟨rfl, rfl⟩
    go_wp2_with fail
    go_ret2
    exact ⟨by unfold WholeSays; rw [HO.out, HV.out]; rfl, hb⟩

end Go.Proofs.YtfbbileojddioaaDoor
