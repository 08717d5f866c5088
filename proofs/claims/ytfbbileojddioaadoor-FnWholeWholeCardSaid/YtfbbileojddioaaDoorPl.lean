/- Plain facts on digits to a base: no program in sight. -/
namespace Go.Proofs.YtfbbileojddioaaDoor.Pl

/-- The sign of a digit's value. -/
def ch (d : Nat) : UInt8 := if d < 10 then UInt8.ofNat (48 + d) else UInt8.ofNat (87 + d)

/-- l is n's digits to the base b: no zeros ahead of them, but for zero itself. -/
def IsDg (b n : Nat) (l : List UInt8) : Prop :=
  1 ≤ l.length ∧ n < b ^ l.length ∧ (l.length = 1 ∨ b ^ (l.length - 1) ≤ n) ∧
    ∀ j, j < l.length → l.getD j 0 = ch (n / b ^ (l.length - 1 - j) % b)

theorem IsDg.len {b n : Nat} {l l' : List UInt8} (hb : 2 ≤ b) (h : IsDg b n l) (h' : IsDg b n l') : l.length = l'.length := by
  obtain ⟨h1, h2, h3, _⟩ := h
  obtain ⟨k1, k2, k3, _⟩ := h'
  rcases Nat.lt_trichotomy l.length l'.length with h | h | h
  · exfalso
    rcases k3 with k3 | k3
    · omega
    · have : b ^ l.length ≤ b ^ (l'.length - 1) := Nat.pow_le_pow_right (by omega) (by omega)
      omega
  · exact h
  · exfalso
    rcases h3 with h3 | h3
    · omega
    · have : b ^ l'.length ≤ b ^ (l.length - 1) := Nat.pow_le_pow_right (by omega) (by omega)
      omega

theorem IsDg.unique {b n : Nat} {l l' : List UInt8} (hb : 2 ≤ b) (h : IsDg b n l) (h' : IsDg b n l') : l = l' := by
  have hl := h.len hb h'
  obtain ⟨_, _, _, h4⟩ := h
  obtain ⟨_, _, _, k4⟩ := h'
  apply List.ext_getElem hl
  intro j hj hj'
  have e1 := h4 j hj
  have e2 := k4 j hj'
  rw [hl] at e1
  rw [List.getD_eq_getElem?_getD, List.getElem?_eq_getElem hj] at e1
  rw [List.getD_eq_getElem?_getD, List.getElem?_eq_getElem hj'] at e2
  simp only [Option.getD_some] at e1 e2
  rw [e1, e2]

/-- What a writer from the last digit on has at hand: m digits of N are written, n is left. -/
def Part (b N n : Nat) (l : List UInt8) : Prop :=
  n = N / b ^ l.length ∧ (l.length = 0 ∨ b ^ (l.length - 1) ≤ N ∨ l.length = 1) ∧ ∀ j, j < l.length → l.getD j 0 = ch (N / b ^ (l.length - 1 - j) % b)

theorem Part.start (b N : Nat) : Part b N N [] := by
  refine ⟨by simp, .inl rfl, fun j hj => by simp at hj⟩

theorem Part.step {b N n : Nat} {l : List UInt8} (hb : 2 ≤ b) (h : Part b N n l) (hn : l = [] ∨ 0 < n) : Part b N (n / b) (ch (n % b) :: l) := by
  obtain ⟨h1, _, h3⟩ := h
  refine ⟨?_, ?_, ?_⟩
  · rw [h1, List.length_cons, Nat.pow_succ, Nat.div_div_eq_div_mul]
  · rcases hn with hn | hn
    · right; right; simp [hn]
    · right; left
      rw [List.length_cons, Nat.add_sub_cancel]
      rw [h1] at hn
      have hp : 0 < b ^ l.length := Nat.pow_pos (by omega)
      have := (Nat.le_div_iff_mul_le hp).1 hn
      omega
  · intro j hj
    cases j with
    | zero =>
      simp only [List.getD_cons_zero, List.length_cons, Nat.add_sub_cancel, Nat.sub_zero]
      rw [← h1]
    | succ j =>
      simp only [List.getD_cons_succ]
      rw [h3 j (by simpa using hj)]
      simp only [List.length_cons]
      congr 4
      omega

theorem Part.done {b N : Nat} {l : List UInt8} (h : Part b N 0 l) (hb : 2 ≤ b) (hl : l ≠ []) : IsDg b N l := by
  obtain ⟨h1, h2, h3⟩ := h
  have hlen : 1 ≤ l.length := by cases l with
    | nil => exact absurd rfl hl
    | cons _ _ => simp
  refine ⟨hlen, ?_, by omega, h3⟩
  have hp : 0 < b ^ l.length := Nat.pow_pos (by omega)
  have := (Nat.div_eq_zero_iff.1 h1.symm)
  omega

/-- Reading: what the first k digits tell. -/
theorem IsDg.value (b n : Nat) (l : List UInt8) (k : Nat) (hk : k < l.length) :
    n / b ^ (l.length - (k + 1)) = n / b ^ (l.length - k) * b + n / b ^ (l.length - 1 - k) % b := by
  have e1 : l.length - (k + 1) = l.length - 1 - k := by omega
  have e2 : l.length - k = (l.length - 1 - k) + 1 := by omega
  rw [e1, e2, Nat.pow_succ, ← Nat.div_div_eq_div_mul]
  generalize n / b ^ (l.length - 1 - k) = x
  have := Nat.div_add_mod x b
  rw [Nat.mul_comm] at this
  omega

theorem Part.short {b N n : Nat} {l : List UInt8} (hb : 2 ≤ b) (hN : N < 2 ^ 64) (h : Part b N n l) (hn : l = [] ∨ 0 < n) : l.length ≤ 63 := by
  rcases hn with hn | hn
  · simp [hn]
  · obtain ⟨h1, _, _⟩ := h
    rw [h1] at hn
    have hp : 0 < b ^ l.length := Nat.pow_pos (by omega)
    have h2 := (Nat.le_div_iff_mul_le hp).1 hn
    rcases Nat.lt_or_ge 63 l.length with h | h
    · have h3 : 2 ^ 64 ≤ 2 ^ l.length := Nat.pow_le_pow_right (by omega) (by omega)
      have h4 : 2 ^ l.length ≤ b ^ l.length := Nat.pow_le_pow_left hb _
      omega
    · exact h

theorem IsDg.short {b N : Nat} {l : List UInt8} (hb : 2 ≤ b) (hN : N < 2 ^ 64) (h : IsDg b N l) : l.length ≤ 64 := by
  obtain ⟨_, _, h3, _⟩ := h
  rcases h3 with h3 | h3
  · omega
  · rcases Nat.lt_or_ge 64 l.length with h | h
    · have h4 : 2 ^ 64 ≤ 2 ^ (l.length - 1) := Nat.pow_le_pow_right (by omega) (by omega)
      have h5 : 2 ^ (l.length - 1) ≤ b ^ (l.length - 1) := Nat.pow_le_pow_left hb _
      omega
    · exact h

def alphabet : ByteArray := ⟨#[48, 49, 50, 51, 52, 53, 54, 55, 56, 57, 97, 98, 99, 100, 101, 102, 103, 104, 105, 106, 107, 108, 109, 110, 111, 112, 113, 114, 115, 116, 117, 118, 119, 120, 121, 122]⟩

theorem alphabet_at : ∀ d, d < 36 → ((alphabet.extract d 36).extract 0 1).data.toList = [ch d] := by decide +kernel

theorem cut_digit (d : Nat) (hd : d < 36) (S : ByteArray) : (((alphabet.extract d 36).extract 0 1) ++ S).data.toList = ch d :: S.data.toList := by
  rw [ByteArray.data_append, Array.toList_append, alphabet_at d hd]
  rfl

theorem ch_small : ∀ d, d < 10 → (ch d).toNat = 48 + d := by decide +kernel
theorem ch_large : ∀ d, d < 36 → 10 ≤ d → (ch d).toNat = 87 + d := by decide +kernel

/-- What the next digit makes of what was read. -/
theorem prefix_le (b N L k : Nat) : N / b ^ (L - k) ≤ N := Nat.div_le_self _ _

theorem cut_lt {b p : Nat} (hb : 2 ≤ b) (h : p * b < 2 ^ 64) : p < 18446744073709551615 / b + 1 := by
  have : p ≤ 18446744073709551615 / b := (Nat.le_div_iff_mul_le (by omega)).2 (by omega)
  omega

/-- What the first k of L digits tell. -/
def pre (b N L k : Nat) : Nat := N / b ^ (L - k)

theorem pre_zero {b N : Nat} {l : List UInt8} (h : IsDg b N l) : pre b N l.length 0 = 0 := Nat.div_eq_of_lt h.2.1
theorem pre_full (b N L : Nat) : pre b N L L = N := by simp [pre]
theorem pre_le (b N L k : Nat) : pre b N L k ≤ N := Nat.div_le_self _ _
theorem pre_step (b N : Nat) (l : List UInt8) (k : Nat) (hk : k < l.length) : pre b N l.length (k + 1) = pre b N l.length k * b + N / b ^ (l.length - 1 - k) % b :=
  IsDg.value b N l k hk

/-- A whole number held at the ends of its size; T: half of the size's span. -/
def fitV (neg : Bool) (N T : Nat) : Int :=
  match neg with
  | true => if T < N then -(T : Int) else -(N : Int)
  | false => if T ≤ N then (T : Int) - 1 else (N : Int)

/-- Whether it is too great for its size. -/
def fitO (neg : Bool) (N T : Nat) : Bool :=
  match neg with
  | true => decide (T < N)
  | false => decide (T ≤ N)

theorem two_half (z : Nat) (hz : 1 ≤ z) : 2 ^ z = 2 * 2 ^ (z - 1) := by
  obtain ⟨y, rfl⟩ : ∃ y, z = y + 1 := ⟨z - 1, by omega⟩
  rw [Nat.pow_succ, Nat.add_sub_cancel]; omega

theorem half_le (z : Nat) (hz : z ≤ 64) : 2 ^ (z - 1) ≤ 2 ^ 63 := Nat.pow_le_pow_right (by omega) (by omega)

theorem ch_first {b n : Nat} {l : List UInt8} (hb : 2 ≤ b) (hb36 : b ≤ 36) (h : IsDg b n l) : (l.getD 0 0).toNat ≠ 43 ∧ (l.getD 0 0).toNat ≠ 45 := by
  obtain ⟨h1, _, _, h4⟩ := h
  rw [h4 0 (by omega)]
  have hd : n / b ^ (l.length - 1 - 0) % b < b := Nat.mod_lt _ (by omega)
  generalize n / b ^ (l.length - 1 - 0) % b = d at hd
  by_cases h10 : d < 10
  · rw [ch_small d h10]; omega
  · rw [ch_large d (by omega) (by omega)]; omega

end Go.Proofs.YtfbbileojddioaaDoor.Pl
