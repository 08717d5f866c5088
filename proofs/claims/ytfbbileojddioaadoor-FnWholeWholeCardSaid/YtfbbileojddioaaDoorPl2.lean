/- Plain facts on the table of the numbers below a hundred, and on how many digits a number has. -/
import Derived.Test.YtfbbileojddioaaDoorPl
namespace Go.Proofs.YtfbbileojddioaaDoor.Pl

theorem dg_one (i : Nat) (h : i < 10) : IsDg 10 i [ch i] := by
  refine ⟨by simp, by simp; omega, .inl rfl, fun j hj => ?_⟩
  have : j = 0 := by simp at hj; exact hj
  subst this
  simp
  rw [Nat.mod_eq_of_lt h]

theorem dg_two (i : Nat) (h1 : 10 ≤ i) (h2 : i < 100) : IsDg 10 i [ch (i / 10), ch (i % 10)] := by
  refine ⟨by simp, by simp; omega, .inr (by simp; omega), fun j hj => ?_⟩
  have : j = 0 ∨ j = 1 := by simp at hj; omega
  rcases this with rfl | rfl
  · simp
    rw [Nat.mod_eq_of_lt (by omega)]
  · simp

theorem alphabet_one : ∀ i, i < 10 → (alphabet.extract i (i + 1)).data.toList = [ch i] := by decide +kernel

def smalls : ByteArray := ⟨#[48, 48, 48, 49, 48, 50, 48, 51, 48, 52, 48, 53, 48, 54, 48, 55, 48, 56, 48, 57, 49, 48, 49, 49, 49, 50, 49, 51, 49, 52, 49, 53, 49, 54, 49, 55, 49, 56, 49, 57, 50, 48, 50, 49, 50, 50, 50, 51, 50, 52, 50, 53, 50, 54, 50, 55, 50, 56, 50, 57, 51, 48, 51, 49, 51, 50, 51, 51, 51, 52, 51, 53, 51, 54, 51, 55, 51, 56, 51, 57, 52, 48, 52, 49, 52, 50, 52, 51, 52, 52, 52, 53, 52, 54, 52, 55, 52, 56, 52, 57, 53, 48, 53, 49, 53, 50, 53, 51, 53, 52, 53, 53, 53, 54, 53, 55, 53, 56, 53, 57, 54, 48, 54, 49, 54, 50, 54, 51, 54, 52, 54, 53, 54, 54, 54, 55, 54, 56, 54, 57, 55, 48, 55, 49, 55, 50, 55, 51, 55, 52, 55, 53, 55, 54, 55, 55, 55, 56, 55, 57, 56, 48, 56, 49, 56, 50, 56, 51, 56, 52, 56, 53, 56, 54, 56, 55, 56, 56, 56, 57, 57, 48, 57, 49, 57, 50, 57, 51, 57, 52, 57, 53, 57, 54, 57, 55, 57, 56, 57, 57]⟩

theorem smalls_two : ∀ i, i < 100 → (smalls.extract (i * 2) (i * 2 + 2)).data.toList = [ch (i / 10), ch (i % 10)] := by decide +kernel

theorem smalls_size : smalls.size = 200 := by decide +kernel

theorem smalls_even : ∀ i : Fin 100, (smalls.data.toList.getD (2 * i.val) 0).toNat = 48 + i.val / 10 := by decide +kernel
theorem smalls_odd : ∀ i : Fin 100, (smalls.data.toList.getD (2 * i.val + 1) 0).toNat = 48 + i.val % 10 := by decide +kernel

/-- How many digits a number of so many bits has, or one fewer. -/
def guess (L : Nat) : Nat := L * 78913 / 262144

theorem guess_ok : ∀ L : Fin 65, 1 ≤ L.val → guess L.val ≤ 19 ∧ 2 ^ L.val ≤ 10 ^ (guess L.val + 1) ∧ (guess L.val = 0 ∨ 10 ^ (guess L.val - 1) ≤ 2 ^ (L.val - 1)) := by decide +kernel

/-- How many digits d has. -/
def digitsOf (L d : Nat) : Nat := guess L + if 10 ^ guess L ≤ d then 1 else 0

theorem digitsOf_ok (L d : Nat) (h1 : 1 ≤ L) (h2 : L ≤ 64) (h3 : 2 ^ (L - 1) ≤ d) (h4 : d < 2 ^ L) :
    1 ≤ digitsOf L d ∧ digitsOf L d ≤ 20 ∧ d < 10 ^ digitsOf L d ∧ 10 ^ (digitsOf L d - 1) ≤ d := by
  have hg := guess_ok ⟨L, by omega⟩ h1
  obtain ⟨g1, g2, g3⟩ := hg
  simp only at g1 g2 g3
  unfold digitsOf
  generalize guess L = g at g1 g2 g3 ⊢
  split
  · rename_i h
    refine ⟨by omega, by omega, by omega, ?_⟩
    rw [Nat.add_sub_cancel]; exact h
  · rename_i h
    have hp : 0 < 2 ^ (L - 1) := Nat.two_pow_pos _
    have h0 : g ≠ 0 := by
      intro e; subst e; apply h; rw [Nat.pow_zero]; omega
    rcases g3 with g3 | g3
    · omega
    · rw [Nat.add_zero]
      exact ⟨by omega, by omega, by omega, by omega⟩

end Go.Proofs.YtfbbileojddioaaDoor.Pl
