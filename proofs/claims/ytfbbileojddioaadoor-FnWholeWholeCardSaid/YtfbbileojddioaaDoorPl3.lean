/- The state of the writer of decimal digits, two at a time. -/
import Derived.Test.YtfbbileojddioaaDoorF
namespace Go.Proofs.YtfbbileojddioaaDoor
open Go.RowKit

/-- x is left; the places from n on are written. -/
def FT (U nd B off len : Nat) (W : World) (x n : Nat) : Prop :=
  ∃ L : List UInt8, L.length = len ∧ off + nd ≤ len ∧ n ≤ nd ∧ Owns W B L ∧ x = U / 10 ^ (nd - n) ∧ ∀ i, n ≤ i → i < nd → (L.getD (off + i) 0).toNat = 48 + U / 10 ^ (nd - 1 - i) % 10

theorem FT.cells {U nd B off len : Nat} {W : World} {x n : Nat} (h : FT U nd B off len W x n) (k : Nat) (hk : k < n) : (∃ v, W.cell? ⟨B, off + k, none⟩ = some v) ∧ W.frozen? ⟨B, off + k, none⟩ = false := by
  obtain ⟨L, h1, h2, h3, ho, _⟩ := h
  exact ⟨⟨_, (ho (off + k) (by omega)).1⟩, (ho (off + k) (by omega)).2⟩

theorem FT.one {U nd B off len : Nat} {W : World} {x n : Nat} (h : FT U nd B off len W x (n + 1)) (v : Int) (hv : v = ((48 + x % 10 : Nat) : Int)) :
    FT U nd B off len (W.setCell ⟨B, off + n, none⟩ (.int .u8 v)) (x / 10) n := by
  obtain ⟨L, h1, h2, h3, ho, hx, hd⟩ := h
  refine ⟨L.set (off + n) (UInt8.ofNat (48 + x % 10)), by simp [h1], h2, by omega, ho.set (by omega) _ _ ?_, ?_, ?_⟩
  · rw [hv]
    have : 48 + x % 10 < 256 := by omega
    simp only [UInt8.toNat_ofNat']
    rw [Nat.mod_eq_of_lt this]
  · rw [hx, Nat.div_div_eq_div_mul, ← Nat.pow_succ]
    congr 2; omega
  · intro i hi hi2
    by_cases e : i = n
    · subst e
      have hl : off + i < (L.set (off + i) (UInt8.ofNat (48 + x % 10))).length := by simp; omega
      rw [List.getD_eq_getElem?_getD, List.getElem?_eq_getElem hl]
      simp only [List.getElem_set_self, Option.getD_some, UInt8.toNat_ofNat']
      rw [Nat.mod_eq_of_lt (by omega), hx, show nd - (i + 1) = nd - 1 - i from by omega]
    · have := hd i (by omega) hi2
      rw [List.getD_eq_getElem?_getD, List.getElem?_set_ne (by omega), ← List.getD_eq_getElem?_getD]
      exact this

theorem FT.pair {U nd B off len : Nat} {W : World} {x n : Nat} (h : FT U nd B off len W x (n + 2)) (p : Nat) (hp : p = x % 100) :
    FT U nd B off len ((W.setCell ⟨B, off + (n + 1), none⟩ (.int .u8 ((48 + p % 10 : Nat) : Int))).setCell ⟨B, off + n, none⟩ (.int .u8 ((48 + p / 10 : Nat) : Int))) (x / 100) n := by
  have a := h.one ((48 + p % 10 : Nat) : Int) (by subst hp; congr 2; omega)
  have b := a.one ((48 + p / 10 : Nat) : Int) (by subst hp; congr 2; omega)
  rw [show x / 10 / 10 = x / 100 from by omega] at b
  exact b

theorem FT.pair' {U nd B off len : Nat} {W : World} {x n : Nat} (h : FT U nd B off len W x (n + 2)) (p : Nat) (hp : p = x % 100) :
    FT U nd B off len ((W.setCell ⟨B, off + n, none⟩ (.int .u8 ((48 + p / 10 : Nat) : Int))).setCell ⟨B, off + (n + 1), none⟩ (.int .u8 ((48 + p % 10 : Nat) : Int))) (x / 100) n := by
  obtain ⟨L, h1, h2, h3, ho, hx, hd⟩ := h.pair p hp
  refine ⟨L, h1, h2, h3, ?_, hx, hd⟩
  intro j hj
  have a := ho j hj
  obtain ⟨⟨v1, hc1⟩, hf1⟩ := h.cells (n + 1) (by omega)
  obtain ⟨⟨v0, hc0⟩, hf0⟩ := h.cells n (by omega)
  refine ⟨?_, by rw [World.frozen?_setCell, World.frozen?_setCell]; have := a.2; rw [World.frozen?_setCell, World.frozen?_setCell] at this; exact this⟩
  rw [← a.1]
  by_cases e1 : j = off + (n + 1)
  · subst e1
    rw [World.cell?_setCell_same _ _ _ (by rw [World.cell?_setCell_other _ _ _ _ (by intro hh; injection hh; omega)]; exact hc1),
      World.cell?_setCell_other _ _ _ _ (by intro hh; injection hh; omega), World.cell?_setCell_same _ _ _ hc1]
  · by_cases e0 : j = off + n
    · subst e0
      rw [World.cell?_setCell_other _ _ _ _ (by intro hh; injection hh; omega), World.cell?_setCell_same _ _ _ hc0,
        World.cell?_setCell_same _ _ _ (by rw [World.cell?_setCell_other _ _ _ _ (by intro hh; injection hh; omega)]; exact hc0)]
    · rw [World.cell?_setCell_other _ _ _ _ (by intro hh; injection hh; omega), World.cell?_setCell_other _ _ _ _ (by intro hh; injection hh; omega),
        World.cell?_setCell_other _ _ _ _ (by intro hh; injection hh; omega), World.cell?_setCell_other _ _ _ _ (by intro hh; injection hh; omega)]
end Go.Proofs.YtfbbileojddioaaDoor
