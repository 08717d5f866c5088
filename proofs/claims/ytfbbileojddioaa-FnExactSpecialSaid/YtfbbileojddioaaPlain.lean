/- Plain facts for FnExactSpecial: letters of any size, common prefixes. No program in sight. -/
namespace Go.Proofs.Ytfbbileojddioaa.Pl

/-- A byte made small, as the Go text does it. -/
def lowc (c : UInt8) : UInt8 := if 65 ≤ c.toNat ∧ c.toNat ≤ 90 then c + 32 else c

theorem lowc_toNat (c : UInt8) : (lowc c).toNat = if 65 ≤ c.toNat ∧ c.toNat ≤ 90 then c.toNat + 32 else c.toNat := by
  unfold lowc
  split
  · rename_i h; rw [UInt8.toNat_add]; show (c.toNat + 32) % 256 = _; omega
  · rfl

/-- How long the common prefix is, the first text's letters made small. -/
def cpl : List UInt8 → List UInt8 → Nat
  | a :: s, b :: p => if lowc a = b then 1 + cpl s p else 0
  | _, _ => 0

theorem cpl_le : ∀ s p : List UInt8, cpl s p ≤ s.length ∧ cpl s p ≤ p.length
  | [], _ => by simp [cpl]
  | _ :: _, [] => by simp [cpl]
  | a :: s, b :: p => by
    have := cpl_le s p
    simp only [cpl, List.length_cons]
    split <;> omega

/-- Matched for k places, and then at an end or at a place that does not match. -/
theorem cpl_eq : ∀ (s p : List UInt8) (k : Nat), k ≤ s.length → k ≤ p.length →
    (∀ j, j < k → lowc (s.getD j 0) = p.getD j 0) →
    (k = s.length ∨ k = p.length ∨ lowc (s.getD k 0) ≠ p.getD k 0) → cpl s p = k
  | [], _, k, h1, _, _, _ => by simp at h1; simp [cpl, h1]
  | _ :: _, [], k, _, h2, _, _ => by simp at h2; simp [cpl, h2]
  | a :: s, b :: p, 0, _, _, _, h => by
    rcases h with h | h | h
    · simp at h
    · simp at h
    · have h' : lowc a ≠ b := by simpa using h
      simp [cpl, h']
  | a :: s, b :: p, k + 1, h1, h2, hm, h => by
    have h0 : lowc a = b := by simpa using hm 0 (by omega)
    have ih := cpl_eq s p k (by simpa using h1) (by simpa using h2)
      (fun j hj => by simpa using hm (j + 1) (by omega)) (by
        rcases h with h | h | h
        · left; simpa using h
        · right; left; simpa using h
        · right; right; simpa using h)
    simp [cpl, h0, ih]; omega

theorem getD_of (s : ByteArray) (k : Nat) (h : k < s.size) : s.data.toList.getD k 0 = s[k] := by
  have h' : k < s.data.toList.length := by simpa using h
  rw [List.getD_eq_getElem?_getD, List.getElem?_eq_getElem h']; rfl

theorem len_of (s : ByteArray) : s.data.toList.length = s.size := by simp

theorem cpl_stop (s p : ByteArray) (k : Nat) (hks : k < s.size) (hkp : k < p.size)
    (hm : ∀ j, j < k → lowc (s.data.toList.getD j 0) = p.data.toList.getD j 0) (h : (lowc s[k]).toNat ≠ p[k].toNat) :
    cpl s.data.toList p.data.toList = k :=
  cpl_eq _ _ k (by rw [len_of]; omega) (by rw [len_of]; omega) hm (by
    right; right; rw [getD_of s k hks, getD_of p k hkp]; intro he; exact h (by rw [he]))

theorem cpl_end (s p : ByteArray) (k : Nat) (hks : k ≤ s.size) (hkp : k ≤ p.size) (he : k = s.size ∨ k = p.size)
    (hm : ∀ j, j < k → lowc (s.data.toList.getD j 0) = p.data.toList.getD j 0) :
    cpl s.data.toList p.data.toList = k :=
  cpl_eq _ _ k (by rw [len_of]; omega) (by rw [len_of]; omega) hm (by rw [len_of, len_of]; omega)

theorem cpl_more (s p : ByteArray) (k : Nat) (hks : k < s.size) (hkp : k < p.size)
    (hm : ∀ j, j < k → lowc (s.data.toList.getD j 0) = p.data.toList.getD j 0) (h : (lowc s[k]).toNat = p[k].toNat) :
    ∀ j, j < k + 1 → lowc (s.data.toList.getD j 0) = p.data.toList.getD j 0 := by
  intro j hj
  by_cases hjk : j < k
  · exact hm j hjk
  · obtain rfl : j = k := by omega
    rw [getD_of s j hks, getD_of p j hkp]
    exact UInt8.toNat_inj.1 h

end Go.Proofs.Ytfbbileojddioaa.Pl
