/- Plain facts on a word in letters of any size. -/
import Derived.Test.YtfbbileojddioaaPlain
namespace Go.Proofs.Ytfbbileojddioaa.Pl

def cplm : List UInt8 → List UInt8 → Nat
  | a :: s, b :: p => if a = b then 1 + cplm s p else 0
  | _, _ => 0

theorem cpl_map : ∀ s p : List UInt8, cpl s p = cplm (s.map lowc) p
  | [], _ => by simp [cpl, cplm]
  | _ :: _, [] => by simp [cpl, cplm]
  | a :: s, b :: p => by simp [cpl, cplm, cpl_map s p]

theorem word_size {s : ByteArray} {w : List UInt8} (h : s.data.toList.map lowc = w) : s.size = w.length := by
  subst h; simp

theorem word_tail {s : ByteArray} {c : UInt8} {w : List UInt8} (h : s.data.toList.map lowc = c :: w) : (s.extract 1 s.size).data.toList.map lowc = w := by
  have hs : s.size = w.length + 1 := by simpa using word_size h
  have e : (s.extract 1 s.size).data.toList = s.data.toList.drop 1 := by
    rw [ByteArray.data_extract, Array.toList_extract]
    simp [List.extract]
    rw [List.take_of_length_le]
    simp
  rw [e, List.map_drop, h]
  rfl

theorem word_first {s : ByteArray} {c : UInt8} {w : List UInt8} (h : s.data.toList.map lowc = c :: w) (h0 : 0 < s.size) : lowc s[0] = c := by
  rw [← getD_of s 0 h0]
  cases hl : s.data.toList with
  | nil => rw [hl] at h; simp at h
  | cons a l => rw [hl] at h; simp at h; simpa using h.1

/-- A letter's byte, or the large letter's. -/
theorem first_letter {x : UInt8} {c : UInt8} (h : lowc x = c) : (x.toNat : Int) = c.toNat ∨ (x.toNat : Int) = c.toNat - 32 := by
  have := lowc_toNat x
  rw [h] at this
  split at this <;> omega

theorem first_sign {x : UInt8} {c : UInt8} (h : lowc x = c) (hc : c.toNat < 65) : (x.toNat : Int) = c.toNat := by
  have := lowc_toNat x
  rw [h] at this
  split at this <;> omega

end Go.Proofs.Ytfbbileojddioaa.Pl
