/- The bytes of a row of the call's own, said of a list. -/
import Derived.Test.YtfbbileojddioaaT6
import Derived.Test.YtfbbileojddioaaT7
namespace Go.Proofs.Ytfbbileojddioaa
open Go.RowKit

/-- Block B's first cells are the bytes l, and may be written. -/
def Owns (W : World) (B : Nat) (l : List UInt8) : Prop :=
  ∀ j, j < l.length → W.cell? ⟨B, j, none⟩ = some (.int .u8 ((l.getD j 0).toNat : Int)) ∧ W.frozen? ⟨B, j, none⟩ = false

/-- Block F's five cells. -/
def Five (W : World) (F : Nat) (v0 v1 v2 v3 v4 : Value) : Prop :=
  W.cell? ⟨F, 0, none⟩ = some v0 ∧ W.cell? ⟨F, 1, none⟩ = some v1 ∧ W.cell? ⟨F, 2, none⟩ = some v2 ∧ W.cell? ⟨F, 3, none⟩ = some v3 ∧ W.cell? ⟨F, 4, none⟩ = some v4

theorem Owns.drew {W : World} {B : Nat} {l : List UInt8} (h : Owns W B l) : Owns W.drew B l := h
theorem Five.drew {W : World} {F : Nat} {v0 v1 v2 v3 v4 : Value} (h : Five W F v0 v1 v2 v3 v4) : Five W.drew F v0 v1 v2 v3 v4 := h

theorem Owns.below {W W1 : World} {B B0 : Nat} {l : List UInt8} (h : Owns W B l) (hb : Below B0 W W1) (hB : B < B0) : Owns W1 B l :=
  fun j hj => ⟨(hb.cell (p := ⟨B, j, none⟩) hB).trans (h j hj).1, (hb.frozen (p := ⟨B, j, none⟩) hB).trans (h j hj).2⟩

theorem Owns.set {W : World} {B k : Nat} {l : List UInt8} (h : Owns W B l) (hk : k < l.length) (u : UInt8) (v : Int) (hv : v = (u.toNat : Int)) :
    Owns (W.setCell ⟨B, k, none⟩ (.int .u8 v)) B (l.set k u) := by
  intro j hj
  rw [List.length_set] at hj
  refine ⟨?_, by rw [World.frozen?_setCell]; exact (h j hj).2⟩
  subst hv
  by_cases e : j = k
  · subst e
    rw [World.cell?_setCell_same _ _ _ (h j hj).1]
    simp [List.getD_eq_getElem?_getD, hj]
  · rw [World.cell?_setCell_other _ _ _ _ (by intro hh; injection hh; omega), (h j hj).1]
    simp [List.getD_eq_getElem?_getD, List.getElem?_set_ne (Ne.symm e)]

theorem Five.set {W : World} {F B k : Nat} {v0 v1 v2 v3 v4 v : Value} (h : Five W F v0 v1 v2 v3 v4) (hF : F ≠ B) :
    Five (W.setCell ⟨B, k, none⟩ v) F v0 v1 v2 v3 v4 := by
  obtain ⟨h0, h1, h2, h3, h4⟩ := h
  refine ⟨?_, ?_, ?_, ?_, ?_⟩ <;> rw [World.cell?_setCell_other _ _ _ _ (by intro hh; injection hh; omega)] <;> assumption

/-- A byte made large stays the same letter. -/
theorem lowc_large (c : UInt8) (h1 : 97 ≤ c.toNat) (h2 : c.toNat ≤ 122) : Pl.lowc (c - 32) = Pl.lowc c ∧ ((c - 32).toNat : Int) = (c.toNat : Int) - 32 := by
  have e : (c - 32).toNat = c.toNat - 32 := by
    rw [UInt8.toNat_sub]; show (2 ^ 8 - 32 + c.toNat) % 2 ^ 8 = _; omega
  refine ⟨?_, by rw [e]; omega⟩
  apply UInt8.toNat_inj.1
  rw [Pl.lowc_toNat, Pl.lowc_toNat, e]
  split <;> split <;> omega

theorem map_set_same {l : List UInt8} {k : Nat} {u : UInt8} (h : Pl.lowc u = Pl.lowc (l.getD k 0)) : (l.set k u).map Pl.lowc = l.map Pl.lowc := by
  rw [List.map_set]
  apply List.ext_getElem?
  intro i
  by_cases e : i = k
  · subst e
    by_cases hi : i < l.length
    · simp [hi, h, List.getD_eq_getElem?_getD]
    · simp [hi]
  · simp [List.getElem?_set_ne (Ne.symm e)]

def bRow (s : ByteArray) (cap : Nat) : Obj := .cells (bytesRow s cap) 5 ((bytesRow s cap).size, (bytesRow s cap).size + 1)

theorem conv_bytes (s : ByteArray) (w : World) : (convert 9 35 (.string s)).run Try.prog w = .ok (.slice (some ⟨w.heap.size, 0, none⟩) s.size (grownCap w s.size 0 5)) (w.drew.alloc (bRow s (grownCap w s.size 0 5))) :=
  run_bytes_of_string w 9 35 5 s Try.underlying9 Try.underlying35 Try.underlying5

theorem conv_back (W : World) (B : Nat) (cap : Nat) (l : List UInt8) (h : Owns W B l) :
    (convert 35 9 (.slice (some ⟨B, 0, none⟩) l.length cap)).run Try.prog W = .ok (.string ⟨l.toArray⟩) W :=
  run_convert_bytes_back W 35 9 5 ⟨B, 0, none⟩ cap l Try.underlying35 Try.underlying5 Try.underlying9 (fun j hj => by
    have e : (Addr.add ⟨B, 0, none⟩ j) = ⟨B, j, none⟩ := by
      unfold Addr.add; split
      · rename_i h0; subst h0; rfl
      · simp
    rw [e, (h j hj).1]
    simp [List.getD_eq_getElem?_getD, hj])

theorem conv_back' (W : World) (B : Nat) (n : Nat) (l : List UInt8) (h : Owns W B l) (hn : l.length = n) (cap : Nat) :
    (convert 35 9 (.slice (some ⟨B, 0, none⟩) n cap)).run Try.prog W = .ok (.string ⟨l.toArray⟩) W := by
  subst hn; exact conv_back W B cap l h

theorem owns_new (w : World) (s : ByteArray) (cap : Nat) : Owns (w.alloc (bRow s cap)) w.heap.size s.data.toList := by
  intro j hj
  have hj' : j < s.data.size := by simpa using hj
  refine ⟨?_, ?_⟩
  · unfold bRow
    rw [World.cell?_alloc_mark]
    unfold bytesRow
    rw [Array.getElem?_append_left (by simpa using hj')]
    simp [List.getD_eq_getElem?_getD, Array.getElem?_eq_getElem hj']
  · unfold bRow
    rw [World.frozen?_alloc_mark]
    have : j < (bytesRow s cap).size := by
      unfold bytesRow
      rw [Array.size_append, Array.size_map]
      omega
    have h2 : ¬ (bytesRow s cap).size ≤ j := by omega
    simp [h2]

theorem first_byte {l : List UInt8} {w : List UInt8} {b : Bool} (h : l.map Pl.lowc = w) (hb : w.map (fun c => c.toNat == 45) = (b :: (w.map (fun c => c.toNat == 45)).tail)) :
    (((l.getD 0 0).toNat : Int) == 45) = b := by
  subst h
  cases l with
  | nil => simp at hb
  | cons c l =>
    have h1 : ((Pl.lowc c).toNat == 45) = b := by simpa using hb
    have h2 := Pl.lowc_toNat c
    have e : (((c :: l).getD 0 0).toNat : Int) = (c.toNat : Int) := by simp
    rw [e, ← h1, h2]
    by_cases hc : c.toNat = 45
    · simp [hc]
    · have : ¬ ((c.toNat : Int) = 45) := by omega
      split
      · rename_i h3
        rw [beq_eq_false_iff_ne.2 this, beq_eq_false_iff_ne.2 (by omega)]
      · rw [beq_eq_false_iff_ne.2 this, beq_eq_false_iff_ne.2 hc]

theorem owns_at (w : World) (s : ByteArray) (cap B : Nat) (l : List UInt8) (hB : w.heap.size = B) (hl : s.data.toList = l) : Owns (w.alloc (bRow s cap)).drew B l := by
  subst hB; subst hl; exact (owns_new w s cap).drew

theorem five_at (w : World) (v0 v1 v2 v3 v4 : Value) (t : TypeId) (o1 o2 : Obj) : Five (((w.alloc (.cells #[v0, v1, v2, v3, v4] t)).alloc o1).alloc o2).drew w.heap.size v0 v1 v2 v3 v4 := by
  refine ⟨?_, ?_, ?_, ?_, ?_⟩ <;>
    (rw [World.cell?_drew, World.cell?_alloc_lt _ _ _ (by simp; omega), World.cell?_alloc_lt _ _ _ (by simp), World.cell?_alloc_mark]; rfl)

end Go.Proofs.Ytfbbileojddioaa
