/- The bytes of a row of the call's own, said of a list. -/
import Derived.Test.YtfbbileojddioaaDoorA
namespace Go.Proofs.YtfbbileojddioaaDoor
open Go.RowKit

/-- Block B's first cells are the bytes l, and may be written. -/
def Owns (W : World) (B : Nat) (l : List UInt8) : Prop :=
  ∀ j, j < l.length → W.cell? ⟨B, j, none⟩ = some (.int .u8 ((l.getD j 0).toNat : Int)) ∧ W.frozen? ⟨B, j, none⟩ = false

theorem Owns.drew {W : World} {B : Nat} {l : List UInt8} (h : Owns W B l) : Owns W.drew B l := h
theorem Owns.below {W W1 : World} {B B0 : Nat} {l : List UInt8} (h : Owns W B l) (hb : Below B0 W W1) (hB : B < B0) : Owns W1 B l :=
  fun j hj => ⟨(hb.cell (p := ⟨B, j, none⟩) hB).trans (h j hj).1, (hb.frozen (p := ⟨B, j, none⟩) hB).trans (h j hj).2⟩

theorem Owns.set {W : World} {B k : Nat} {l : List UInt8} (h : Owns W B l) (hk : k < l.length) (u : UInt8) (v : Int) (hv : v = (u.toNat : Int)) :
    Owns (W.setCell ⟨B, k, none⟩ (.int .u8 v)) B (l.set k u) := by
  intro j hj
  rw [List.length_set] at hj
  refine ⟨?_, by rw [World.frozen?_setCell]; exact (h j hj).2⟩
  subst hv
  by_cases e : j = k
  · subst e
    rw [World.cell?_setCell_same _ _ _ (h j hj).1]
    simp [List.getD_eq_getElem?_getD, hj]
  · rw [World.cell?_setCell_other _ _ _ _ (by intro hh; injection hh; omega), (h j hj).1]
    simp [List.getD_eq_getElem?_getD, List.getElem?_set_ne (Ne.symm e)]

def bRow (s : ByteArray) (cap : Nat) : Obj := .cells (bytesRow s cap) 5 ((bytesRow s cap).size, (bytesRow s cap).size + 1)

theorem conv_bytes (s : ByteArray) (w : World) : (convert 9 46 (.string s)).run Tryd.prog w = .ok (.slice (some ⟨w.heap.size, 0, none⟩) s.size (grownCap w s.size 0 5)) (w.drew.alloc (bRow s (grownCap w s.size 0 5))) :=
  run_bytes_of_string w 9 46 5 s Tryd.underlying9 Tryd.underlying46 Tryd.underlying5

theorem conv_back (W : World) (B : Nat) (cap : Nat) (l : List UInt8) (h : Owns W B l) :
    (convert 46 9 (.slice (some ⟨B, 0, none⟩) l.length cap)).run Tryd.prog W = .ok (.string ⟨l.toArray⟩) W :=
  run_convert_bytes_back W 46 9 5 ⟨B, 0, none⟩ cap l Tryd.underlying46 Tryd.underlying5 Tryd.underlying9 (fun j hj => by
    have e : (Addr.add ⟨B, 0, none⟩ j) = ⟨B, j, none⟩ := by
      unfold Addr.add; split
      · rename_i h0; subst h0; rfl
      · simp
    rw [e, (h j hj).1]
    simp [List.getD_eq_getElem?_getD, hj])

theorem conv_back' (W : World) (B : Nat) (n : Nat) (l : List UInt8) (h : Owns W B l) (hn : l.length = n) (cap : Nat) :
    (convert 46 9 (.slice (some ⟨B, 0, none⟩) n cap)).run Tryd.prog W = .ok (.string ⟨l.toArray⟩) W := by
  subst hn; exact conv_back W B cap l h

theorem owns_new (w : World) (s : ByteArray) (cap : Nat) : Owns (w.alloc (bRow s cap)) w.heap.size s.data.toList := by
  intro j hj
  have hj' : j < s.data.size := by simpa using hj
  refine ⟨?_, ?_⟩
  · unfold bRow
    rw [World.cell?_alloc_mark]
    unfold bytesRow
    rw [Array.getElem?_append_left (by simpa using hj')]
    simp [List.getD_eq_getElem?_getD, Array.getElem?_eq_getElem hj']
  · unfold bRow
    rw [World.frozen?_alloc_mark]
    have : j < (bytesRow s cap).size := by
      unfold bytesRow
      rw [Array.size_append, Array.size_map]
      omega
    have h2 : ¬ (bytesRow s cap).size ≤ j := by omega
    simp [h2]

theorem owns_at (w : World) (s : ByteArray) (cap B : Nat) (l : List UInt8) (hB : w.heap.size = B) (hl : s.data.toList = l) : Owns (w.alloc (bRow s cap)).drew B l := by
  subst hB; subst hl; exact (owns_new w s cap).drew


theorem bcell {W w1 : World} (hb : Below W.heap.size W w1) : (∀ b o, b < W.heap.size → w1.cell? ⟨b, o, none⟩ = W.cell? ⟨b, o, none⟩) ∧ (∀ b o, b < W.heap.size → w1.frozen? ⟨b, o, none⟩ = W.frozen? ⟨b, o, none⟩) :=
  ⟨fun b o h => hb.cell (p := ⟨b, o, none⟩) h, fun b o h => hb.frozen (p := ⟨b, o, none⟩) h⟩

end Go.Proofs.YtfbbileojddioaaDoor
