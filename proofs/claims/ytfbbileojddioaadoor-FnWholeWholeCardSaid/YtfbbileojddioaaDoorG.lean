/- The walk of formatBits: digits to a base other than ten, from the last one on. -/
import Derived.Test.YtfbbileojddioaaDoorF
namespace Go.Proofs.YtfbbileojddioaaDoor
open Go.RowKit

def zeros (n : Nat) : Array Value := Array.replicate n (.int .u8 0)

theorem zero65 (w : World) : (zeroValue 63).run Tryd.prog w = .ok (.agg (zeros 65)) w := by kernel_rfl
theorem zero24 (w : World) : (zeroValue 52).run Tryd.prog w = .ok (.agg (zeros 24)) w := by kernel_rfl

theorem owns_zeros (w : World) (n t : Nat) : Owns (w.alloc (.cells (zeros n) t)) w.heap.size (List.replicate n 0) := by
  intro j hj
  rw [List.length_replicate] at hj
  refine ⟨?_, ?_⟩
  · rw [World.cell?_alloc_mark]
    simp [zeros, hj, List.getD_eq_getElem?_getD]
  · rw [World.frozen?_alloc_mark]; simp

/-- The writer's state: x is left, places from k on are written. -/
def FB (b U : Nat) (w wr : World) (x k : Nat) : Prop :=
  ∃ l m : List UInt8, k + m.length = 65 ∧ l.length = 65 ∧ l.drop k = m ∧ Owns wr w.heap.size l ∧ Pl.Part b U x m ∧ (m = [] ∨ 0 < x) ∧ Below w.heap.size w wr

theorem FB.start (b U : Nat) (w : World) : FB b U w (w.alloc (.cells (zeros 65) 63)) U 65 :=
  ⟨List.replicate 65 0, [], rfl, by simp, by simp, owns_zeros w 65 63, Pl.Part.start b U, .inl rfl, (Below.refl _ _).alloc (Nat.le_refl _) _⟩

theorem FB.room {b U : Nat} {w wr : World} {x k : Nat} (h : FB b U w wr x k) (hb : 2 ≤ b) (hU : U < 2 ^ 64) : 2 ≤ k ∧ k ≤ 65 ∧ x ≤ U ∧ (∃ v, wr.cell? ⟨w.heap.size, k - 1, none⟩ = some v) ∧ wr.frozen? ⟨w.heap.size, k - 1, none⟩ = false := by
  obtain ⟨l, m, h1, h2, _, ho, hp, hx, _⟩ := h
  have hs := hp.short hb hU hx
  refine ⟨by omega, by omega, ?_, ⟨_, (ho (k - 1) (by omega)).1⟩, (ho (k - 1) (by omega)).2⟩
  rw [hp.1]; exact Nat.div_le_self _ _

theorem drop_set {l : List UInt8} {k : Nat} {m : List UInt8} (c : UInt8) (h1 : 1 ≤ k) (h2 : k ≤ l.length) (h : l.drop k = m) : (l.set (k - 1) c).drop (k - 1) = c :: m := by
  have hk : k - 1 < (l.set (k - 1) c).length := by rw [List.length_set]; omega
  rw [List.drop_eq_getElem_cons hk]
  rw [show k - 1 + 1 = k from by omega]
  have e1 : (l.set (k - 1) c)[k - 1] = c := by simp
  have e2 : (l.set (k - 1) c).drop k = l.drop k := by
    rw [List.drop_set]; rw [if_pos (by omega)]
  rw [e1, e2, h]

theorem FB.step {b U : Nat} {w wr : World} {x k : Nat} (h : FB b U w wr x k) (hb : 2 ≤ b) (hU : U < 2 ^ 64) (hx : b ≤ x) (v : Int) (hv : v = ((Pl.ch (x % b)).toNat : Int)) :
    FB b U w (wr.setCell ⟨w.heap.size, k - 1, none⟩ (.int .u8 v)) (x / b) (k - 1) := by
  have hr := h.room hb hU
  obtain ⟨l, m, h1, h2, h3, ho, hp, hx', hbel⟩ := h
  refine ⟨l.set (k - 1) (Pl.ch (x % b)), Pl.ch (x % b) :: m, by simp; omega, by simp [h2], drop_set _ (by omega) (by omega) h3, ho.set (by omega) _ _ hv, hp.step hb hx', .inr (Nat.div_pos hx (by omega)), hbel.setCell (Nat.le_refl _) _⟩

/-- The digits stand. -/
def FD (b U : Nat) (w wr : World) (k : Nat) : Prop :=
  ∃ l m : List UInt8, k + m.length = 65 ∧ 1 ≤ k ∧ l.length = 65 ∧ l.drop k = m ∧ Owns wr w.heap.size l ∧ Pl.IsDg b U m ∧ Below w.heap.size w wr

theorem FB.last {b U : Nat} {w wr : World} {x k : Nat} (h : FB b U w wr x k) (hb : 2 ≤ b) (hU : U < 2 ^ 64) (hx : x < b) (v : Int) (hv : v = ((Pl.ch x).toNat : Int)) :
    FD b U w (wr.setCell ⟨w.heap.size, k - 1, none⟩ (.int .u8 v)) (k - 1) := by
  have hr := h.room hb hU
  obtain ⟨l, m, h1, h2, h3, ho, hp, hx', hbel⟩ := h
  have hst := hp.step hb hx'
  rw [Nat.mod_eq_of_lt hx, Nat.div_eq_of_lt hx] at hst
  exact ⟨l.set (k - 1) (Pl.ch x), Pl.ch x :: m, by simp; omega, by omega, by simp [h2], drop_set _ (by omega) (by omega) h3, ho.set (by omega) _ _ hv, hst.done hb (by simp), hbel.setCell (Nat.le_refl _) _⟩

theorem conv_drop (W : World) (B k n cap : Nat) (l m : List UInt8) (h : Owns W B l) (hm : l.drop k = m) (hn : m.length = n) :
    (convert 46 9 (.slice (some ⟨B, k, none⟩) n cap)).run Tryd.prog W = .ok (.string ⟨m.toArray⟩) W := by
  subst hn
  subst hm
  exact run_convert_bytes_back W 46 9 5 ⟨B, k, none⟩ cap (l.drop k) Tryd.underlying46 Tryd.underlying5 Tryd.underlying9 (fun j hj => by
    have hj' : k + j < l.length := by rw [List.length_drop] at hj; omega
    have e : (Addr.add ⟨B, k, none⟩ j) = ⟨B, k + j, none⟩ := by
      unfold Addr.add; split
      · rename_i h0; subst h0; rfl
      · rfl
    rw [e, (h (k + j) hj').1]
    simp [List.getD_eq_getElem?_getD, hj'])

set_option maxRecDepth 100000 in
set_option maxHeartbeats 1000000 in
theorem isPow_false (b : Nat) (hb2 : 3 ≤ b) (hb36 : b ≤ 36) (h : b ≠ 4 ∧ b ≠ 8 ∧ b ≠ 16 ∧ b ≠ 32) (w : World) : Calls Tryd.prog 29 #[.int .i64 b] w fun e w' => e = .returned (.bool false) ∧ w = w' := by
  have hx : (bits .and .i64 (b : Int) ((b : Int) - 1) == 0) = false := by
    have : ∀ y : Fin 37, 3 ≤ y.val → y.val ≠ 4 ∧ y.val ≠ 8 ∧ y.val ≠ 16 ∧ y.val ≠ 32 → (bits .and .i64 (y.val : Int) ((y.val : Int) - 1) == 0) = false := by decide +kernel
    exact this ⟨b, by omega⟩ hb2 h
  clear h
  go_enter Tryd.func29, Tryd.ntmps29
  go_wp2
  go_ret
  exact ⟨rfl, rfl⟩

theorem splitDiv (x b : Nat) (hx : b ≤ x) (hb : 2 ≤ b) (hb36 : b ≤ 36) (hX : x < 2 ^ 64) : ∃ y p r : Nat, Hid (y = x / b) ∧ Hid (r = x % b) ∧ Hid (y < x) ∧ p ≤ x ∧ r < 36 ∧
    IntKind.u64.wrap ((x : Int) / (b : Int)) = (y : Int) ∧ IntKind.u64.wrap ((y : Int) * (b : Int)) = (p : Int) ∧ IntKind.u64.wrap ((x : Int) - (p : Int)) = (r : Int) := by
  have hd := Nat.div_add_mod x b
  have hm := Nat.mod_lt x (show 0 < b by omega)
  have hl := Nat.div_lt_self (show 0 < x by omega) (show 1 < b by omega)
  have hc : (x : Int) / (b : Int) = ((x / b : Nat) : Int) := by simp
  have hc2 : (x / b) * b = b * (x / b) := Nat.mul_comm _ _
  generalize hy : x / b = y at *
  generalize hr : x % b = r at *
  refine ⟨y, y * b, r, Lib.hid rfl, Lib.hid rfl, Lib.hid hl, by omega, by omega, ?_, ?_, ?_⟩
  · rw [hc, IntKind.wrap_u64]; omega
  · rw [show (y : Int) * (b : Int) = ((y * b : Nat) : Int) from by simp]
    rw [IntKind.wrap_u64]
    generalize y * b = p at *
    omega
  · rw [show (x : Int) - ((y * b : Nat) : Int) = (r : Int) from by generalize y * b = p at *; omega]
    rw [IntKind.wrap_u64]
    generalize y * b = p at *
    omega


theorem arrayLen63 : Tryd.prog.arrayLen 63 = 65 := by kernel_rfl
theorem under63 : Tryd.prog.underlying 63 = some (.array (Tryd.prog.arrayLen 63) (Tryd.prog.elem 63)) := by kernel_rfl
theorem size63 (w : World) : (sizeOf (Tryd.prog.elem 63)).run Tryd.prog w = .ok 1 w := by kernel_rfl

theorem slice63 (B j : Nat) (hj : j ≤ 64) (W : World) : (Instr.sliceAt 63 (.pointer (some ⟨B, 0, none⟩)) (some (.int .i64 (j : Int))) none none).run Tryd.prog W = .ok (.slice (some ⟨B, j, none⟩) (65 - j) (65 - j)) W := by
  rw [run_sliceAt_array_l W 63 _ under63 .i64 (j : Int) (by omega) (by rw [arrayLen63]; omega), size63, arrayLen63]
  simp only [Result.andThen, slicedAt, Int.toNat_natCast]
  rw [if_neg (by omega : ¬ 65 = j)]
  have e : (Addr.add ⟨B, 0, none⟩ (j * 1)) = ⟨B, j, none⟩ := by
    rw [Nat.mul_one]
    unfold Addr.add; split
    · rename_i h0; subst h0; rfl
    · simp
  rw [e]

theorem lit_at (r : Nat) (h : r < 36) : ((⟨#[48, 49, 50, 51, 52, 53, 54, 55, 56, 57, 97, 98, 99, 100, 101, 102, 103, 104, 105, 106, 107, 108, 109, 110, 111, 112, 113, 114, 115, 116, 117, 118, 119, 120, 121, 122]⟩ : ByteArray)[r]'h).toNat = (Pl.ch r).toNat := by
  have : ∀ y : Fin 36, ((⟨#[48, 49, 50, 51, 52, 53, 54, 55, 56, 57, 97, 98, 99, 100, 101, 102, 103, 104, 105, 106, 107, 108, 109, 110, 111, 112, 113, 114, 115, 116, 117, 118, 119, 120, 121, 122]⟩ : ByteArray)[y.val]'y.isLt).toNat = (Pl.ch y.val).toNat := by decide +kernel
  exact this ⟨r, h⟩

theorem FB.bel {b U : Nat} {w wr : World} {x k : Nat} (h : FB b U w wr x k) : Below w.heap.size w wr := by
  obtain ⟨_, _, _, _, _, _, _, _, h⟩ := h; exact h

/-- What is left to do behind the last digit. -/
theorem conv_last {b U : Nat} {w wr : World} {x j : Nat} (h : FB b U w wr x (j + 1)) (hb : 2 ≤ b) (hU : U < 2 ^ 64) (hx : x < b) :
    ∃ m : List UInt8, Hid (Pl.IsDg b U m) ∧ ∀ cap, (convert 46 9 (.slice (some ⟨w.heap.size, j, none⟩) (65 - j) cap)).run Tryd.prog (wr.setCell ⟨w.heap.size, j, none⟩ (.int .u8 ((Pl.ch x).toNat : Int))) = .ok (.string ⟨m.toArray⟩) (wr.setCell ⟨w.heap.size, j, none⟩ (.int .u8 ((Pl.ch x).toNat : Int))) := by
  have hl := h.last hb hU hx _ rfl
  rw [Nat.add_sub_cancel] at hl
  obtain ⟨l, m, h1, h2, h3, h4, ho, hdg, _⟩ := hl
  exact ⟨m, Lib.hid hdg, fun cap => conv_drop _ _ j (65 - j) cap l m ho h4 (by omega)⟩

theorem conv_last_neg {b U : Nat} {w wr : World} {x i : Nat} (h : FB b U w wr x (i + 2)) (hb : 2 ≤ b) (hU : U < 2 ^ 64) (hx : x < b) :
    ∃ m : List UInt8, Hid (Pl.IsDg b U m) ∧ ∀ cap, (convert 46 9 (.slice (some ⟨w.heap.size, i, none⟩) (65 - i) cap)).run Tryd.prog ((wr.setCell ⟨w.heap.size, i + 1, none⟩ (.int .u8 ((Pl.ch x).toNat : Int))).setCell ⟨w.heap.size, i, none⟩ (.int .u8 45)) = .ok (.string ⟨(45 :: m).toArray⟩) ((wr.setCell ⟨w.heap.size, i + 1, none⟩ (.int .u8 ((Pl.ch x).toNat : Int))).setCell ⟨w.heap.size, i, none⟩ (.int .u8 45)) := by
  have hl := h.last hb hU hx _ rfl
  rw [show i + 2 - 1 = i + 1 from rfl] at hl
  obtain ⟨l, m, h1, h2, h3, h4, ho, hdg, _⟩ := hl
  have ho2 := ho.set (k := i) (by omega) 45 45 rfl
  have hd := drop_set (k := i + 1) 45 (by omega) (by omega) h4
  rw [Nat.add_sub_cancel] at hd
  exact ⟨m, Lib.hid hdg, fun cap => conv_drop _ _ i (65 - i) cap (l.set i 45) (45 :: m) ho2 hd (by simp; omega)⟩

set_option maxRecDepth 100000 in
set_option maxHeartbeats 2000000 in
theorem formatBits_gen (U b : Nat) (w : World) (hb3 : 3 ≤ b) (hb36 : b ≤ 36) (h10 : b ≠ 10) (hpw : b ≠ 4 ∧ b ≠ 8 ∧ b ≠ 16 ∧ b ≠ 32) (hU : U < 2 ^ 64) :
    Calls Tryd.prog 24 #[.slice none 0 0, .int .u64 U, .int .i64 b, .bool false, .bool false] w fun e w' => (∃ s : ByteArray, e = .returned (.tuple #[.slice none 0 0, .string s]) ∧ ∃ l, Pl.IsDg b U l ∧ s.data.toList = l) ∧ Below w.heap.size w w' := by
  have hbA : decide ((b : Int) < 2) = false := decide_eq_false (by omega)
  have hbB : decide (36 < (b : Int)) = false := decide_eq_false (by omega)
  have hb10 : ((b : Int) == 10) = false := beq_eq_false_iff_ne.2 (by omega)
  have H29 := Lib.hid (fun w => isPow_false b hb3 hb36 hpw w)
  have hz := zero65
  clear hpw h10
  go_enter Tryd.func24, Tryd.ntmps24
  go_wp2_with fail
  refine (H29.out _).mono ?_
  rintro e w' ⟨rfl, rfl⟩
  clear hz
  go_wp2_with fail
  go_loopw [1, 13] (fun u i wr => ∃ x k : Nat, u = .int .u64 x ∧ i = .int .i64 k ∧ FB b U w wr x k) (fun u _ _ => (intOf u).toNat)
  case atStart => exact ⟨U, 65, rfl, rfl, FB.start b U w⟩
  case round =>
    obtain ⟨x, k, rfl, rfl, hfb⟩ := hrel
    have hr := hfb.room (by omega) hU
    obtain ⟨k2, k65, hxU, ⟨v, hcell⟩, hfr⟩ := hr
    obtain ⟨j, rfl⟩ : ∃ j, k = j + 1 := ⟨k - 1, by omega⟩
    rw [Nat.add_sub_cancel] at hcell hfr
    have HF := Lib.hid hfb
    clear hfb
    have hlit := lit_at
    by_cases hx : b ≤ x
    · have hxx : (b : Int) ≤ (x : Int) := by omega
      obtain ⟨y, p, r, hy, hr, hyx, hpx, hr36, e1, e2, e3⟩ := splitDiv x b hx (by omega) hb36 (by omega)
      clear hb36
      go_wp2
      all_goals go_ways
      all_goals refine ⟨⟨y, j, rfl, rfl, ?_⟩, ?_⟩
      · rw [hy.out, hr.out]
        exact HF.out.step (by omega) hU hx _ rfl
      · have := hyx.out
        simp only [intOf, Int.toNat_natCast]
        exact this
    · have hxx : ¬ (b : Int) ≤ (x : Int) := by omega
      have hsl := slice63 w.heap.size j (by omega)
      obtain ⟨m, HM, hcv⟩ := conv_last HF.out (by omega) hU (by omega)
      go_wp2
      all_goals go_ways
      all_goals go_ret2
      all_goals exact ⟨⟨_, rfl, by simpa using HM.out⟩, HF.out.bel.setCell (Nat.le_refl _) _⟩

set_option maxRecDepth 100000 in
set_option maxHeartbeats 2000000 in
theorem formatBits_gen_neg (U b : Nat) (u0 : Int) (hu0 : IntKind.u64.wrap (-u0) = (U : Int)) (w : World) (hb3 : 3 ≤ b) (hb36 : b ≤ 36) (h10 : b ≠ 10) (hpw : b ≠ 4 ∧ b ≠ 8 ∧ b ≠ 16 ∧ b ≠ 32) (hU : U < 2 ^ 64) :
    Calls Tryd.prog 24 #[.slice none 0 0, .int .u64 u0, .int .i64 b, .bool true, .bool false] w fun e w' => (∃ s : ByteArray, e = .returned (.tuple #[.slice none 0 0, .string s]) ∧ ∃ l, Pl.IsDg b U l ∧ s.data.toList = 45 :: l) ∧ Below w.heap.size w w' := by
  have hbA : decide ((b : Int) < 2) = false := decide_eq_false (by omega)
  have hbB : decide (36 < (b : Int)) = false := decide_eq_false (by omega)
  have hb10 : ((b : Int) == 10) = false := beq_eq_false_iff_ne.2 (by omega)
  have H29 := Lib.hid (fun w => isPow_false b hb3 hb36 hpw w)
  have hz := zero65
  clear hpw h10
  go_enter Tryd.func24, Tryd.ntmps24
  go_wp2_with fail
  refine (H29.out _).mono ?_
  rintro e w' ⟨rfl, rfl⟩
  clear hz
  go_wp2_with fail
  go_loopw [1, 13] (fun u i wr => ∃ x k : Nat, u = .int .u64 x ∧ i = .int .i64 k ∧ FB b U w wr x k) (fun u _ _ => (intOf u).toNat)
  case atStart => exact ⟨U, 65, rfl, rfl, FB.start b U w⟩
  case round =>
    obtain ⟨x, k, rfl, rfl, hfb⟩ := hrel
    have hr := hfb.room (by omega) hU
    obtain ⟨k2, k65, hxU, ⟨v, hcell⟩, hfr⟩ := hr
    obtain ⟨j, rfl⟩ : ∃ j, k = j + 1 := ⟨k - 1, by omega⟩
    rw [Nat.add_sub_cancel] at hcell hfr
    obtain ⟨i, rfl⟩ : ∃ i, j = i + 1 := ⟨j - 1, by omega⟩
    have hr2 : (∃ v, wr.cell? ⟨w.heap.size, i, none⟩ = some v) ∧ wr.frozen? ⟨w.heap.size, i, none⟩ = false := by
      obtain ⟨l, m, h1, h2, h3, ho, _⟩ := hfb
      exact ⟨⟨_, (ho i (by omega)).1⟩, (ho i (by omega)).2⟩
    obtain ⟨⟨v2, hcell2⟩, hfr2⟩ := hr2
    have HF := Lib.hid hfb
    clear hfb
    have hlit := lit_at
    by_cases hx : b ≤ x
    · have hxx : (b : Int) ≤ (x : Int) := by omega
      obtain ⟨y, p, r, hy, hr, hyx, hpx, hr36, e1, e2, e3⟩ := splitDiv x b hx (by omega) hb36 (by omega)
      clear hb36
      go_wp2
      all_goals go_ways
      all_goals refine ⟨⟨y, (i + 1), rfl, rfl, ?_⟩, ?_⟩
      · rw [hy.out, hr.out]
        exact HF.out.step (by omega) hU hx _ rfl
      · have := hyx.out
        simp only [intOf, Int.toNat_natCast]
        exact this
    · have hxx : ¬ (b : Int) ≤ (x : Int) := by omega
      have hsl := slice63 w.heap.size i (by omega)
      obtain ⟨m, HM, hcv⟩ := conv_last_neg HF.out (by omega) hU (by omega)
      go_wp2
      all_goals go_ways
      all_goals go_ret2
      all_goals exact ⟨⟨_, rfl, m, HM.out, by simp⟩, (HF.out.bel.setCell (Nat.le_refl _) _).setCell (Nat.le_refl _) _⟩
end Go.Proofs.YtfbbileojddioaaDoor
