/- FormatUint, FormatInt, impl.Unsigned, impl.Whole. -/
import Derived.Test.YtfbbileojddioaaDoorI
import Derived.Test.YtfbbileojddioaaDoorH
namespace Go.Proofs.YtfbbileojddioaaDoor
open Go.RowKit

theorem arrayLen52 : Tryd.prog.arrayLen 52 = 24 := by kernel_rfl
theorem under52 : Tryd.prog.underlying 52 = some (.array (Tryd.prog.arrayLen 52) (Tryd.prog.elem 52)) := by kernel_rfl
theorem size52 (w : World) : (sizeOf (Tryd.prog.elem 52)).run Tryd.prog w = .ok 1 w := by kernel_rfl

theorem slice52h (B n : Nat) (hn : n ≤ 23) (W : World) : (Instr.sliceAt 52 (.pointer (some ⟨B, 0, none⟩)) none (some (.int .i64 (n : Int))) none).run Tryd.prog W = .ok (.slice (some ⟨B, 0, none⟩) n 24) W := by
  rw [run_sliceAt_array_h W 52 _ under52 .i64 (n : Int) (by omega) (by rw [arrayLen52]; omega), size52, arrayLen52]
  simp only [Result.andThen, slicedAt, Int.toNat_natCast]
  rw [if_neg (by omega)]
  rfl

theorem slice52l (B n : Nat) (hn : n ≤ 22) (W : World) : (Instr.sliceAt 52 (.pointer (some ⟨B, 0, none⟩)) (some (.int .i64 1)) (some (.int .i64 (1 + (n : Int)))) none).run Tryd.prog W = .ok (.slice (some ⟨B, 1, none⟩) n 23) W := by
  rw [run_sliceAt_array_lh W 52 _ under52 .i64 .i64 1 (1 + (n : Int)) (by omega) (by omega) (by rw [arrayLen52]; omega), size52, arrayLen52]
  simp only [Result.andThen, slicedAt]
  rw [show (1 + (n : Int)).toNat - (1 : Int).toNat = n from by omega]
  rfl

theorem slice52g (B n : Nat) (hn : n ≤ 22) (W : World) : (Instr.sliceAt 52 (.pointer (some ⟨B, 0, none⟩)) none (some (.int .i64 (1 + (n : Int)))) none).run Tryd.prog W = .ok (.slice (some ⟨B, 0, none⟩) (n + 1) 24) W := by
  have := slice52h B (n + 1) (by omega) W
  rw [show ((n + 1 : Nat) : Int) = 1 + (n : Int) from by omega] at this
  exact this

theorem conv_part (W : World) (B k n cap : Nat) (L : List UInt8) (h : Owns W B L) (hk : k + n ≤ L.length) :
    (convert 46 9 (.slice (some ⟨B, k, none⟩) n cap)).run Tryd.prog W = .ok (.string ⟨((L.drop k).take n).toArray⟩) W := by
  have hn : ((L.drop k).take n).length = n := by simp; omega
  have key := run_convert_bytes_back W 46 9 5 ⟨B, k, none⟩ cap ((L.drop k).take n) Tryd.underlying46 Tryd.underlying5 Tryd.underlying9 (fun j hj => by
    have hj' : k + j < L.length := by omega
    have e : (Addr.add ⟨B, k, none⟩ j) = ⟨B, k + j, none⟩ := by
      unfold Addr.add; split
      · rename_i h0; subst h0; rfl
      · rfl
    rw [e, (h (k + j) hj').1]
    simp [List.getD_eq_getElem?_getD, hj'])
  rw [hn] at key
  exact key

theorem FT.dg {U nd B off len : Nat} {W : World} {x : Nat} (h : FT U nd B off len W x 0) (h1 : 1 ≤ nd) (hf : U < 10 ^ nd) (hl : nd = 1 ∨ 10 ^ (nd - 1) ≤ U) :
    ∃ L : List UInt8, Owns W B L ∧ L.length = len ∧ off + nd ≤ len ∧ Pl.IsDg 10 U ((L.drop off).take nd) := by
  obtain ⟨L, h2, h3, _, ho, _, hd⟩ := h
  have hn : ((L.drop off).take nd).length = nd := by simp; omega
  refine ⟨L, ho, h2, h3, by omega, by rw [hn]; exact hf, by rw [hn]; exact hl, ?_⟩
  intro j hj
  rw [hn] at hj ⊢
  have := hd j (Nat.zero_le _) hj
  have e : ((L.drop off).take nd).getD j 0 = L.getD (off + j) 0 := by
    simp [List.getD_eq_getElem?_getD, hj]
  rw [e]
  apply UInt8.toNat_inj.1
  rw [this, Pl.ch_small _ (Nat.mod_lt _ (by omega))]

theorem FT.conv {U nd B off len : Nat} {W : World} {x : Nat} (h : FT U nd B off len W x 0) (h1 : 1 ≤ nd) (hf : U < 10 ^ nd) (hl : nd = 1 ∨ 10 ^ (nd - 1) ≤ U) :
    ∃ m : List UInt8, Hid (Pl.IsDg 10 U m) ∧ ∀ cap, (convert 46 9 (.slice (some ⟨B, off, none⟩) nd cap)).run Tryd.prog W = .ok (.string ⟨m.toArray⟩) W := by
  obtain ⟨L, ho, h2, h3, hd⟩ := h.dg h1 hf hl
  exact ⟨_, Lib.hid hd, fun cap => conv_part W B off nd cap L ho (by omega)⟩

theorem FT.conv_neg {U nd B len : Nat} {W : World} {x : Nat} (h : FT U nd B 1 len W x 0) (h1 : 1 ≤ nd) (hf : U < 10 ^ nd) (hl : nd = 1 ∨ 10 ^ (nd - 1) ≤ U) :
    ∃ m : List UInt8, Hid (Pl.IsDg 10 U m) ∧ (∃ v, W.cell? ⟨B, 0, none⟩ = some v) ∧ W.frozen? ⟨B, 0, none⟩ = false ∧ ∀ cap, (convert 46 9 (.slice (some ⟨B, 0, none⟩) (nd + 1) cap)).run Tryd.prog (W.setCell ⟨B, 0, none⟩ (.int .u8 45)) = .ok (.string ⟨(45 :: m).toArray⟩) (W.setCell ⟨B, 0, none⟩ (.int .u8 45)) := by
  obtain ⟨L, ho, h2, h3, hd⟩ := h.dg h1 hf hl
  refine ⟨_, Lib.hid hd, ⟨_, (ho 0 (by omega)).1⟩, (ho 0 (by omega)).2, fun cap => ?_⟩
  rw [conv_part _ B 0 (nd + 1) cap (L.set 0 45) (ho.set (by omega) 45 45 rfl) (by rw [List.length_set]; omega)]
  have : ((L.set 0 45).drop 0).take (nd + 1) = 45 :: (L.drop 1).take nd := by
    cases L with
    | nil => simp at h2; omega
    | cons a r => simp
  rw [this]

theorem dg10 (d : Nat) (h1 : 1 ≤ d) (h2 : d < 2 ^ 64) : 1 ≤ Pl.digitsOf (Lib.bitLen d) d ∧ Pl.digitsOf (Lib.bitLen d) d ≤ 20 ∧ d < 10 ^ Pl.digitsOf (Lib.bitLen d) d ∧ (Pl.digitsOf (Lib.bitLen d) d = 1 ∨ 10 ^ (Pl.digitsOf (Lib.bitLen d) d - 1) ≤ d) := by
  have hL := bitLen_ok d (by omega) h2
  have := Pl.digitsOf_ok (Lib.bitLen d) d hL.1 hL.2.1 hL.2.2.1 hL.2.2.2
  exact ⟨this.1, this.2.1, this.2.2.1, .inr this.2.2.2⟩

theorem Pows.below {w w' : World} (h : Pows w) (hs : 3 ≤ w.heap.size) (hb : Below w.heap.size w w') : Pows w' :=
  fun j hj => (hb.cell (p := ⟨0, j, none⟩) (by show 0 < w.heap.size; omega)).trans (h j hj)

set_option maxHeartbeats 1000000 in
theorem uint_bits (U b : Nat) (w : World) (h10 : b ≠ 10)
    (H : Calls Tryd.prog 24 #[.slice none 0 0, .int .u64 U, .int .i64 b, .bool false, .bool false] w fun e w' => (∃ s : ByteArray, e = .returned (.tuple #[.slice none 0 0, .string s]) ∧ ∃ l, Pl.IsDg b U l ∧ s.data.toList = l) ∧ Below w.heap.size w w') :
    Calls Tryd.prog 15 #[.int .u64 U, .int .i64 b] w fun e w' => (∃ s : ByteArray, e = .returned (.string s) ∧ Pl.IsDg b U s.data.toList) ∧ Below w.heap.size w w' := by
  have hb10 : ((b : Int) == 10) = false := beq_eq_false_iff_ne.2 (by omega)
  have HH := Lib.hid H
  clear H h10
  go_enter Tryd.func15, Tryd.ntmps15
  go_wp2_with fail
  refine HH.out.mono ?_
  rintro e w' ⟨⟨s, rfl, l, hl, hs⟩, hbel⟩
  have HR : Hid (Pl.IsDg b U s.data.toList ∧ Below w.heap.size w w') := Lib.hid ⟨hs ▸ hl, hbel⟩
  clear hl hs hbel
  go_wp2_with fail
  go_ret
  exact ⟨⟨s, rfl, HR.out.1⟩, HR.out.2⟩

set_option maxHeartbeats 1000000 in
theorem uint_small (U : Nat) (w : World) (hU : U < 100) :
    Calls Tryd.prog 15 #[.int .u64 U, .int .i64 10] w fun e w' => (∃ s : ByteArray, e = .returned (.string s) ∧ Pl.IsDg 10 U s.data.toList) ∧ Below w.heap.size w w' := by
  have HH := Lib.hid (small_any U w (by omega))
  go_enter Tryd.func15, Tryd.ntmps15
  go_wp2_with fail
  refine HH.out.mono ?_
  rintro e w' ⟨⟨s, rfl, hs⟩, rfl⟩
  have HR := Lib.hid hs
  clear hs
  go_wp2_with fail
  go_ret
  exact ⟨⟨s, rfl, HR.out⟩, Below.refl _ _⟩

set_option maxHeartbeats 1000000 in
theorem uint_ten (U : Nat) (w : World) (hU : 100 ≤ U) (hU64 : U < 2 ^ 64) (hP : Pows w) (hs : 3 ≤ w.heap.size) :
    Calls Tryd.prog 15 #[.int .u64 U, .int .i64 10] w fun e w' => (∃ s : ByteArray, e = .returned (.string s) ∧ Pl.IsDg 10 U s.data.toList) ∧ Below w.heap.size w w' := by
  have hbel : Below w.heap.size w (w.alloc (.cells (zeros 24) 52)) := (Below.refl _ _).alloc (Nat.le_refl _) _
  have H22 := Lib.hid (numDigits_any U (w.alloc (.cells (zeros 24) 52)) (by omega) hU64 (hP.below hs hbel))
  have hd := dg10 U (by omega) hU64
  generalize Pl.digitsOf (Lib.bitLen U) U = nd at H22 hd
  have HD := Lib.hid hd
  have hnd1 : 1 ≤ nd := hd.1
  have hnd20 : nd ≤ 20 := hd.2.1
  have H23 := Lib.hid (base10_any U nd w.heap.size 0 24 24 (w.alloc (.cells (zeros 24) 52)) (List.replicate 24 0) rfl (by omega) hnd1 hnd20 hU64 hd.2.2.1 (owns_zeros w 24 52))
  have hsl := slice52h w.heap.size nd (by omega)
  have HB := Lib.hid hbel
  have hz := zero24
  clear hd hP hbel
  go_enter Tryd.func15, Tryd.ntmps15
  go_wp2_with fail
  refine H22.out.mono ?_
  rintro e w' ⟨rfl, rfl⟩
  clear hz
  go_wp2_with fail
  refine H23.out.mono ?_
  rintro e w' ⟨rfl, ⟨x, hft⟩, hb2⟩
  obtain ⟨m, HM, hcv⟩ := hft.conv HD.out.1 HD.out.2.2.1 HD.out.2.2.2
  have HB2 := Lib.hid hb2
  clear hft hb2
  go_wp2_with fail
  go_ret
  exact ⟨⟨_, rfl, by simpa using HM.out⟩, HB.out.trans HB2.out⟩

/-- A base is ten, or a power of two, or neither. -/
theorem base_ways (b : Nat) (h2 : 2 ≤ b) (h36 : b ≤ 36) : b = 10 ∨ (∃ k, b = 2 ^ k ∧ 1 ≤ k ∧ k ≤ 5) ∨ (3 ≤ b ∧ b ≠ 10 ∧ (b ≠ 4 ∧ b ≠ 8 ∧ b ≠ 16 ∧ b ≠ 32)) := by
  by_cases a : b = 2
  · exact .inr (.inl ⟨1, by omega, by omega, by omega⟩)
  by_cases a : b = 4
  · exact .inr (.inl ⟨2, by omega, by omega, by omega⟩)
  by_cases a : b = 8
  · exact .inr (.inl ⟨3, by omega, by omega, by omega⟩)
  by_cases a : b = 16
  · exact .inr (.inl ⟨4, by omega, by omega, by omega⟩)
  by_cases a : b = 32
  · exact .inr (.inl ⟨5, by omega, by omega, by omega⟩)
  omega

theorem uint_any (U b : Nat) (w : World) (h2 : 2 ≤ b) (h36 : b ≤ 36) (hU : U < 2 ^ 64) (hP : Pows w) (hT : Tz w) :
    Calls Tryd.prog 15 #[.int .u64 U, .int .i64 b] w fun e w' => (∃ s : ByteArray, e = .returned (.string s) ∧ Pl.IsDg b U s.data.toList) ∧ Below w.heap.size w w' := by
  rcases base_ways b h2 h36 with rfl | ⟨k, hk, k1, k5⟩ | ⟨h3, h10, hpw⟩
  · by_cases hs : U < 100
    · exact uint_small U w hs
    · exact uint_ten U w (by omega) hU hP hT.1
  · exact uint_bits U b w (by intro e; subst e; have : ∀ y : Fin 6, 10 ≠ 2 ^ y.val := by decide +kernel
                              exact this ⟨k, by omega⟩ hk) (formatBits_pow U b k w hk k1 k5 hT hU)
  · exact uint_bits U b w h10 (formatBits_gen U b w h3 h36 h10 hpw hU)

set_option maxHeartbeats 1000000 in
theorem unsigned_any (U b : Nat) (w : World) (h2 : 2 ≤ b) (h36 : b ≤ 36) (hU : U < 2 ^ 64) (hP : Pows w) (hT : Tz w) :
    Calls Tryd.prog 7 #[.int .u64 U, .int .i64 b] w fun e w' => (∃ s : ByteArray, e = .returned (.string s) ∧ Pl.IsDg b U s.data.toList) ∧ Below w.heap.size w w' := by
  have HH := Lib.hid (uint_any U b w h2 h36 hU hP hT)
  clear hP hT
  go_enter Tryd.func7, Tryd.ntmps7
  go_wp2_with fail
  refine HH.out.mono ?_
  rintro e w' ⟨⟨s, rfl, hs⟩, hbel⟩
  have HR := Lib.hid hs
  have HB := Lib.hid hbel
  clear hs hbel
  go_wp2_with fail
  go_ret
  exact ⟨⟨s, rfl, HR.out⟩, HB.out⟩
end Go.Proofs.YtfbbileojddioaaDoor
