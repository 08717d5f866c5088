/- What Parse makes of each special word. -/
import Derived.Test.YtfbbileojddioaaPlain2
import Derived.Test.YtfbbileojddioaaT9
namespace Go.Proofs.Ytfbbileojddioaa
open Go.RowKit

theorem pf64 (s : ByteArray) (w : World) (f : Nat) (L : Int) (hL : L = s.size)
    (h : Calls Try.prog 25 #[.string s] w fun e w' => e = .returned (.tuple #[.float .f64 f, .int .i64 L, .bool true]) ∧ w = w') :
    Calls Try.prog 5 #[.string s, .bool false] w fun e w' => e = .returned (.tuple #[.int .u64 f, .int .i64 0]) ∧ w = w' := by
  subst hL
  exact parse64_sp s w f (pf_sp s w w f 64 (pfp64_sp s w f _ h))

theorem pf32 (s : ByteArray) (w w1 w2 w3 : World) (f g f2 g2 : Nat) (L : Int) (hL : L = s.size) (hg : (g2 : Int) < 4294967296)
    (h : Calls Try.prog 25 #[.string s] w fun e w' => e = .returned (.tuple #[.float .f64 f, .int .i64 L, .bool true]) ∧ w = w')
    (hc : (convert 37 44 (.float .f64 f)).run Try.prog w = .ok (.float .f32 g) w1)
    (hd : (convert 44 37 (.float .f32 g)).run Try.prog w1 = .ok (.float .f64 f2) w2)
    (he : (convert 37 44 (.float .f64 f2)).run Try.prog w2 = .ok (.float .f32 g2) w3) :
    Calls Try.prog 5 #[.string s, .bool true] w fun e w' => e = .returned (.tuple #[.int .u64 g2, .int .i64 0]) ∧ w3 = w' := by
  subst hL
  exact parse32_sp s w w2 w3 f2 g2 hg (pf_sp s w w2 f2 32 (pfp32_sp s w w1 w2 f g f2 _ h hc hd)) he

/-- The words of the positive infinity. -/
theorem special_pos (s : ByteArray) (w : World) (W : List UInt8) (hW : W = [105, 110, 102] ∨ W = [105, 110, 102, 105, 110, 105, 116, 121] ∨ W = [43, 105, 110, 102] ∨ W = [43, 105, 110, 102, 105, 110, 105, 116, 121])
    (h : s.data.toList.map Pl.lowc = W) :
    Calls Try.prog 25 #[.string s] w fun e w' => e = .returned (.tuple #[.float .f64 0x7FF0000000000000, .int .i64 s.size, .bool true]) ∧ w = w' := by
  have hsz := Pl.word_size h
  rcases hW with rfl | rfl | rfl | rfl
  · have h0 : 0 < s.size := by rw [hsz]; decide
    have hf := Pl.first_letter (Pl.word_first h h0)
    have := special_plain s w 3 _ (.inl rfl) (by rcases hf with hf | hf <;> rw [hf] <;> decide) h0 rfl (by rw [Pl.cpl_map, h]; decide) (by rw [hsz]; decide)
    rw [hsz]; exact this
  · have h0 : 0 < s.size := by rw [hsz]; decide
    have hf := Pl.first_letter (Pl.word_first h h0)
    have := special_plain s w 8 _ (.inr rfl) (by rcases hf with hf | hf <;> rw [hf] <;> decide) h0 rfl (by rw [Pl.cpl_map, h]; decide) (by rw [hsz]; decide)
    rw [hsz]; exact this
  · have h0 : 0 < s.size := by rw [hsz]; decide
    have hf := Pl.first_sign (Pl.word_first h h0) (by decide)
    have := special_plus s w 3 (.inl rfl) h0 hf (by rw [Pl.cpl_map, Pl.word_tail h]; decide) (by rw [hsz]; decide)
    rw [hsz]; exact this
  · have h0 : 0 < s.size := by rw [hsz]; decide
    have hf := Pl.first_sign (Pl.word_first h h0) (by decide)
    have := special_plus s w 8 (.inr rfl) h0 hf (by rw [Pl.cpl_map, Pl.word_tail h]; decide) (by rw [hsz]; decide)
    rw [hsz]; exact this

/-- The words of the negative infinity. -/
theorem special_neg (s : ByteArray) (w : World) (W : List UInt8) (hW : W = [45, 105, 110, 102] ∨ W = [45, 105, 110, 102, 105, 110, 105, 116, 121])
    (h : s.data.toList.map Pl.lowc = W) :
    Calls Try.prog 25 #[.string s] w fun e w' => e = .returned (.tuple #[.float .f64 0xFFF0000000000000, .int .i64 s.size, .bool true]) ∧ w = w' := by
  have hsz := Pl.word_size h
  rcases hW with rfl | rfl
  · have h0 : 0 < s.size := by rw [hsz]; decide
    have hf := Pl.first_sign (Pl.word_first h h0) (by decide)
    have := special_minus s w 3 (.inl rfl) h0 hf (by rw [Pl.cpl_map, Pl.word_tail h]; decide) (by rw [hsz]; decide)
    rw [hsz]; exact this
  · have h0 : 0 < s.size := by rw [hsz]; decide
    have hf := Pl.first_sign (Pl.word_first h h0) (by decide)
    have := special_minus s w 8 (.inr rfl) h0 hf (by rw [Pl.cpl_map, Pl.word_tail h]; decide) (by rw [hsz]; decide)
    rw [hsz]; exact this

theorem special_nans (s : ByteArray) (w : World) (h : s.data.toList.map Pl.lowc = [110, 97, 110]) :
    Calls Try.prog 25 #[.string s] w fun e w' => e = .returned (.tuple #[.float .f64 0x7FF8000000000001, .int .i64 s.size, .bool true]) ∧ w = w' := by
  have hsz := Pl.word_size h
  have h0 : 0 < s.size := by rw [hsz]; decide
  have hf := Pl.first_letter (Pl.word_first h h0)
  have := special_nan s w _ (by rcases hf with hf | hf <;> rw [hf] <;> decide) h0 rfl (by rw [Pl.cpl_map, h]; decide) (by rw [hsz]; decide)
  rw [hsz]; exact this

theorem parse_pos64 (s : ByteArray) (w : World) (W : List UInt8) (hW : W = [105, 110, 102] ∨ W = [105, 110, 102, 105, 110, 105, 116, 121] ∨ W = [43, 105, 110, 102] ∨ W = [43, 105, 110, 102, 105, 110, 105, 116, 121])
    (h : s.data.toList.map Pl.lowc = W) :
    Calls Try.prog 5 #[.string s, .bool false] w fun e w' => e = .returned (.tuple #[.int .u64 9218868437227405312, .int .i64 0]) ∧ w = w' :=
  pf64 s w 9218868437227405312 _ rfl (special_pos s w W hW h)

theorem parse_neg64 (s : ByteArray) (w : World) (W : List UInt8) (hW : W = [45, 105, 110, 102] ∨ W = [45, 105, 110, 102, 105, 110, 105, 116, 121])
    (h : s.data.toList.map Pl.lowc = W) :
    Calls Try.prog 5 #[.string s, .bool false] w fun e w' => e = .returned (.tuple #[.int .u64 18442240474082181120, .int .i64 0]) ∧ w = w' :=
  pf64 s w 18442240474082181120 _ rfl (special_neg s w W hW h)

theorem parse_pos32 (s : ByteArray) (w : World) (W : List UInt8) (hW : W = [105, 110, 102] ∨ W = [105, 110, 102, 105, 110, 105, 116, 121] ∨ W = [43, 105, 110, 102] ∨ W = [43, 105, 110, 102, 105, 110, 105, 116, 121])
    (h : s.data.toList.map Pl.lowc = W) :
    Calls Try.prog 5 #[.string s, .bool true] w fun e w' => e = .returned (.tuple #[.int .u64 2139095040, .int .i64 0]) ∧ w = w' :=
  pf32 s w w w w 0x7ff0000000000000 0x7f800000 0x7ff0000000000000 2139095040 _ rfl (by decide) (special_pos s w W hW h) (conv32_inf w) (conv64_inf w) (conv32_inf w)

theorem parse_neg32 (s : ByteArray) (w : World) (W : List UInt8) (hW : W = [45, 105, 110, 102] ∨ W = [45, 105, 110, 102, 105, 110, 105, 116, 121])
    (h : s.data.toList.map Pl.lowc = W) :
    Calls Try.prog 5 #[.string s, .bool true] w fun e w' => e = .returned (.tuple #[.int .u64 4286578688, .int .i64 0]) ∧ w = w' :=
  pf32 s w w w w 0xfff0000000000000 0xff800000 0xfff0000000000000 4286578688 _ rfl (by decide) (special_neg s w W hW h) (conv32_ninf w) (conv64_ninf w) (conv32_ninf w)

theorem parse_nan64 (s : ByteArray) (w : World) (h : s.data.toList.map Pl.lowc = [110, 97, 110]) :
    Calls Try.prog 5 #[.string s, .bool false] w fun e w' => e = .returned (.tuple #[.int .u64 9221120237041090561, .int .i64 0]) ∧ w = w' :=
  pf64 s w 9221120237041090561 _ rfl (special_nans s w h)

theorem parse_nan32 (s : ByteArray) (w : World) (h : s.data.toList.map Pl.lowc = [110, 97, 110]) :
    Calls Try.prog 5 #[.string s, .bool true] w fun e w' => (∃ g : Nat, 0x7f800000 < g % 2 ^ 31 ∧ g < 2 ^ 32 ∧ e = .returned (.tuple #[.int .u64 g, .int .i64 0])) ∧ Below w.heap.size w w' := by
  obtain ⟨g, hg1, _, hc⟩ := conv32_nan (b := 0x7FF8000000000001) (by decide) w
  obtain ⟨f2, hf1, _, hd⟩ := conv64_nan hg1 w.drew
  obtain ⟨g2, hg3, hg4, he⟩ := conv32_nan hf1 w.drew.drew
  refine (pf32 s w _ _ _ 0x7FF8000000000001 g f2 g2 _ rfl (by omega) (special_nans s w h) hc hd he).mono ?_
  rintro e w' ⟨rfl, rfl⟩
  exact ⟨⟨g2, hg3, hg4, rfl⟩, (Below.refl _ _).drew.drew.drew⟩
end Go.Proofs.Ytfbbileojddioaa
