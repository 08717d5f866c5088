/- FnExactSpecial: for each n, each choice of large letters and each float size the law answers true: inf and infinity, with a sign or none, and nan are read in letters of any size. No condition: every uint8, uint16 and bool. -/
import Derived.Test.YtfbbileojddioaaRows
import Derived.WalkKit
import Derived.ProofKit
import Derived.OpenShut
import Derived.Test.YtfbbileojddioaaPost
import Derived.Test.YtfbbileojddioaaT13
import Derived.Test.YtfbbileojddioaaS0
import Derived.Test.YtfbbileojddioaaS1
import Derived.Test.YtfbbileojddioaaS2
import Derived.Test.YtfbbileojddioaaS3
namespace Go.Proofs.Ytfbbileojddioaa.fnExactSpecial
open Go.ChangeShapes Go.WideShapes Go.ChangeAt Go.RowKit

theorem own : ownKnob Try.prog.godebug = none := by kernel_rfl

/-! ### The walk: the word's number decided, each case out of its contracts -/
theorem walk (a0 : Int) (a1 : Int) (a2 : Bool) (w0 : (Lit.int .u8 a0).wf = true) (w : World) :
    Calls Try.prog 3 #[.int .u8 a0, .int .u16 a1, .bool a2] w fun e w' => e = .returned (.bool true) ∧ Below w.heap.size w w' := by
  have hb := bounds_u8 w0
  have hr : a0 % 7 = 0 ∨ a0 % 7 = 1 ∨ a0 % 7 = 2 ∨ a0 % 7 = 3 ∨ a0 % 7 = 4 ∨ a0 % 7 = 5 ∨ a0 % 7 = 6 := by omega
  have q : ∀ r : Int, a0 % 7 = r → r ≠ 6 → (a0 % 7 == 6) = false := fun r h h' => beq_eq_false_iff_ne.2 (by rw [h]; exact h')
  cases a2
  · rcases hr with hr | hr | hr | hr | hr | hr | hr
    · exact law_inf a0 a1 _ false w (fun s => s.data.toList.map Pl.lowc = [105, 110, 102]) hb.1 hb.2 (q _ hr (by decide)) (special_spec_0d a0 a1 w hb.1 hb.2 hr) (fun s w h => parse_pos64 s w _ (.inl rfl) h)
    · exact law_inf a0 a1 _ false w (fun s => s.data.toList.map Pl.lowc = [43, 105, 110, 102]) hb.1 hb.2 (q _ hr (by decide)) (special_spec_1d a0 a1 w hb.1 hb.2 hr) (fun s w h => parse_pos64 s w _ (.inr (.inr (.inl rfl))) h)
    · exact law_inf a0 a1 _ false w (fun s => s.data.toList.map Pl.lowc = [45, 105, 110, 102]) hb.1 hb.2 (q _ hr (by decide)) (special_spec_2d a0 a1 w hb.1 hb.2 hr) (fun s w h => parse_neg64 s w _ (.inl rfl) h)
    · exact law_inf a0 a1 _ false w (fun s => s.data.toList.map Pl.lowc = [105, 110, 102, 105, 110, 105, 116, 121]) hb.1 hb.2 (q _ hr (by decide)) (special_spec_3d a0 a1 w hb.1 hb.2 hr) (fun s w h => parse_pos64 s w _ (.inr (.inl rfl)) h)
    · exact law_inf a0 a1 _ false w (fun s => s.data.toList.map Pl.lowc = [43, 105, 110, 102, 105, 110, 105, 116, 121]) hb.1 hb.2 (q _ hr (by decide)) (special_spec_4d a0 a1 w hb.1 hb.2 hr) (fun s w h => parse_pos64 s w _ (.inr (.inr (.inr rfl))) h)
    · exact law_inf a0 a1 _ false w (fun s => s.data.toList.map Pl.lowc = [45, 105, 110, 102, 105, 110, 105, 116, 121]) hb.1 hb.2 (q _ hr (by decide)) (special_spec_5d a0 a1 w hb.1 hb.2 hr) (fun s w h => parse_neg64 s w _ (.inr rfl) h)
    · exact law_nan a0 a1 _ false w (fun s => s.data.toList.map Pl.lowc = [110, 97, 110]) (fun g => g = 9221120237041090561) hb.1 hb.2 (by rw [hr]; rfl) dblV (special_spec_6d a0 a1 w hb.1 hb.2 hr)
        (fun s w h => (parse_nan64 s w h).mono fun e w' ⟨he, hw⟩ => ⟨⟨9221120237041090561, rfl, he⟩, hw ▸ Below.refl _ _⟩) formatOf_double (fun g w h => by subst h; exact isNaN64 9221120237041090561 w (by decide) (by decide))
  · rcases hr with hr | hr | hr | hr | hr | hr | hr
    · exact law_inf a0 a1 _ true w (fun s => s.data.toList.map Pl.lowc = [105, 110, 102]) hb.1 hb.2 (q _ hr (by decide)) (special_spec_0s a0 a1 w hb.1 hb.2 hr) (fun s w h => parse_pos32 s w _ (.inl rfl) h)
    · exact law_inf a0 a1 _ true w (fun s => s.data.toList.map Pl.lowc = [43, 105, 110, 102]) hb.1 hb.2 (q _ hr (by decide)) (special_spec_1s a0 a1 w hb.1 hb.2 hr) (fun s w h => parse_pos32 s w _ (.inr (.inr (.inl rfl))) h)
    · exact law_inf a0 a1 _ true w (fun s => s.data.toList.map Pl.lowc = [45, 105, 110, 102]) hb.1 hb.2 (q _ hr (by decide)) (special_spec_2s a0 a1 w hb.1 hb.2 hr) (fun s w h => parse_neg32 s w _ (.inl rfl) h)
    · exact law_inf a0 a1 _ true w (fun s => s.data.toList.map Pl.lowc = [105, 110, 102, 105, 110, 105, 116, 121]) hb.1 hb.2 (q _ hr (by decide)) (special_spec_3s a0 a1 w hb.1 hb.2 hr) (fun s w h => parse_pos32 s w _ (.inr (.inl rfl)) h)
    · exact law_inf a0 a1 _ true w (fun s => s.data.toList.map Pl.lowc = [43, 105, 110, 102, 105, 110, 105, 116, 121]) hb.1 hb.2 (q _ hr (by decide)) (special_spec_4s a0 a1 w hb.1 hb.2 hr) (fun s w h => parse_pos32 s w _ (.inr (.inr (.inr rfl))) h)
    · exact law_inf a0 a1 _ true w (fun s => s.data.toList.map Pl.lowc = [45, 105, 110, 102, 105, 110, 105, 116, 121]) hb.1 hb.2 (q _ hr (by decide)) (special_spec_5s a0 a1 w hb.1 hb.2 hr) (fun s w h => parse_neg32 s w _ (.inr rfl) h)
    · exact law_nan a0 a1 _ true w (fun s => s.data.toList.map Pl.lowc = [110, 97, 110]) (fun g => 0x7f800000 < g % 2 ^ 31 ∧ g < 2 ^ 32) hb.1 hb.2 (by rw [hr]; rfl) sglV (special_spec_6s a0 a1 w hb.1 hb.2 hr)
        (fun s w h => (parse_nan32 s w h).mono fun e w' ⟨⟨g, h1, h2, he⟩, hw⟩ => ⟨⟨g, ⟨h1, h2⟩, he⟩, hw⟩) formatOf_single (fun g w h => isNaN32 g w h.1 h.2)

/-! ### THE ROW's STEP: WRITTEN OUT: LEAVE IT -/
set_option maxRecDepth 100000 in
theorem lifted (os : Os) (started : os.Started) (H : Type) (enc : TypeId × Value → H) :
    ReturnsInHanded {} Try.checked os 3 .any (Rows.fnExactSpecialSpec.pre6 enc Try.prog Try.f3 Rows.fnExactSpecialRow.domain false) (Rows.fnExactSpecialSpec.post enc Try.prog Try.f3 false true false false) := by
  refine returnsInHanded_of_change (C := Try.checked) own started (by kernel_rfl) Try.func3
    (ChangeSpec.witness6 (enc := enc) (C := Try.checked) false ⟨#[], #[.int .u8 0, .int .u16 0, .bool false], []⟩ 8 (by kernel_rfl) (by kernel_rfl) (by kernel_rfl) (by kernel_rfl)) ?_
  intro W base args ds gs before hval0 hW hcnd _
  have hval : ∀ (j : Nat) t v, Try.f3.params[j]? = some t → args[j]? = some v → Value.okWide Try.prog W .any base t v := hval0
  have hW' := hW
  obtain ⟨p, q, hA0, hV, rfl, hfz, hnd⟩ := hW
  have hA : DataW.TrodAll enc Try.prog W 0 (fun _ => true) true Try.f3.params.toList args.toList ds p := hA0
  rw [Try.params3] at hA hval
  obtain ⟨v0, vs0, d0, ds0, p0, q0, hargs, rfl, rfl, h0, r0⟩ := trodAll_cons hA
  obtain ⟨v1, vs1, d1, ds1, p1, q1, rfl, rfl, rfl, h1, r1⟩ := trodAll_cons r0
  obtain ⟨v2, vs2, d2, ds2, p2, q2, rfl, rfl, rfl, h2, r2⟩ := trodAll_cons r1
  obtain ⟨rfl, rfl, rfl⟩ := trodAll_nil r2
  obtain rfl : args = #[v0, v1, v2] := by cases args; simp_all
  obtain ⟨rfl, rfl⟩ := trodVars_none hV
  obtain ⟨a0, rfl, rfl, rfl, w0⟩ := open_int Try.underlying5 (hval 0 5 v0 rfl rfl) h0
  obtain ⟨a1, rfl, rfl, rfl, w1⟩ := open_int Try.underlying22 (hval 1 22 v1 rfl rfl) h1
  obtain ⟨a2, rfl, rfl, rfl⟩ := open_bool Try.underlying4 (hval 2 4 v2 rfl rfl) h2
  clear hA0 hval0
  simp only [List.append_nil] at hW'
  refine (walk a0 a1 a2 w0 W).mono fun e W' ⟨he, hg⟩ => ?_
  subst he
  exact ⟨_, rfl, below_post (pa := []) (pv := []) hW' (fun _ _ _ => (trodAll_cons_mk (shut_bool Try.underlying4 _) trodAll_mk0)) (fun sp _ => (trodAll_cons_mk (shut_int Try.underlying5 w0) (trodAll_cons_mk (shut_int Try.underlying22 w1) (trodAll_cons_mk (shut_bool Try.underlying4 _) trodAll_mk0)))) (fun _ _ => rfl) rfl
    hg (ok_one (by kernel_rfl) rfl (okWide_bool_mk Try.underlying4 _))⟩

theorem over : Rows.fnExactSpecialRow.holds Try.pinned (OpenSpec.ofChange Rows.fnExactSpecialSpec) :=
  OpenClaim.holds_of_wide 3 Try.f3 rfl rfl rfl rfl rfl rfl rfl ⟨rfl, rfl, rfl, rfl, rfl⟩ rfl rfl rfl rfl rfl (by kernel_rfl) Try.func3 (by kernel_rfl)
    (of_decide_eq_true (by kernel_rfl)) (by unfold Func.isWrapper; first | (rw [if_pos (by decide +kernel)]; kernel_rfl) | (rw [if_neg (by decide +kernel)]; exact ⟨rfl, rfl⟩))
    (fun os started H enc _ => lifted os started H enc)

/-- ████ THE STATEMENT ████ -/
theorem proved : Rows.FnExactSpecialSaid :=
  over
end Go.Proofs.Ytfbbileojddioaa.fnExactSpecial
