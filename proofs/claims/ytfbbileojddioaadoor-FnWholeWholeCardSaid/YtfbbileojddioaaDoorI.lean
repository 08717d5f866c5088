/- formatBase10. -/
import Derived.Test.YtfbbileojddioaaDoorPl3
import Derived.BigRegion
import Derived.Deep.CutRange
namespace Go.Proofs.YtfbbileojddioaaDoor
open Go.RowKit

theorem sm0F : ∀ y : Fin 100, ((⟨#[48, 48, 48, 49, 48, 50, 48, 51, 48, 52, 48, 53, 48, 54, 48, 55, 48, 56, 48, 57, 49, 48, 49, 49, 49, 50, 49, 51, 49, 52, 49, 53, 49, 54, 49, 55, 49, 56, 49, 57, 50, 48, 50, 49, 50, 50, 50, 51, 50, 52, 50, 53, 50, 54, 50, 55, 50, 56, 50, 57, 51, 48, 51, 49, 51, 50, 51, 51, 51, 52, 51, 53, 51, 54, 51, 55, 51, 56, 51, 57, 52, 48, 52, 49, 52, 50, 52, 51, 52, 52, 52, 53, 52, 54, 52, 55, 52, 56, 52, 57, 53, 48, 53, 49, 53, 50, 53, 51, 53, 52, 53, 53, 53, 54, 53, 55, 53, 56, 53, 57, 54, 48, 54, 49, 54, 50, 54, 51, 54, 52, 54, 53, 54, 54, 54, 55, 54, 56, 54, 57, 55, 48, 55, 49, 55, 50, 55, 51, 55, 52, 55, 53, 55, 54, 55, 55, 55, 56, 55, 57, 56, 48, 56, 49, 56, 50, 56, 51, 56, 52, 56, 53, 56, 54, 56, 55, 56, 56, 56, 57, 57, 48, 57, 49, 57, 50, 57, 51, 57, 52, 57, 53, 57, 54, 57, 55, 57, 56, 57, 57]⟩ : ByteArray)[y.val * 2]'(by have := y.isLt; show y.val * 2 < 200; omega)).toNat = 48 + y.val / 10 := by decide +kernel
theorem sm1F : ∀ y : Fin 100, ((⟨#[48, 48, 48, 49, 48, 50, 48, 51, 48, 52, 48, 53, 48, 54, 48, 55, 48, 56, 48, 57, 49, 48, 49, 49, 49, 50, 49, 51, 49, 52, 49, 53, 49, 54, 49, 55, 49, 56, 49, 57, 50, 48, 50, 49, 50, 50, 50, 51, 50, 52, 50, 53, 50, 54, 50, 55, 50, 56, 50, 57, 51, 48, 51, 49, 51, 50, 51, 51, 51, 52, 51, 53, 51, 54, 51, 55, 51, 56, 51, 57, 52, 48, 52, 49, 52, 50, 52, 51, 52, 52, 52, 53, 52, 54, 52, 55, 52, 56, 52, 57, 53, 48, 53, 49, 53, 50, 53, 51, 53, 52, 53, 53, 53, 54, 53, 55, 53, 56, 53, 57, 54, 48, 54, 49, 54, 50, 54, 51, 54, 52, 54, 53, 54, 54, 54, 55, 54, 56, 54, 57, 55, 48, 55, 49, 55, 50, 55, 51, 55, 52, 55, 53, 55, 54, 55, 55, 55, 56, 55, 57, 56, 48, 56, 49, 56, 50, 56, 51, 56, 52, 56, 53, 56, 54, 56, 55, 56, 56, 56, 57, 57, 48, 57, 49, 57, 50, 57, 51, 57, 52, 57, 53, 57, 54, 57, 55, 57, 56, 57, 57]⟩ : ByteArray)[y.val * 2 + 1]'(by have := y.isLt; show y.val * 2 + 1 < 200; omega)).toNat = 48 + y.val % 10 := by decide +kernel

theorem sm0 (p : Nat) (h : p * 2 < 200) : ((⟨#[48, 48, 48, 49, 48, 50, 48, 51, 48, 52, 48, 53, 48, 54, 48, 55, 48, 56, 48, 57, 49, 48, 49, 49, 49, 50, 49, 51, 49, 52, 49, 53, 49, 54, 49, 55, 49, 56, 49, 57, 50, 48, 50, 49, 50, 50, 50, 51, 50, 52, 50, 53, 50, 54, 50, 55, 50, 56, 50, 57, 51, 48, 51, 49, 51, 50, 51, 51, 51, 52, 51, 53, 51, 54, 51, 55, 51, 56, 51, 57, 52, 48, 52, 49, 52, 50, 52, 51, 52, 52, 52, 53, 52, 54, 52, 55, 52, 56, 52, 57, 53, 48, 53, 49, 53, 50, 53, 51, 53, 52, 53, 53, 53, 54, 53, 55, 53, 56, 53, 57, 54, 48, 54, 49, 54, 50, 54, 51, 54, 52, 54, 53, 54, 54, 54, 55, 54, 56, 54, 57, 55, 48, 55, 49, 55, 50, 55, 51, 55, 52, 55, 53, 55, 54, 55, 55, 55, 56, 55, 57, 56, 48, 56, 49, 56, 50, 56, 51, 56, 52, 56, 53, 56, 54, 56, 55, 56, 56, 56, 57, 57, 48, 57, 49, 57, 50, 57, 51, 57, 52, 57, 53, 57, 54, 57, 55, 57, 56, 57, 57]⟩ : ByteArray)[p * 2]'h).toNat = 48 + p / 10 := sm0F ⟨p, by omega⟩

theorem sm1 (p : Nat) (h : p * 2 + 1 < 200) : ((⟨#[48, 48, 48, 49, 48, 50, 48, 51, 48, 52, 48, 53, 48, 54, 48, 55, 48, 56, 48, 57, 49, 48, 49, 49, 49, 50, 49, 51, 49, 52, 49, 53, 49, 54, 49, 55, 49, 56, 49, 57, 50, 48, 50, 49, 50, 50, 50, 51, 50, 52, 50, 53, 50, 54, 50, 55, 50, 56, 50, 57, 51, 48, 51, 49, 51, 50, 51, 51, 51, 52, 51, 53, 51, 54, 51, 55, 51, 56, 51, 57, 52, 48, 52, 49, 52, 50, 52, 51, 52, 52, 52, 53, 52, 54, 52, 55, 52, 56, 52, 57, 53, 48, 53, 49, 53, 50, 53, 51, 53, 52, 53, 53, 53, 54, 53, 55, 53, 56, 53, 57, 54, 48, 54, 49, 54, 50, 54, 51, 54, 52, 54, 53, 54, 54, 54, 55, 54, 56, 54, 57, 55, 48, 55, 49, 55, 50, 55, 51, 55, 52, 55, 53, 55, 54, 55, 55, 55, 56, 55, 57, 56, 48, 56, 49, 56, 50, 56, 51, 56, 52, 56, 53, 56, 54, 56, 55, 56, 56, 56, 57, 57, 48, 57, 49, 57, 50, 57, 51, 57, 52, 57, 53, 57, 54, 57, 55, 57, 56, 57, 57]⟩ : ByteArray)[p * 2 + 1]'h).toNat = 48 + p % 10 := sm1F ⟨p, by omega⟩

theorem FT.pair2 {U nd B off len : Nat} {W : World} {x n : Nat} (h : FT U nd B off len W x (n + 2)) (p : Nat) (hp : p = x % 100) (v1 v0 : Int) (h1 : v1 = ((48 + p % 10 : Nat) : Int)) (h0 : v0 = ((48 + p / 10 : Nat) : Int)) :
    FT U nd B off len (((W.setCell ⟨B, off + (n + 1), none⟩ (.int .u8 v1)).setCell ⟨B, off + n, none⟩ (.int .u8 v0)).drew) (x / 100) n := by
  subst h1; subst h0
  exact h.pair p hp
theorem pair_below {W0 W : World} {B : Nat} (h : Below B W0 W) (o1 o0 : Nat) (v1 v0 : Value) : Below B W0 (((W.setCell ⟨B, o1, none⟩ v1).setCell ⟨B, o0, none⟩ v0).drew) :=
  ((h.setCell (Nat.le_refl _) _).setCell (Nat.le_refl _) _).drew

set_option maxRecDepth 100000 in
set_option maxHeartbeats 4000000 in
theorem base10_any (U nd B off len cap : Nat) (W0 : World) (L0 : List UInt8) (hl : L0.length = len) (hoff : off + nd ≤ len) (hnd : 1 ≤ nd) (hnd20 : nd ≤ 20)
    (hU : U < 2 ^ 64) (hfit : U < 10 ^ nd) (ho : Owns W0 B L0) :
    Calls Tryd.prog 23 #[.slice (some ⟨B, off, none⟩) nd cap, .int .u64 U] W0 fun e w' => e = .returned (.tuple #[]) ∧ (∃ x, FT U nd B off len w' x 0) ∧ Below B W0 w' := by
  have H0 : Hid (FT U nd B off len W0 U nd) := Lib.hid ⟨L0, hl, hoff, Nat.le_refl _, ho, by simp, fun i h1 h2 => by omega⟩
  have HU : Hid (U < 10 ^ nd) := Lib.hid hfit
  clear ho hl hfit
  go_enter Tryd.func23, Tryd.ntmps23
  go_wp2_with fail
  go_loopw [1, 4] (fun u n wr => ∃ x m : Nat, u = .int .u64 x ∧ n = .int .i64 m ∧ m ≤ nd ∧ FT U nd B off len wr x m ∧ Below B W0 wr) (fun _ n _ => (intOf n).toNat)
  case atStart => exact ⟨U, nd, rfl, rfl, Nat.le_refl _, H0.out, Below.refl _ _⟩
  case round =>
    obtain ⟨x, m, rfl, rfl, hm, hft, hbel⟩ := hrel
    have HF0 := Lib.hid hft
    have HB0 := Lib.hid hbel
    clear hft hbel
    by_cases h8 : 8 ≤ m
    · obtain ⟨n, rfl⟩ : ∃ n, m = n + 8 := ⟨m - 8, by omega⟩
      have hxU : x < 2 ^ 64 := by
        obtain ⟨_, _, _, _, _, hx, _⟩ := HF0.out
        have : U / 10 ^ (nd - (n + 8)) ≤ U := Nat.div_le_self _ _
        omega
      have hd8 : decide ((8 : Int) ≤ (n : Int) + 8) = true := decide_eq_true (by omega)
      obtain ⟨y, z, hy, hz, hz8, ec, ez⟩ : ∃ y z : Nat, Hid (y = x / 100000000) ∧ Hid (z = x % 100000000) ∧ z < 100000000 ∧ (x : Int) / 100000000 = (y : Int) ∧ (x : Int) % 100000000 = (z : Int) :=
        ⟨x / 100000000, x % 100000000, Lib.hid rfl, Lib.hid rfl, by omega, by omega, by omega⟩
      obtain ⟨za, zb, hza, hzb, hza8, hzb8, ea, eb⟩ : ∃ za zb : Nat, Hid (za = z / 10000) ∧ Hid (zb = z % 10000) ∧ za < 10000 ∧ zb < 10000 ∧ (z : Int) / 10000 = (za : Int) ∧ (z : Int) % 10000 = (zb : Int) :=
        ⟨z / 10000, z % 10000, Lib.hid rfl, Lib.hid rfl, by omega, by omega, by omega, by omega⟩
      obtain ⟨p3, p2, hp3, hp2, hp38, hp28, ep3, ep2⟩ : ∃ a b : Nat, Hid (a = za / 100) ∧ Hid (b = za % 100) ∧ a < 100 ∧ b < 100 ∧ (za : Int) / 100 = (a : Int) ∧ (za : Int) % 100 = (b : Int) :=
        ⟨za / 100, za % 100, Lib.hid rfl, Lib.hid rfl, by omega, by omega, by omega, by omega⟩
      obtain ⟨p1, p0, hp1, hp0, hp18, hp08, ep1, ep0⟩ : ∃ a b : Nat, Hid (a = zb / 100) ∧ Hid (b = zb % 100) ∧ a < 100 ∧ b < 100 ∧ (zb : Int) / 100 = (a : Int) ∧ (zb : Int) % 100 = (b : Int) :=
        ⟨zb / 100, zb % 100, Lib.hid rfl, Lib.hid rfl, by omega, by omega, by omega, by omega⟩
      have HP : Hid (p0 = x % 100 ∧ p1 = x / 100 % 100 ∧ p2 = x / 100 / 100 % 100 ∧ p3 = x / 100 / 100 / 100 % 100 ∧ y = x / 100 / 100 / 100 / 100) := Lib.hid (by
        have a1 := hy.out; have a2 := hz.out; have a3 := hza.out; have a4 := hzb.out; have a5 := hp3.out; have a6 := hp2.out; have a7 := hp1.out; have a8 := hp0.out
        omega)
      clear hy hz hza hzb hp3 hp2 hp1 hp0

      go_upto_region 7 with fail
      go_cut [] from 19 to 95 (fun wx => FT U nd B off len wx (x / 100) (n + 6) ∧ Below B W0 wx)
      case first =>
        obtain ⟨⟨ca, hca⟩, hfa⟩ := HF0.out.cells (n + 7) (by omega)
        obtain ⟨⟨cb, hcb⟩, hfb⟩ := HF0.out.cells (n + 6) (by omega)
        try simp only [Nat.add_zero] at hcb hfb
        have b1 : (p0 : Int) * 2 < 200 := by omega
        have b2 : (p0 : Int) * 2 + 1 < 200 := by omega
        have b3 : IntKind.u32.wrap ((p0 : Int) * 2 + 1) = (p0 : Int) * 2 + 1 := by rw [IntKind.wrap_u32]; omega
        have b4 : 0 ≤ (p0 : Int) * 2 := by omega
        have b5 : 0 ≤ (p0 : Int) * 2 + 1 := by omega
        go_region
        all_goals (go_wp2_with fail)
        all_goals go_meet
        all_goals exact ⟨HF0.out.pair2 p0 HP.out.1 _ _ (congrArg Nat.cast (sm1 p0 (by omega))) (congrArg Nat.cast (sm0 p0 (by omega))), pair_below HB0.out _ _ _ _⟩
      case rest =>
        obtain ⟨hq1, hq2⟩ := hcut
        have HF1 := Lib.hid hq1
        have HB1 := Lib.hid hq2
        clear hq1 hq2
        go_upto_region 8 with fail
        go_cut [] from 19 to 95 (fun wx => FT U nd B off len wx (x / 100 / 100) (n + 4) ∧ Below B W0 wx)
        case first =>
          obtain ⟨⟨ca, hca⟩, hfa⟩ := HF1.out.cells (n + 5) (by omega)
          obtain ⟨⟨cb, hcb⟩, hfb⟩ := HF1.out.cells (n + 4) (by omega)
          try simp only [Nat.add_zero] at hcb hfb
          have b1 : (p1 : Int) * 2 < 200 := by omega
          have b2 : (p1 : Int) * 2 + 1 < 200 := by omega
          have b3 : IntKind.u32.wrap ((p1 : Int) * 2 + 1) = (p1 : Int) * 2 + 1 := by rw [IntKind.wrap_u32]; omega
          have b4 : 0 ≤ (p1 : Int) * 2 := by omega
          have b5 : 0 ≤ (p1 : Int) * 2 + 1 := by omega
          go_region
          all_goals (go_wp2_with fail)
          all_goals go_meet
          all_goals exact ⟨HF1.out.pair2 p1 HP.out.2.1 _ _ (congrArg Nat.cast (sm1 p1 (by omega))) (congrArg Nat.cast (sm0 p1 (by omega))), pair_below HB1.out _ _ _ _⟩
        case rest =>
          obtain ⟨hq1, hq2⟩ := hcut
          have HF2 := Lib.hid hq1
          have HB2 := Lib.hid hq2
          clear hq1 hq2
          go_upto_region 9 with fail
          go_cut [] from 19 to 95 (fun wx => FT U nd B off len wx (x / 100 / 100 / 100) (n + 2) ∧ Below B W0 wx)
          case first =>
            obtain ⟨⟨ca, hca⟩, hfa⟩ := HF2.out.cells (n + 3) (by omega)
            obtain ⟨⟨cb, hcb⟩, hfb⟩ := HF2.out.cells (n + 2) (by omega)
            try simp only [Nat.add_zero] at hcb hfb
            have b1 : (p2 : Int) * 2 < 200 := by omega
            have b2 : (p2 : Int) * 2 + 1 < 200 := by omega
            have b3 : IntKind.u32.wrap ((p2 : Int) * 2 + 1) = (p2 : Int) * 2 + 1 := by rw [IntKind.wrap_u32]; omega
            have b4 : 0 ≤ (p2 : Int) * 2 := by omega
            have b5 : 0 ≤ (p2 : Int) * 2 + 1 := by omega
            go_region
            all_goals (go_wp2_with fail)
            all_goals go_meet
            all_goals exact ⟨HF2.out.pair2 p2 HP.out.2.2.1 _ _ (congrArg Nat.cast (sm1 p2 (by omega))) (congrArg Nat.cast (sm0 p2 (by omega))), pair_below HB2.out _ _ _ _⟩
          case rest =>
            obtain ⟨hq1, hq2⟩ := hcut
            have HF3 := Lib.hid hq1
            have HB3 := Lib.hid hq2
            clear hq1 hq2
            go_upto_region 10 with fail
            go_cut [] from 19 to 95 (fun wx => FT U nd B off len wx (x / 100 / 100 / 100 / 100) n ∧ Below B W0 wx)
            case first =>
              obtain ⟨⟨ca, hca⟩, hfa⟩ := HF3.out.cells (n + 1) (by omega)
              obtain ⟨⟨cb, hcb⟩, hfb⟩ := HF3.out.cells n (by omega)
              try simp only [Nat.add_zero] at hcb hfb
              have b1 : (p3 : Int) * 2 < 200 := by omega
              have b2 : (p3 : Int) * 2 + 1 < 200 := by omega
              have b3 : IntKind.u32.wrap ((p3 : Int) * 2 + 1) = (p3 : Int) * 2 + 1 := by rw [IntKind.wrap_u32]; omega
              have b4 : 0 ≤ (p3 : Int) * 2 := by omega
              have b5 : 0 ≤ (p3 : Int) * 2 + 1 := by omega
              go_region
              all_goals (go_wp2_with fail)
              all_goals go_meet
              all_goals exact ⟨HF3.out.pair2 p3 HP.out.2.2.2.1 _ _ (congrArg Nat.cast (sm1 p3 (by omega))) (congrArg Nat.cast (sm0 p3 (by omega))), pair_below HB3.out _ _ _ _⟩
            case rest =>
              obtain ⟨hq1, hq2⟩ := hcut
              have HF4 := Lib.hid hq1
              have HB4 := Lib.hid hq2
              clear hq1 hq2
              go_wp2
              all_goals go_roundw
              case rel =>
                exact ⟨y, n, rfl, rfl, by omega, by rw [HP.out.2.2.2.2]; exact HF4.out, HB4.out⟩
              case measure => simp only [intOf]; omega
    · have hx10 : x < 10 ^ m := by
        obtain ⟨_, _, _, hmn, _, hx, _⟩ := HF0.out
        rw [hx]
        apply Nat.div_lt_of_lt_mul
        rw [← Nat.pow_add, show nd - m + m = nd from by omega]
        exact HU.out
      obtain rfl | rfl | rfl | rfl | rfl | rfl | rfl | rfl : m = 0 ∨ m = 1 ∨ m = 2 ∨ m = 3 ∨ m = 4 ∨ m = 5 ∨ m = 6 ∨ m = 7 := by omega
      · have hxb : x < 1 := hx10
        clear hx10 h8
        go_wp2
        all_goals go_end0
        all_goals exact ⟨rfl, ⟨_, HF0.out⟩, HB0.out⟩
      · have hxb : x < 10 := hx10
        clear hx10 h8
        obtain ⟨⟨ca, hca⟩, hfa⟩ := HF0.out.cells 0 (by omega)
        simp only [Nat.add_zero] at hca hfa
        have e48 : IntKind.u32.wrap (48 + (x : Int)) = 48 + (x : Int) := by rw [IntKind.wrap_u32]; omega
        go_wp2
        all_goals go_end0
        all_goals exact ⟨rfl, ⟨_, HF0.out.one _ (by omega)⟩, HB0.out.setCell (Nat.le_refl _) _⟩
      · have hxb : x < 100 := hx10
        clear hx10 h8
        obtain ⟨q, p, hq, hp, hq8, hp8, eq, ep⟩ : ∃ a b : Nat, Hid (a = x / 100) ∧ Hid (b = x % 100) ∧ a < 1 ∧ b < 100 ∧ (x : Int) / 100 = (a : Int) ∧ (x : Int) % 100 = (b : Int) := ⟨x / 100, x % 100, Lib.hid rfl, Lib.hid rfl, by omega, by omega, by omega, by omega⟩
        go_upto_region 23 with fail
        go_cut [] from 110 (fun wx => FT U nd B off len wx (x / 100) 0 ∧ Below B W0 wx)
        case first =>
          obtain ⟨⟨ca, hca⟩, hfa⟩ := HF0.out.cells 1 (by omega)
          obtain ⟨⟨cb, hcb⟩, hfb⟩ := HF0.out.cells 0 (by omega)
          try simp only [Nat.add_zero] at hcb hfb
          have b1 : (p : Int) * 2 < 200 := by omega
          have b2 : (p : Int) * 2 + 1 < 200 := by omega
          have b3 : IntKind.u32.wrap ((p : Int) * 2 + 1) = (p : Int) * 2 + 1 := by rw [IntKind.wrap_u32]; omega
          have b4 : 0 ≤ (p : Int) * 2 := by omega
          have b5 : 0 ≤ (p : Int) * 2 + 1 := by omega
          go_region
          all_goals (go_wp2_with fail)
          all_goals go_meet
          all_goals exact ⟨HF0.out.pair2 p (by have a5 := hp.out; omega) _ _ (congrArg Nat.cast (sm1 p (by omega))) (congrArg Nat.cast (sm0 p (by omega))), pair_below HB0.out _ _ _ _⟩
        case rest =>
          obtain ⟨hq1, hq2⟩ := hcut
          have HF1 := Lib.hid hq1
          have HB1 := Lib.hid hq2
          clear hq1 hq2
          go_wp2
          all_goals go_end0
          all_goals exact ⟨rfl, ⟨_, HF1.out⟩, HB1.out⟩
      · have hxb : x < 1000 := hx10
        clear hx10 h8
        obtain ⟨q, p, hq, hp, hq8, hp8, eq, ep⟩ : ∃ a b : Nat, Hid (a = x / 100) ∧ Hid (b = x % 100) ∧ a < 10 ∧ b < 100 ∧ (x : Int) / 100 = (a : Int) ∧ (x : Int) % 100 = (b : Int) := ⟨x / 100, x % 100, Lib.hid rfl, Lib.hid rfl, by omega, by omega, by omega, by omega⟩
        go_upto_region 23 with fail
        go_cut [] from 110 (fun wx => FT U nd B off len wx (x / 100) 1 ∧ Below B W0 wx)
        case first =>
          obtain ⟨⟨ca, hca⟩, hfa⟩ := HF0.out.cells 2 (by omega)
          obtain ⟨⟨cb, hcb⟩, hfb⟩ := HF0.out.cells 1 (by omega)
          try simp only [Nat.add_zero] at hcb hfb
          have b1 : (p : Int) * 2 < 200 := by omega
          have b2 : (p : Int) * 2 + 1 < 200 := by omega
          have b3 : IntKind.u32.wrap ((p : Int) * 2 + 1) = (p : Int) * 2 + 1 := by rw [IntKind.wrap_u32]; omega
          have b4 : 0 ≤ (p : Int) * 2 := by omega
          have b5 : 0 ≤ (p : Int) * 2 + 1 := by omega
          go_region
          all_goals (go_wp2_with fail)
          all_goals go_meet
          all_goals exact ⟨HF0.out.pair2 p (by have a5 := hp.out; omega) _ _ (congrArg Nat.cast (sm1 p (by omega))) (congrArg Nat.cast (sm0 p (by omega))), pair_below HB0.out _ _ _ _⟩
        case rest =>
          obtain ⟨hq1, hq2⟩ := hcut
          have HF1 := Lib.hid hq1
          have HB1 := Lib.hid hq2
          clear hq1 hq2
          obtain ⟨⟨ca, hca⟩, hfa⟩ := HF1.out.cells 0 (by omega)
          simp only [Nat.add_zero] at hca hfa
          have e48 : IntKind.u32.wrap (48 + (q : Int)) = 48 + (q : Int) := by rw [IntKind.wrap_u32]; omega
          go_wp2
          all_goals go_end0
          all_goals exact ⟨rfl, ⟨_, HF1.out.one _ (by have a5 := hq.out; omega)⟩, HB1.out.setCell (Nat.le_refl _) _⟩
      · have hxb : x < 10000 := hx10
        clear hx10 h8
        obtain ⟨y, zb, hy, hzb, hy8, hzb8, ea, eb⟩ : ∃ za zb : Nat, Hid (za = x / 10000) ∧ Hid (zb = x % 10000) ∧ za < 1 ∧ zb < 10000 ∧ (x : Int) / 10000 = (za : Int) ∧ (x : Int) % 10000 = (zb : Int) := ⟨x / 10000, x % 10000, Lib.hid rfl, Lib.hid rfl, by omega, by omega, by omega, by omega⟩
        obtain ⟨p1, p0, hp1, hp0, hp18, hp08, ep1, ep0⟩ : ∃ a b : Nat, Hid (a = zb / 100) ∧ Hid (b = zb % 100) ∧ a < 100 ∧ b < 100 ∧ (zb : Int) / 100 = (a : Int) ∧ (zb : Int) % 100 = (b : Int) := ⟨zb / 100, zb % 100, Lib.hid rfl, Lib.hid rfl, by omega, by omega, by omega, by omega⟩
        go_upto_region 17 with fail
        go_cut [] from 110 (fun wx => FT U nd B off len wx (x / 100) 2 ∧ Below B W0 wx)
        case first =>
          obtain ⟨⟨ca, hca⟩, hfa⟩ := HF0.out.cells 3 (by omega)
          obtain ⟨⟨cb, hcb⟩, hfb⟩ := HF0.out.cells 2 (by omega)
          try simp only [Nat.add_zero] at hcb hfb
          have b1 : (p0 : Int) * 2 < 200 := by omega
          have b2 : (p0 : Int) * 2 + 1 < 200 := by omega
          have b3 : IntKind.u32.wrap ((p0 : Int) * 2 + 1) = (p0 : Int) * 2 + 1 := by rw [IntKind.wrap_u32]; omega
          have b4 : 0 ≤ (p0 : Int) * 2 := by omega
          have b5 : 0 ≤ (p0 : Int) * 2 + 1 := by omega
          go_region
          all_goals (go_wp2_with fail)
          all_goals go_meet
          all_goals exact ⟨HF0.out.pair2 p0 (by have a1 := hy.out; have a2 := hzb.out; have a3 := hp1.out; have a4 := hp0.out; omega) _ _ (congrArg Nat.cast (sm1 p0 (by omega))) (congrArg Nat.cast (sm0 p0 (by omega))), pair_below HB0.out _ _ _ _⟩
        case rest =>
          obtain ⟨hq1, hq2⟩ := hcut
          have HF1 := Lib.hid hq1
          have HB1 := Lib.hid hq2
          clear hq1 hq2
          go_upto_region 18 with fail
          go_cut [] from 110 (fun wx => FT U nd B off len wx (x / 100 / 100) 0 ∧ Below B W0 wx)
          case first =>
            obtain ⟨⟨ca, hca⟩, hfa⟩ := HF1.out.cells 1 (by omega)
            obtain ⟨⟨cb, hcb⟩, hfb⟩ := HF1.out.cells 0 (by omega)
            try simp only [Nat.add_zero] at hcb hfb
            have b1 : (p1 : Int) * 2 < 200 := by omega
            have b2 : (p1 : Int) * 2 + 1 < 200 := by omega
            have b3 : IntKind.u32.wrap ((p1 : Int) * 2 + 1) = (p1 : Int) * 2 + 1 := by rw [IntKind.wrap_u32]; omega
            have b4 : 0 ≤ (p1 : Int) * 2 := by omega
            have b5 : 0 ≤ (p1 : Int) * 2 + 1 := by omega
            go_region
            all_goals (go_wp2_with fail)
            all_goals go_meet
            all_goals exact ⟨HF1.out.pair2 p1 (by have a1 := hy.out; have a2 := hzb.out; have a3 := hp1.out; have a4 := hp0.out; omega) _ _ (congrArg Nat.cast (sm1 p1 (by omega))) (congrArg Nat.cast (sm0 p1 (by omega))), pair_below HB1.out _ _ _ _⟩
          case rest =>
            obtain ⟨hq1, hq2⟩ := hcut
            have HF2 := Lib.hid hq1
            have HB2 := Lib.hid hq2
            clear hq1 hq2
            go_wp2
            all_goals go_end0
            all_goals exact ⟨rfl, ⟨_, HF2.out⟩, HB2.out⟩
      · have hxb : x < 100000 := hx10
        clear hx10 h8
        obtain ⟨y, zb, hy, hzb, hy8, hzb8, ea, eb⟩ : ∃ za zb : Nat, Hid (za = x / 10000) ∧ Hid (zb = x % 10000) ∧ za < 10 ∧ zb < 10000 ∧ (x : Int) / 10000 = (za : Int) ∧ (x : Int) % 10000 = (zb : Int) := ⟨x / 10000, x % 10000, Lib.hid rfl, Lib.hid rfl, by omega, by omega, by omega, by omega⟩
        obtain ⟨p1, p0, hp1, hp0, hp18, hp08, ep1, ep0⟩ : ∃ a b : Nat, Hid (a = zb / 100) ∧ Hid (b = zb % 100) ∧ a < 100 ∧ b < 100 ∧ (zb : Int) / 100 = (a : Int) ∧ (zb : Int) % 100 = (b : Int) := ⟨zb / 100, zb % 100, Lib.hid rfl, Lib.hid rfl, by omega, by omega, by omega, by omega⟩
        go_upto_region 17 with fail
        go_cut [] from 110 (fun wx => FT U nd B off len wx (x / 100) 3 ∧ Below B W0 wx)
        case first =>
          obtain ⟨⟨ca, hca⟩, hfa⟩ := HF0.out.cells 4 (by omega)
          obtain ⟨⟨cb, hcb⟩, hfb⟩ := HF0.out.cells 3 (by omega)
          try simp only [Nat.add_zero] at hcb hfb
          have b1 : (p0 : Int) * 2 < 200 := by omega
          have b2 : (p0 : Int) * 2 + 1 < 200 := by omega
          have b3 : IntKind.u32.wrap ((p0 : Int) * 2 + 1) = (p0 : Int) * 2 + 1 := by rw [IntKind.wrap_u32]; omega
          have b4 : 0 ≤ (p0 : Int) * 2 := by omega
          have b5 : 0 ≤ (p0 : Int) * 2 + 1 := by omega
          go_region
          all_goals (go_wp2_with fail)
          all_goals go_meet
          all_goals exact ⟨HF0.out.pair2 p0 (by have a1 := hy.out; have a2 := hzb.out; have a3 := hp1.out; have a4 := hp0.out; omega) _ _ (congrArg Nat.cast (sm1 p0 (by omega))) (congrArg Nat.cast (sm0 p0 (by omega))), pair_below HB0.out _ _ _ _⟩
        case rest =>
          obtain ⟨hq1, hq2⟩ := hcut
          have HF1 := Lib.hid hq1
          have HB1 := Lib.hid hq2
          clear hq1 hq2
          go_upto_region 18 with fail
          go_cut [] from 110 (fun wx => FT U nd B off len wx (x / 100 / 100) 1 ∧ Below B W0 wx)
          case first =>
            obtain ⟨⟨ca, hca⟩, hfa⟩ := HF1.out.cells 2 (by omega)
            obtain ⟨⟨cb, hcb⟩, hfb⟩ := HF1.out.cells 1 (by omega)
            try simp only [Nat.add_zero] at hcb hfb
            have b1 : (p1 : Int) * 2 < 200 := by omega
            have b2 : (p1 : Int) * 2 + 1 < 200 := by omega
            have b3 : IntKind.u32.wrap ((p1 : Int) * 2 + 1) = (p1 : Int) * 2 + 1 := by rw [IntKind.wrap_u32]; omega
            have b4 : 0 ≤ (p1 : Int) * 2 := by omega
            have b5 : 0 ≤ (p1 : Int) * 2 + 1 := by omega
            go_region
            all_goals (go_wp2_with fail)
            all_goals go_meet
            all_goals exact ⟨HF1.out.pair2 p1 (by have a1 := hy.out; have a2 := hzb.out; have a3 := hp1.out; have a4 := hp0.out; omega) _ _ (congrArg Nat.cast (sm1 p1 (by omega))) (congrArg Nat.cast (sm0 p1 (by omega))), pair_below HB1.out _ _ _ _⟩
          case rest =>
            obtain ⟨hq1, hq2⟩ := hcut
            have HF2 := Lib.hid hq1
            have HB2 := Lib.hid hq2
            clear hq1 hq2
            obtain ⟨⟨ca, hca⟩, hfa⟩ := HF2.out.cells 0 (by omega)
            simp only [Nat.add_zero] at hca hfa
            have e48 : IntKind.u32.wrap (48 + (y : Int)) = 48 + (y : Int) := by rw [IntKind.wrap_u32]; omega
            go_wp2
            all_goals go_end0
            all_goals exact ⟨rfl, ⟨_, HF2.out.one _ (by have a1 := hy.out; omega)⟩, HB2.out.setCell (Nat.le_refl _) _⟩
      · have hxb : x < 1000000 := hx10
        clear hx10 h8
        obtain ⟨y, zb, hy, hzb, hy8, hzb8, ea, eb⟩ : ∃ za zb : Nat, Hid (za = x / 10000) ∧ Hid (zb = x % 10000) ∧ za < 100 ∧ zb < 10000 ∧ (x : Int) / 10000 = (za : Int) ∧ (x : Int) % 10000 = (zb : Int) := ⟨x / 10000, x % 10000, Lib.hid rfl, Lib.hid rfl, by omega, by omega, by omega, by omega⟩
        obtain ⟨p1, p0, hp1, hp0, hp18, hp08, ep1, ep0⟩ : ∃ a b : Nat, Hid (a = zb / 100) ∧ Hid (b = zb % 100) ∧ a < 100 ∧ b < 100 ∧ (zb : Int) / 100 = (a : Int) ∧ (zb : Int) % 100 = (b : Int) := ⟨zb / 100, zb % 100, Lib.hid rfl, Lib.hid rfl, by omega, by omega, by omega, by omega⟩
        obtain ⟨q, p, hq, hp, hq8, hp8, eq, ep⟩ : ∃ a b : Nat, Hid (a = y / 100) ∧ Hid (b = y % 100) ∧ a < 1 ∧ b < 100 ∧ (y : Int) / 100 = (a : Int) ∧ (y : Int) % 100 = (b : Int) := ⟨y / 100, y % 100, Lib.hid rfl, Lib.hid rfl, by omega, by omega, by omega, by omega⟩
        go_upto_region 17 with fail
        go_cut [] from 110 (fun wx => FT U nd B off len wx (x / 100) 4 ∧ Below B W0 wx)
        case first =>
          obtain ⟨⟨ca, hca⟩, hfa⟩ := HF0.out.cells 5 (by omega)
          obtain ⟨⟨cb, hcb⟩, hfb⟩ := HF0.out.cells 4 (by omega)
          try simp only [Nat.add_zero] at hcb hfb
          have b1 : (p0 : Int) * 2 < 200 := by omega
          have b2 : (p0 : Int) * 2 + 1 < 200 := by omega
          have b3 : IntKind.u32.wrap ((p0 : Int) * 2 + 1) = (p0 : Int) * 2 + 1 := by rw [IntKind.wrap_u32]; omega
          have b4 : 0 ≤ (p0 : Int) * 2 := by omega
          have b5 : 0 ≤ (p0 : Int) * 2 + 1 := by omega
          go_region
          all_goals (go_wp2_with fail)
          all_goals go_meet
          all_goals exact ⟨HF0.out.pair2 p0 (by have a1 := hy.out; have a2 := hzb.out; have a3 := hp1.out; have a4 := hp0.out; omega) _ _ (congrArg Nat.cast (sm1 p0 (by omega))) (congrArg Nat.cast (sm0 p0 (by omega))), pair_below HB0.out _ _ _ _⟩
        case rest =>
          obtain ⟨hq1, hq2⟩ := hcut
          have HF1 := Lib.hid hq1
          have HB1 := Lib.hid hq2
          clear hq1 hq2
          go_upto_region 18 with fail
          go_cut [] from 110 (fun wx => FT U nd B off len wx (x / 100 / 100) 2 ∧ Below B W0 wx)
          case first =>
            obtain ⟨⟨ca, hca⟩, hfa⟩ := HF1.out.cells 3 (by omega)
            obtain ⟨⟨cb, hcb⟩, hfb⟩ := HF1.out.cells 2 (by omega)
            try simp only [Nat.add_zero] at hcb hfb
            have b1 : (p1 : Int) * 2 < 200 := by omega
            have b2 : (p1 : Int) * 2 + 1 < 200 := by omega
            have b3 : IntKind.u32.wrap ((p1 : Int) * 2 + 1) = (p1 : Int) * 2 + 1 := by rw [IntKind.wrap_u32]; omega
            have b4 : 0 ≤ (p1 : Int) * 2 := by omega
            have b5 : 0 ≤ (p1 : Int) * 2 + 1 := by omega
            go_region
            all_goals (go_wp2_with fail)
            all_goals go_meet
            all_goals exact ⟨HF1.out.pair2 p1 (by have a1 := hy.out; have a2 := hzb.out; have a3 := hp1.out; have a4 := hp0.out; omega) _ _ (congrArg Nat.cast (sm1 p1 (by omega))) (congrArg Nat.cast (sm0 p1 (by omega))), pair_below HB1.out _ _ _ _⟩
          case rest =>
            obtain ⟨hq1, hq2⟩ := hcut
            have HF2 := Lib.hid hq1
            have HB2 := Lib.hid hq2
            clear hq1 hq2
            go_upto_region 23 with fail
            go_cut [] from 110 (fun wx => FT U nd B off len wx (x / 100 / 100 / 100) 0 ∧ Below B W0 wx)
            case first =>
              obtain ⟨⟨ca, hca⟩, hfa⟩ := HF2.out.cells 1 (by omega)
              obtain ⟨⟨cb, hcb⟩, hfb⟩ := HF2.out.cells 0 (by omega)
              try simp only [Nat.add_zero] at hcb hfb
              have b1 : (p : Int) * 2 < 200 := by omega
              have b2 : (p : Int) * 2 + 1 < 200 := by omega
              have b3 : IntKind.u32.wrap ((p : Int) * 2 + 1) = (p : Int) * 2 + 1 := by rw [IntKind.wrap_u32]; omega
              have b4 : 0 ≤ (p : Int) * 2 := by omega
              have b5 : 0 ≤ (p : Int) * 2 + 1 := by omega
              go_region
              all_goals (go_wp2_with fail)
              all_goals go_meet
              all_goals exact ⟨HF2.out.pair2 p (by have a1 := hy.out; have a5 := hp.out; omega) _ _ (congrArg Nat.cast (sm1 p (by omega))) (congrArg Nat.cast (sm0 p (by omega))), pair_below HB2.out _ _ _ _⟩
            case rest =>
              obtain ⟨hq1, hq2⟩ := hcut
              have HF3 := Lib.hid hq1
              have HB3 := Lib.hid hq2
              clear hq1 hq2
              go_wp2
              all_goals go_end0
              all_goals exact ⟨rfl, ⟨_, HF3.out⟩, HB3.out⟩
      · have hxb : x < 10000000 := hx10
        clear hx10 h8
        obtain ⟨y, zb, hy, hzb, hy8, hzb8, ea, eb⟩ : ∃ za zb : Nat, Hid (za = x / 10000) ∧ Hid (zb = x % 10000) ∧ za < 1000 ∧ zb < 10000 ∧ (x : Int) / 10000 = (za : Int) ∧ (x : Int) % 10000 = (zb : Int) := ⟨x / 10000, x % 10000, Lib.hid rfl, Lib.hid rfl, by omega, by omega, by omega, by omega⟩
        obtain ⟨p1, p0, hp1, hp0, hp18, hp08, ep1, ep0⟩ : ∃ a b : Nat, Hid (a = zb / 100) ∧ Hid (b = zb % 100) ∧ a < 100 ∧ b < 100 ∧ (zb : Int) / 100 = (a : Int) ∧ (zb : Int) % 100 = (b : Int) := ⟨zb / 100, zb % 100, Lib.hid rfl, Lib.hid rfl, by omega, by omega, by omega, by omega⟩
        obtain ⟨q, p, hq, hp, hq8, hp8, eq, ep⟩ : ∃ a b : Nat, Hid (a = y / 100) ∧ Hid (b = y % 100) ∧ a < 10 ∧ b < 100 ∧ (y : Int) / 100 = (a : Int) ∧ (y : Int) % 100 = (b : Int) := ⟨y / 100, y % 100, Lib.hid rfl, Lib.hid rfl, by omega, by omega, by omega, by omega⟩
        go_upto_region 17 with fail
        go_cut [] from 110 (fun wx => FT U nd B off len wx (x / 100) 5 ∧ Below B W0 wx)
        case first =>
          obtain ⟨⟨ca, hca⟩, hfa⟩ := HF0.out.cells 6 (by omega)
          obtain ⟨⟨cb, hcb⟩, hfb⟩ := HF0.out.cells 5 (by omega)
          try simp only [Nat.add_zero] at hcb hfb
          have b1 : (p0 : Int) * 2 < 200 := by omega
          have b2 : (p0 : Int) * 2 + 1 < 200 := by omega
          have b3 : IntKind.u32.wrap ((p0 : Int) * 2 + 1) = (p0 : Int) * 2 + 1 := by rw [IntKind.wrap_u32]; omega
          have b4 : 0 ≤ (p0 : Int) * 2 := by omega
          have b5 : 0 ≤ (p0 : Int) * 2 + 1 := by omega
          go_region
          all_goals (go_wp2_with fail)
          all_goals go_meet
          all_goals exact ⟨HF0.out.pair2 p0 (by have a1 := hy.out; have a2 := hzb.out; have a3 := hp1.out; have a4 := hp0.out; omega) _ _ (congrArg Nat.cast (sm1 p0 (by omega))) (congrArg Nat.cast (sm0 p0 (by omega))), pair_below HB0.out _ _ _ _⟩
        case rest =>
          obtain ⟨hq1, hq2⟩ := hcut
          have HF1 := Lib.hid hq1
          have HB1 := Lib.hid hq2
          clear hq1 hq2
          go_upto_region 18 with fail
          go_cut [] from 110 (fun wx => FT U nd B off len wx (x / 100 / 100) 3 ∧ Below B W0 wx)
          case first =>
            obtain ⟨⟨ca, hca⟩, hfa⟩ := HF1.out.cells 4 (by omega)
            obtain ⟨⟨cb, hcb⟩, hfb⟩ := HF1.out.cells 3 (by omega)
            try simp only [Nat.add_zero] at hcb hfb
            have b1 : (p1 : Int) * 2 < 200 := by omega
            have b2 : (p1 : Int) * 2 + 1 < 200 := by omega
            have b3 : IntKind.u32.wrap ((p1 : Int) * 2 + 1) = (p1 : Int) * 2 + 1 := by rw [IntKind.wrap_u32]; omega
            have b4 : 0 ≤ (p1 : Int) * 2 := by omega
            have b5 : 0 ≤ (p1 : Int) * 2 + 1 := by omega
            go_region
            all_goals (go_wp2_with fail)
            all_goals go_meet
            all_goals exact ⟨HF1.out.pair2 p1 (by have a1 := hy.out; have a2 := hzb.out; have a3 := hp1.out; have a4 := hp0.out; omega) _ _ (congrArg Nat.cast (sm1 p1 (by omega))) (congrArg Nat.cast (sm0 p1 (by omega))), pair_below HB1.out _ _ _ _⟩
          case rest =>
            obtain ⟨hq1, hq2⟩ := hcut
            have HF2 := Lib.hid hq1
            have HB2 := Lib.hid hq2
            clear hq1 hq2
            go_upto_region 23 with fail
            go_cut [] from 110 (fun wx => FT U nd B off len wx (x / 100 / 100 / 100) 1 ∧ Below B W0 wx)
            case first =>
              obtain ⟨⟨ca, hca⟩, hfa⟩ := HF2.out.cells 2 (by omega)
              obtain ⟨⟨cb, hcb⟩, hfb⟩ := HF2.out.cells 1 (by omega)
              try simp only [Nat.add_zero] at hcb hfb
              have b1 : (p : Int) * 2 < 200 := by omega
              have b2 : (p : Int) * 2 + 1 < 200 := by omega
              have b3 : IntKind.u32.wrap ((p : Int) * 2 + 1) = (p : Int) * 2 + 1 := by rw [IntKind.wrap_u32]; omega
              have b4 : 0 ≤ (p : Int) * 2 := by omega
              have b5 : 0 ≤ (p : Int) * 2 + 1 := by omega
              go_region
              all_goals (go_wp2_with fail)
              all_goals go_meet
              all_goals exact ⟨HF2.out.pair2 p (by have a1 := hy.out; have a5 := hp.out; omega) _ _ (congrArg Nat.cast (sm1 p (by omega))) (congrArg Nat.cast (sm0 p (by omega))), pair_below HB2.out _ _ _ _⟩
            case rest =>
              obtain ⟨hq1, hq2⟩ := hcut
              have HF3 := Lib.hid hq1
              have HB3 := Lib.hid hq2
              clear hq1 hq2
              obtain ⟨⟨ca, hca⟩, hfa⟩ := HF3.out.cells 0 (by omega)
              simp only [Nat.add_zero] at hca hfa
              have e48 : IntKind.u32.wrap (48 + (q : Int)) = 48 + (q : Int) := by rw [IntKind.wrap_u32]; omega
              go_wp2
              all_goals go_end0
              all_goals exact ⟨rfl, ⟨_, HF3.out.one _ (by have a1 := hy.out; have a5 := hq.out; omega)⟩, HB3.out.setCell (Nat.le_refl _) _⟩
end Go.Proofs.YtfbbileojddioaaDoor
