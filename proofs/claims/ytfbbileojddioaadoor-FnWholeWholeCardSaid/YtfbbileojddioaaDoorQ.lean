/- From the row's listed variables to the cells that the walks read; the row's last step. (The last step's lemma is after the kit's page extra-small.md, section 9; the variable's after the shape of the library's own for named variables.) -/
import Derived.Test.YtfbbileojddioaaDoorO
import Derived.ProofKit
import Derived.ChangeSame
import Derived.ChangeVars
import Derived.OpenShut
import Derived.Carry
import Derived.ChangeOld
import Derived.LaidMore
import Derived.Lay
import Derived.Lib.LaidTab
import Derived.Stop.Joined
namespace Go.Proofs.YtfbbileojddioaaDoor
open Go.RowKit Go.WideShapes Go.ChangeShapes Go.WideElems

theorem var_lt {P : Program} {W : World} {n : String} {g : Nat} {cs : Array Value} (h1 : P.globalNamed n = some g) (h3 : W.var? P n = some cs) : g < W.heap.size := by
  unfold World.var? at h3
  rw [h1] at h3
  simp only [Option.bind_some] at h3
  cases hh : W.heap[g]? with
  | none => rw [hh] at h3; cases h3
  | some o => exact (Array.getElem?_eq_some_iff.1 hh).1

theorem g0 : Tryd.prog.globalNamed "loop.example/pub-floattexts/pub/gostrconv.uint64pow10" = some 0 := by kernel_rfl
theorem g1 : Tryd.prog.globalNamed "math/bits.deBruijn32tab" = some 1 := by kernel_rfl
theorem g2 : Tryd.prog.globalNamed "math/bits.deBruijn64tab" = some 2 := by kernel_rfl

def Z2 : List Int := [0, 1, 56, 2, 57, 49, 28, 3, 61, 58, 42, 50, 38, 29, 17, 4, 62, 47, 59, 36, 45, 43, 51, 22, 53, 39, 33, 30, 24, 18, 12, 5, 63, 55, 48, 27, 60, 41, 37, 16, 46, 35, 44, 21, 52, 32, 23, 11, 54, 26, 40, 15, 34, 20, 31, 10, 25, 14, 19, 9, 13, 8, 7, 6]
def Z0 : List Int := [1, 10, 100, 1000, 10000, 100000, 1000000, 10000000, 100000000, 1000000000, 10000000000, 100000000000, 1000000000000, 10000000000000, 100000000000000, 1000000000000000, 10000000000000000, 100000000000000000, 1000000000000000000, 10000000000000000000]

theorem laid_cells {W : World} (h : laidMetH Tryd.prog Rows.fnUnsignedWholeRow.laid W) : Pows W ∧ Tz W := by
  rw [MakeChecks.laidMetH_plain _ _ _ (by kernel_rfl)] at h
  obtain ⟨ps, ⟨h1, t1, cs1, f1, p1, q1, hg1, ht1, hv1, hd1, ⟨h2, t2, cs2, f2, p2, q2, hg2, ht2, hv2, hd2, ⟨h0, t0, cs0, f0, p0, q0, hg0, ht0, hv0, hd0, _, _⟩, _⟩, _⟩, _, _⟩ := h
  obtain rfl := Option.some.inj (g2.symm.trans hg2)
  obtain rfl := Option.some.inj (g0.symm.trans hg0)
  obtain rfl := Option.some.inj ((show (Tryd.prog.globals[2]?).map (·.type) = some 89 by kernel_rfl).symm.trans ht2)
  obtain rfl := Option.some.inj ((show (Tryd.prog.globals[0]?).map (·.type) = some 61 by kernel_rfl).symm.trans ht0)
  have c2 := Lib.cells_of_tab (k := .u8) (zs := Z2) (show Tryd.prog.underlying 89 = some (.array 64 5) by kernel_rfl) Tryd.underlying5 (by kernel_rfl) (by kernel_rfl) hd2
  have c0 := Lib.cells_of_tab (k := .u64) (zs := Z0) (show Tryd.prog.underlying 61 = some (.array 20 22) by kernel_rfl) Tryd.underlying22 (by kernel_rfl) (by kernel_rfl) hd0
  refine ⟨fun j hj => ?_, var_lt g2 hv2, fun k k1 k5 => ?_⟩
  · rw [World.var?_cell g0 hv0 j, ← Array.getElem?_toList, c0, List.getElem?_map]
    have : ∀ y : Fin 20, Z0[y.val]? = some ((10 ^ y.val : Nat) : Int) := by decide +kernel
    rw [this ⟨j, hj⟩]; rfl
  · rw [World.var?_cell g2 hv2, ← Array.getElem?_toList, c2, List.getElem?_map]
    have : ∀ y : Fin 6, 1 ≤ y.val → Z2[2 ^ y.val - 1]? = some (y.val : Int) := by decide +kernel
    rw [this ⟨k, by omega⟩ k1]; rfl
section
variable {H : Type} {enc : TypeId × Value → H} {P : Program}

theorem below_post {f : Func} {s : ChangeSpec} {b1 b2 b3 b4 : Bool} {W W' : World} {args : Array Value} {v : Value} {ds gs : List (DataW H)} {ps pa pv : List MemPlace}
    (hW : DataW.Whole enc P f.params.toList s.vars b1 W args.toList ds gs ps)
    (hres : ∀ (b : Nat) (sp : Nat → Bool) (hd : Bool), DataW.TrodAll enc P W' b sp hd f.resultTypes.toList (v.resultList f.resultTypes.size) (s.fn H (ds ++ gs)).results [])
    (hargs : ∀ sp : Nat → Bool, (∀ p ∈ ps, sp p.block = true) → DataW.TrodAll enc P W' 0 sp true f.params.toList args.toList (s.fn H (ds ++ gs)).args pa)
    (hvars : ∀ sp : Nat → Bool, (∀ p ∈ ps, sp p.block = true) → DataW.TrodVars enc P W' sp s.vars (s.fn H (ds ++ gs)).vars pv)
    (hps : ps = pa ++ pv) (hb : Below W.heap.size W W')
    (hok : ∀ (j : Nat) (t : TypeId) (r : Value), f.resultTypes[j]? = some t → (v.resultList f.resultTypes.size)[j]? = some r → Value.okWide P W' .any 0 t r) :
    s.post enc P f b1 b2 b3 b4 W args v W' := by
  have hin : ∀ p ∈ ps, (fun b => decide (b < W.heap.size)) p.block = true := fun p hp => by simpa using hW.lt p hp
  refine ⟨ds, gs, ps, [], pa, pv, hW, hres _ _ _, hargs _ hin, hvars _ hin, World.keptBut_mono (fun p hp => ⟨hp, ?_⟩) (hb.frame (· ∈ ps)), fun _ => ?_⟩
  · rw [hps] at hp
    exact .inr (List.mem_append.1 hp)
  · have hlt := hW.lt
    obtain ⟨_, _, _, _, _, hz, hn⟩ := hW
    refine ⟨hok, _, _, ([] ++ pa) ++ pv, ⟨[] ++ pa, pv, trodAll_append (hargs _ (fun _ _ => rfl)) (hres _ _ _), hvars _ (fun _ _ => rfl), rfl, ?_, ?_⟩, ?_⟩
    · intro b off hp
      have hq : MemPlace.cell b off ∈ ps := by rw [hps]; simpa using hp
      rw [hb.frozen (show b < W.heap.size from hlt _ hq)]
      exact hz b off hq
    · intro ha
      have := hn ha
      rw [hps] at this
      simpa using this
    · intro p hp _
      rw [hps]
      simpa using hp

/-- What a named variable reads as behind the call, where below the heap's old size nothing has turned. -/
theorem vars_stay {n : String} {gs : List (DataW H)} {ps : List MemPlace} {W W' : World} (hl : laidOutB P = true) (hb : Below W.heap.size W W')
    (hr : ∀ g t, P.globalNamed n = some g → (P.globals[g]?).map (·.type) = some t → P.readableRec t = true ∧ t < P.types.size)
    (h : DataW.TrodVars enc P W (fun _ => true) [n] gs ps) (sp : Nat → Bool) (hsp : ∀ x ∈ ps, sp x.block = true) : DataW.TrodVars enc P W' sp [n] gs ps := by
  have hlt := h.lt
  obtain ⟨g, t, cs, fuel, d, p, rfl, h1, h2, h3, h4, e⟩ := trodVars_one h
  have ht := hr g t h1 h2
  have hp : ∀ x ∈ p, x.block < W.heap.size := fun x hx => hlt x (by rw [e]; simp [hx])
  have hg := var_lt h1 h3
  have h3' : W'.var? P n = some cs := by
    unfold World.var? at h3 ⊢
    rw [h1] at h3 ⊢
    simp only [Option.bind_some] at h3 ⊢
    rw [hb.block g hg]; exact h3
  subst e
  exact trodVars_mk1 h1 h2 h3' (DataW.trod_stays (kids_book hl ht.1) (book_sized ht.1) (fun h => by cases h) ⟨ht.2, book_self t⟩ h4 (fun x hx => hb.same (hp x hx)) (fun x hx => hsp x (by simp [hx])))
end
end Go.Proofs.YtfbbileojddioaaDoor
