/- The row's last step where a call leaves new blocks of which one bears the run-time's mark: all that is known is 'Below'. (After the lemma that the kit's page extra-small.md, section 9, gives for this case.) -/
import Derived.WalkKit
import Derived.ProofKit
import Derived.ChangeSame
namespace Go.Proofs.Ytfbbileojddioaa
open Go.RowKit Go.WideShapes Go.ChangeShapes
section
variable {H : Type} {enc : TypeId × Value → H} {P : Program}

theorem below_post {f : Func} {s : ChangeSpec} {b1 b2 b3 b4 : Bool} {W W' : World} {args : Array Value} {v : Value} {ds gs : List (DataW H)} {ps pa pv : List MemPlace}
    (hW : DataW.Whole enc P f.params.toList s.vars b1 W args.toList ds gs ps)
    (hres : ∀ (b : Nat) (sp : Nat → Bool) (hd : Bool), DataW.TrodAll enc P W' b sp hd f.resultTypes.toList (v.resultList f.resultTypes.size) (s.fn H (ds ++ gs)).results [])
    (hargs : ∀ sp : Nat → Bool, (∀ p ∈ ps, sp p.block = true) → DataW.TrodAll enc P W' 0 sp true f.params.toList args.toList (s.fn H (ds ++ gs)).args pa)
    (hvars : ∀ sp : Nat → Bool, (∀ p ∈ ps, sp p.block = true) → DataW.TrodVars enc P W' sp s.vars (s.fn H (ds ++ gs)).vars pv)
    (hps : ps = pa ++ pv) (hb : Below W.heap.size W W')
    (hok : ∀ (j : Nat) (t : TypeId) (r : Value), f.resultTypes[j]? = some t → (v.resultList f.resultTypes.size)[j]? = some r → Value.okWide P W' .any 0 t r) :
    s.post enc P f b1 b2 b3 b4 W args v W' := by
  have hin : ∀ p ∈ ps, (fun b => decide (b < W.heap.size)) p.block = true := fun p hp => by simpa using hW.lt p hp
  refine ⟨ds, gs, ps, [], pa, pv, hW, hres _ _ _, hargs _ hin, hvars _ hin, World.keptBut_mono (fun p hp => ⟨hp, ?_⟩) (hb.frame (· ∈ ps)), fun _ => ?_⟩
  · rw [hps] at hp
    exact .inr (List.mem_append.1 hp)
  · have hlt := hW.lt
    obtain ⟨_, _, _, _, _, hz, hn⟩ := hW
    refine ⟨hok, _, _, ([] ++ pa) ++ pv, ⟨[] ++ pa, pv, trodAll_append (hargs _ (fun _ _ => rfl)) (hres _ _ _), hvars _ (fun _ _ => rfl), rfl, ?_, ?_⟩, ?_⟩
    · intro b off hp
      have hq : MemPlace.cell b off ∈ ps := by rw [hps]; simpa using hp
      rw [hb.frozen (show b < W.heap.size from hlt _ hq)]
      exact hz b off hq
    · intro ha
      have := hn ha
      rw [hps] at this
      simpa using this
    · intro p hp _
      rw [hps]
      simpa using hp
end
end Go.Proofs.Ytfbbileojddioaa
