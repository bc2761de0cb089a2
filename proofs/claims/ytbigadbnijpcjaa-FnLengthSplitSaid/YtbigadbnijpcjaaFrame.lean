/-
  What every law's proof ends with: the call returned true and left all that was there as it was: so each argument reads as before.
-/
import Derived.Test.YtbigadbnijpcjaaRows
import Derived.WalkKit
import Derived.ProofKit
import Derived.OpenShut
namespace Go.Proofs.Ytbigadbnijpcjaa
open Go.ChangeShapes Go.WideShapes Go.ChangeAt Go.RowKit

theorem args_again {H : Type} {enc : TypeId × Value → H} {P : Program} (hl : laidOutB P = true) {W W' : World} {sp : Nat → Bool} :
    ∀ {ts : List TypeId} {vs : List Value} {ds : List (DataW H)} {ps : List MemPlace}, (∀ t ∈ ts, P.readableRec t = true ∧ t < P.types.size) →
      DataW.TrodAll enc P W 0 (fun _ => true) true ts vs ds ps → (∀ p ∈ ps, W.sameAt W' p) → (∀ p ∈ ps, sp p.block = true) → DataW.TrodAll enc P W' 0 sp true ts vs ds ps
  | [], vs, ds, ps, _, h, _, _ => by
    obtain ⟨rfl, rfl, rfl⟩ := trodAll_nil h
    rfl
  | t :: ts, vs, ds, ps, hr, h, hs, hsp => by
    obtain ⟨v, vs', d, ds', p, q, rfl, rfl, rfl, h0, hrest⟩ := trodAll_cons h
    refine ⟨p, q, ?_, ?_, rfl⟩
    · exact WideElems.Trod_stays hl (hr t (by simp)).1 (hr t (by simp)).2 h0 (fun x hx => hs x (by simp [hx])) (fun x hx => hsp x (by simp [hx]))
    · exact args_again hl (fun t' ht' => hr t' (by simp [ht'])) hrest (fun x hx => hs x (by simp [hx])) (fun x hx => hsp x (by simp [hx]))

theorem law_post {H : Type} {enc : TypeId × Value → H} {P : Program} {f : Func} {s : ChangeSpec} {W W' : World} {args : Array Value} {ds : List (DataW H)} {before : List MemPlace} {tb : TypeId} (hl : laidOutB P = true)
    (hts : ∀ t ∈ f.params.toList, P.readableRec t = true ∧ t < P.types.size) (hres : f.resultTypes = #[tb]) (htb : P.underlying tb = some .bool) (hv : s.vars = [])
    (hW : DataW.Whole enc P f.params.toList s.vars false W args.toList ds [] before)
    (hfn : s.fn H (ds ++ []) = { results := [.lit (.bool true)], args := ds }) (hb : Below W.heap.size W W') :
    s.post enc P f false true false false W args (.bool true) W' := by
  have hlt : ∀ p ∈ before, p.block < W.heap.size := fun p hp => hW.lt p hp
  have hsame : ∀ p ∈ before, W.sameAt W' p := fun p hp => hb.same (hlt p hp)
  have hW0 := hW
  obtain ⟨p, q, hA, hV, rfl, hz, hn⟩ := hW
  rw [hv] at hV
  obtain ⟨_, rfl⟩ := trodVars_none hV
  have hA' : ∀ sp : Nat → Bool, (∀ x ∈ p ++ [], sp x.block = true) → DataW.TrodAll enc P W' 0 sp true f.params.toList args.toList ds p := fun sp hsp =>
    args_again hl hts hA (fun x hx => hsame x (by simpa using hx)) (fun x hx => hsp x (by simpa using hx))
  have hR : ∀ (b : Nat) (sp : Nat → Bool) (hd : Bool), DataW.TrodAll enc P W' b sp hd f.resultTypes.toList ((Value.bool true).resultList f.resultTypes.size) [.lit (.bool true)] [] := fun b sp hd => by
    rw [hres]
    exact trodAll_mk1 (shut_bool htb true)
  have hold : ∀ x ∈ p ++ [], (fun b => decide (b < W.heap.size)) x.block = true := fun x hx => by simpa using hlt x hx
  refine ⟨ds, [], p ++ [], [], p, [], hW0, ?_, ?_, ?_, World.keptBut_mono (fun x hx => ⟨hx, ?_⟩) (hb.frame (· ∈ p ++ [])), fun h => by cases h⟩
  · rw [hfn]; exact hR _ _ _
  · rw [hfn]; exact hA' _ hold
  · rw [hfn, hv]; rfl
  · exact Or.inr (Or.inl (by simpa using hx))
end Go.Proofs.Ytbigadbnijpcjaa
