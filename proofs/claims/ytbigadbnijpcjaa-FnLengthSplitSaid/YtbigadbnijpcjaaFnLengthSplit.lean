/-
  The law FnLengthSplit returns true for every input, and each argument reads behind the call as before: no condition.
-/
import Derived.Test.YtbigadbnijpcjaaFrame
import Derived.Test.YtbigadbnijpcjaaLs
namespace Go.Proofs.Ytbigadbnijpcjaa
open Go.ChangeShapes Go.WideShapes Go.ChangeAt Go.RowKit
set_option maxRecDepth 100000 in
theorem fnLengthSplit_lifted (os : Os) (started : os.Started) (H : Type) (enc : TypeId × Value → H) :
    ReturnsInHanded {} Try.checked os 4 .any (Rows.fnLengthSplitSpec.pre6 enc Try.prog Try.f4 Rows.fnLengthSplitRow.domain false) (Rows.fnLengthSplitSpec.post enc Try.prog Try.f4 false true false false) := by
  refine returnsInHanded_of_change (C := Try.checked) (by kernel_rfl) started (by kernel_rfl) Try.func4
    (ChangeSpec.witness6 (enc := enc) (C := Try.checked) false ⟨#[], #[.slice none 0 0, .int .i64 0], []⟩ 8 (by kernel_rfl) (by kernel_rfl) (by kernel_rfl) (by kernel_rfl)) ?_
  intro W base args ds gs before hval0 hW _ _
  have hval : ∀ (j : Nat) t v, Try.f4.params[j]? = some t → args[j]? = some v → Value.okWide Try.prog W .any base t v := hval0
  have hW' := hW
  obtain ⟨p, q, hA0, hV, rfl, hfz, hnd⟩ := hW
  have hA : DataW.TrodAll enc Try.prog W 0 (fun _ => true) true Try.f4.params.toList args.toList ds p := hA0
  rw [Try.params4] at hA hval
  obtain ⟨v0, vs0, d0, ds0, p0, q0, hargs, rfl, rfl, h0, r0⟩ := trodAll_cons hA
  obtain ⟨v1, vs1, d1, ds1, p1, q1, rfl, rfl, rfl, h1, r1⟩ := trodAll_cons r0
  obtain ⟨rfl, rfl, rfl⟩ := trodAll_nil r1
  obtain rfl : args = #[v0, v1] := by cases args; simp_all
  obtain ⟨rfl, rfl⟩ := trodVars_none hV
  have hlt := fun x hx => hW'.lt (p := x) hx
  refine (fnLengthSplit_walk W (hval 0 31 v0 rfl rfl) h0 (fun x hx => hlt x (by simp [hx])) (hval 1 3 v1 rfl rfl) h1 (fun x hx => hlt x (by simp [hx]))).mono fun e W' ⟨he, hb⟩ => ?_
  subst he
  exact ⟨_, rfl, law_post (tb := 4) (by kernel_rfl) (of_decide_eq_true (by kernel_rfl)) rfl Try.underlying4 rfl hW' rfl hb⟩

theorem fnLengthSplit_holds : Rows.FnLengthSplitSaid :=
  OpenClaim.holds_of_wide 4 Try.f4 rfl rfl rfl rfl rfl rfl rfl ⟨rfl, rfl, rfl, rfl, rfl⟩ rfl rfl rfl rfl rfl (by kernel_rfl) Try.func4 (by kernel_rfl)
    (of_decide_eq_true (by kernel_rfl)) (by unfold Func.isWrapper; first | (rw [if_pos (by decide +kernel)]; kernel_rfl) | (rw [if_neg (by decide +kernel)]; exact ⟨rfl, rfl⟩))
    (fun os started H enc _ => fnLengthSplit_lifted os started H enc)
#print axioms fnLengthSplit_holds
end Go.Proofs.Ytbigadbnijpcjaa
