/-
  The law FnStart: its walk, the cases joined.
-/
import Derived.Test.YtbigadbnijpcjaaStart
namespace Go.Proofs.Ytbigadbnijpcjaa
open Go.RowKit Go.ChangeShapes Go.WideShapes Go.Joins
set_option maxRecDepth 100000 in
theorem fnStart_walk {H : Type} {enc : TypeId × Value → H} {b0 : Nat} (W : World) {v0 : Value} {d0 : DataW H} {p0 : List MemPlace}
    (k0 : Value.okWide Try.prog W .any b0 25 v0) (h0 : DataW.Trod enc Try.prog W 0 (fun _ => true) true 25 v0 d0 p0) (_ : ∀ x ∈ p0, x.block < W.heap.size) :
    Calls Try.prog 3 #[v0] W fun e w' => e = .returned (.bool true) ∧ Below W.heap.size W w' := by
  obtain ⟨s, t, g, rfl, hg⟩ := open_Geom k0 h0
  by_cases h1 : 2147483647 < g.nums.length ∨ 2147483647 < g.kids.length
  · exact start_zz g s t W hg h1
  have h2 : g.nums.length ≤ 2147483647 := by omega
  have h3 : g.kids.length ≤ 2147483647 := by omega
  cases hs : decide (0 ≤ g.w 2000)
  · exact start_skip g s t W hg h2 h3 (.inl hs)
  by_cases hk : g.kind = 2
  · exact start_main g s t W hg hs hk
  · exact start_skip g s t W hg h2 h3 (.inr hk)
end Go.Proofs.Ytbigadbnijpcjaa
