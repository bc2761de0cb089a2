/-
  Arguments opened: places.
-/
import Derived.Test.YtbigadbnijpcjaaFloat
import Derived.Test.YtbigadbnijpcjaaRows
import Derived.ProofKit
import Derived.OpenShut
import Derived.Lib.SmallJoins
import Derived.WalkLawsBesides
namespace Go.Proofs.Ytbigadbnijpcjaa
open Go.ChangeShapes Go.WideShapes Go.RowKit Go.Joins
section
variable {H : Type} {enc : TypeId × Value → H} {w : World} {base : Nat} {spare : Nat → Bool} {held : Bool}
theorem trod_float {n : Nat} {v : Value} {y : DataW H × List MemPlace} (h : DataW.trod enc Try.prog w base spare held n 33 [v] = some y) : ∃ b, v = .float .f64 b := by
  cases n with
  | zero => simp [DataW.trod] at h
  | succ n =>
    simp only [DataW.trod, Try.underlying33] at h
    cases v <;> simp_all
set_option maxRecDepth 100000 in
theorem open_XY {r : Reach} {b0 : Nat} {v : Value} {d : DataW H} {p : List MemPlace} (hv : Value.okWide Try.prog w r b0 50 v) (h : DataW.Trod enc Try.prog w base spare held 50 v d p) :
    ∃ a b, v = .agg #[.float .f64 a, .float .f64 b] := by
  obtain ⟨c0, c1, y0, y1, m, rfl, _, _, hy0, hy1⟩ := open_agg2 Try.underlying50 (by kernel_rfl) (by kernel_rfl) hv h
  obtain ⟨a, rfl⟩ := trod_float hy0
  obtain ⟨b, rfl⟩ := trod_float hy1
  exact ⟨a, b, rfl⟩
end
end Go.Proofs.Ytbigadbnijpcjaa
