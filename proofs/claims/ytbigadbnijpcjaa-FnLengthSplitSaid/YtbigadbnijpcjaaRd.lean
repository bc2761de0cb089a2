/-
  A slice read off memory whose elements are one cell each.
-/
import Derived.Test.YtbigadbnijpcjaaOwn
import Derived.Test.YtbigadbnijpcjaaOpenList
namespace Go.Proofs.Ytbigadbnijpcjaa
open Go.RowKit
section
variable {α : Type} {f : α → Value}
def rd1 (f : α → Value) (w : World) (A : Option Addr) (l : List α) : Prop := 0 < l.length → ∃ b off, A = some ⟨b, off, none⟩ ∧ b < w.heap.size ∧ ∀ (i : Nat) (x : α), l[i]? = some x → w.cell? ⟨b, off + i, none⟩ = some (f x)
theorem rd1_tr {w w1 : World} {A : Option Addr} {l : List α} (h : rd1 f w A l) (hb : Below w.heap.size w w1) : rd1 f w1 A l := fun hl => by
  obtain ⟨b, off, e, hlt, hc⟩ := h hl
  exact ⟨b, off, e, Nat.lt_of_lt_of_le hlt hb.size, fun i x hx => (hb.cell (p := ⟨b, off + i, none⟩) hlt).trans (hc i x hx)⟩
theorem rd1_C {w : World} {A : Option Addr} {l : List α} (h : rd1 f w A l) : rdC w A l.length 1 (l.map f) := ⟨by simp, fun hl => by
  obtain ⟨b, off, e, hlt, hc⟩ := h hl
  refine ⟨_, e, hlt, fun j u hu => ?_⟩
  rw [List.getElem?_map] at hu
  cases hj : l[j]? with
  | none => simp [hj] at hu
  | some x =>
    rw [hj] at hu; cases hu
    have := hc j x hj
    unfold Addr.add
    split
    · rename_i h0; have : j = 0 := by simpa using h0
      subst this; simpa using this
    · exact this⟩
theorem rd1_own {w : World} {base n c : Nat} {e : TypeId} {D : Option Addr} {l : List α} (h : w.ownsRow base e 1 (.slice D n c) n (l.map f)) : rd1 f w D l := fun hl => by
  have hn : n = l.length := by have := h.1; simpa using this.symm
  obtain ⟨g, cap, hv, hle, hlt⟩ := h.form (by omega)
  obtain ⟨rfl, rfl⟩ : D = some ⟨g, 0, none⟩ ∧ c = cap := by injection hv; constructor <;> assumption
  refine ⟨g, 0, rfl, hlt, fun j x hx => ?_⟩
  have := h.cells (g := g) rfl j (f x) (by simp [hx])
  have e : (⟨g, 0, none⟩ : Addr).add j = ⟨g, j, none⟩ := by unfold Addr.add; split <;> simp_all
  rw [e] at this
  rwa [Nat.zero_add]
theorem rd1_nil (w : World) (A : Option Addr) : rd1 f w A [] := fun h => by simp at h
end
section
open Go.ChangeShapes Go.WideShapes Go.Joins
variable {H : Type} {enc : TypeId × Value → H} {P : Program} {w : World} {base : Nat} {spare : Nat → Bool} {held : Bool}
theorem open_rd {t e : TypeId} {r : Reach} {b0 : Nat} {v : Value} {d : DataW H} {p : List MemPlace} (ht : P.underlying t = some (.slice e)) (hc : P.cellsOf e = 1) {α : Type} (f : α → Value) (good : α → Prop)
    (hop : ∀ n u y, DataW.trod enc P w base spare held n e [u] = some y → ∃ x, u = f x ∧ good x)
    (hv : Value.okWide P w r b0 t v) (h : DataW.Trod enc P w base spare held t v d p) :
    ∃ (A : Option Addr) (l : List α) (cap : Nat), v = .slice A l.length cap ∧ rd1 f w A l ∧ (∀ x ∈ l, good x) ∧ l.length ≤ cap ∧ cap ≤ maxLen := by
  obtain ⟨A, l, cap, rfl, hr, hg, hlc, hcm, hs⟩ := open_rd1 ht hc f good hop hv h
  refine ⟨A, l, cap, rfl, fun hl => ?_, hg, hlc, hcm⟩
  obtain ⟨⟨b, off, sp⟩, rfl, hlt, hcell⟩ := hr.2 hl
  have hsp := hs _ rfl hl
  simp only at hsp
  subst hsp
  refine ⟨b, off, rfl, hlt, fun i x hx => ?_⟩
  have := hcell i (f x) (by simp [hx])
  unfold Addr.add at this
  split at this
  · rename_i h0; have h0' : i = 0 := by simpa using h0
    subst h0'; simpa using this
  · exact this
end
end Go.Proofs.Ytbigadbnijpcjaa
