/-
  Arguments opened: slices whose elements are one cell each.
-/
import Derived.Test.YtbigadbnijpcjaaOpen
import Derived.Test.YtbigadbnijpcjaaOwn
import Derived.Deep.Slices
namespace Go.Proofs.Ytbigadbnijpcjaa
open Go.ChangeShapes Go.WideShapes Go.RowKit Go.Joins Go.Deep
section
variable {H : Type} {enc : TypeId × Value → H} {P : Program} {w : World} {base : Nat} {spare : Nat → Bool} {held : Bool}
theorem collect_lt {α : Type} {n : Nat} {p : Nat → α → Prop} (h : ∀ i, i < n → ∃ x, p i x) : ∃ l : List α, l.length = n ∧ ∀ i x, l[i]? = some x → p i x := by
  induction n with
  | zero => exact ⟨[], rfl, fun i x hx => by simp at hx⟩
  | succ n ih =>
    obtain ⟨l, hl, hp⟩ := ih (fun i hi => h i (by omega))
    obtain ⟨x, hx⟩ := h n (by omega)
    refine ⟨l ++ [x], by simp [hl], fun i y hy => ?_⟩
    by_cases hi : i < n
    · rw [List.getElem?_append_left (by omega)] at hy; exact hp i y hy
    · rw [List.getElem?_append_right (by omega)] at hy
      have : i = n := by
        have := (List.getElem?_eq_some_iff.1 hy).1
        simp at this; omega
      subst this
      rw [hl] at hy
      simp at hy; subst hy; exact hx
theorem block_of_cell {w : World} {a : Addr} {v : Value} (h : w.cell? a = some v) : a.block < w.heap.size := World.block_lt_of_cell? w a h
/-- The plain slice at an address without a spot. -/
theorem open_rd1 {t e : TypeId} {r : Reach} {b0 : Nat} {v : Value} {d : DataW H} {p : List MemPlace} (ht : P.underlying t = some (.slice e)) (hc : P.cellsOf e = 1) {α : Type} (f : α → Value) (good : α → Prop)
    (hop : ∀ n u y, DataW.trod enc P w base spare held n e [u] = some y → ∃ x, u = f x ∧ good x)
    (hv : Value.okWide P w r b0 t v) (h : DataW.Trod enc P w base spare held t v d p) :
    ∃ (A : Option Addr) (l : List α) (cap : Nat), v = .slice A l.length cap ∧ rdC w A l.length 1 (l.map f) ∧ (∀ x ∈ l, good x) ∧ l.length ≤ cap ∧ cap ≤ maxLen ∧ (∀ a, A = some a → 0 < l.length → a.spot = none) := by
  obtain ⟨a0, len, cap, rfl⟩ := okWide_slice ht hv
  obtain ⟨fuel, hf⟩ := h
  rcases open_slice1 ht hc hf with ⟨hcs, hx⟩ | ⟨a, len', cap', m, n, V, D, Pl, hcs, hb, hl, hm, hmm, hx, hi⟩
  · simp only [Value.cells] at hcs
    obtain ⟨rfl, rfl, rfl⟩ : a0 = none ∧ len = 0 ∧ cap = 0 := by simpa using hcs
    exact ⟨none, [], 0, rfl, rdC_nil _ _ _, by simp, by simp, by simp, by simp⟩
  · simp only [Value.cells] at hcs
    obtain ⟨rfl, rfl, rfl⟩ : a0 = some a ∧ len = len' ∧ cap = cap' := by simpa using hcs
    have hlm : len ≤ m := by rw [hmm]; split <;> omega
    obtain ⟨ps, hpl, hps⟩ := collect_lt (n := len) (p := fun i (x : α) => w.cell? (a.add i) = some (f x) ∧ good x) (fun i hil => by
      obtain ⟨h1, h2⟩ := hi i (by omega)
      obtain ⟨x, hx, hg⟩ := hop _ _ _ h2
      exact ⟨x, by rw [h1, hx], hg⟩)
    refine ⟨some a, ps, cap, by rw [hpl], ⟨by simp, fun hp => ?_⟩, fun x hx => ?_, by omega, hm, fun a' ha hp => ?_⟩
    · obtain ⟨q0, hq0⟩ : ∃ q, ps[0]? = some q := ⟨_, List.getElem?_eq_getElem hp⟩
      refine ⟨a, rfl, ?_, fun j u hu => ?_⟩
      · have := block_of_cell (hps 0 q0 hq0).1
        rwa [add_block] at this
      · rw [List.getElem?_map] at hu
        cases hj : ps[j]? with
        | none => simp [hj] at hu
        | some x => rw [hj] at hu; cases hu; exact (hps j x hj).1
    · obtain ⟨i, hil, rfl⟩ := List.getElem_of_mem hx
      exact (hps i _ (List.getElem?_eq_getElem hil)).2
    · cases ha
      have hp' : 0 < ps.length := hp
      have := World.cell?_spot (hps 0 _ (List.getElem?_eq_getElem hp')).1
      simpa [Addr.add] using this
theorem trod_nat {t : TypeId} {k : IntKind} {n : Nat} {u : Value} {y : DataW H × List MemPlace} (ht : P.underlying t = some (.int k)) (hk : ∀ x : Int, (Lit.int k x).wf = true → 0 ≤ x) (h : DataW.trod enc P w base spare held n t [u] = some y) :
    ∃ x : Nat, u = .int k (x : Int) ∧ (Lit.int k (x : Int)).wf = true := by
  obtain ⟨x, e, _, hw⟩ := DataW.trod_int ht h
  have e' : u = .int k x := by simpa using e
  have := hk x hw
  exact ⟨x.toNat, by rw [e', Int.toNat_of_nonneg this], by rw [Int.toNat_of_nonneg this]; exact hw⟩
theorem wf_u64 {x : Int} (h : (Lit.int .u64 x).wf = true) : 0 ≤ x ∧ x < 18446744073709551616 := by
  simp [Lit.wf] at h
  simp [IntKind.min, IntKind.max, IntKind.bits, IntKind.signed] at h
  omega
theorem wf_u8 {x : Int} (h : (Lit.int .u8 x).wf = true) : 0 ≤ x ∧ x < 256 := by
  simp [Lit.wf] at h
  simp [IntKind.min, IntKind.max, IntKind.bits, IntKind.signed] at h
  omega
end
end Go.Proofs.Ytbigadbnijpcjaa
