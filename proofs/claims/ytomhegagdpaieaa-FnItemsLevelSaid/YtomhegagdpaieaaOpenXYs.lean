/-
  An argument that is a list of places, opened.
-/
import Derived.Test.YtomhegagdpaieaaOpen
import Derived.Test.YtomhegagdpaieaaEnvL
import Derived.Deep.Slices
import Derived.Deep.Fields
namespace Go.Proofs.Ytomhegagdpaieaa
open Go.ChangeShapes Go.WideShapes Go.RowKit Go.Joins Go.Deep
section
variable {H : Type} {enc : TypeId × Value → H} {w : World} {base : Nat} {spare : Nat → Bool} {held : Bool}
/-- A struct of two fields of one cell each, read. -/
theorem trod_two {P : Program} {t : TypeId} {f0 f1 : Field} {fuel : Nat} {cs : List Value} {x : DataW H × List MemPlace} (hs : P.underlying t = some (.struct #[f0, f1])) (hone : oneCellFields P #[f0, f1] = true) (hC : P.cellsOf t = 2)
    (h : DataW.trod enc P w base spare held fuel t cs = some x) :
    ∃ c0 c1 y0 y1 m, cs = [c0, c1] ∧ DataW.trod enc P w base spare held m f0.type [c0] = some y0 ∧ DataW.trod enc P w base spare held m f1.type [c1] = some y1 := by
  obtain ⟨xs, m, _, _, hc, hx, hf⟩ := DataW.trod_struct hs h
  have hc2 : cs.length = 2 := hc.trans hC
  have h0 := hf 0 f0 rfl
  have h1 := hf 1 f1 rfl
  obtain ⟨o0, k0⟩ := hone_of hone 0 f0 rfl
  obtain ⟨o1, k1⟩ := hone_of hone 1 f1 rfl
  match cs, hc2 with
  | [c0, c1], _ =>
    match xs, hx with
    | [y0, y1], _ => exact ⟨c0, c1, y0, y1, m, rfl, by simpa [o0, k0] using h0, by simpa [o1, k1] using h1⟩
set_option maxRecDepth 100000 in
theorem trod_XY {n : Nat} {cs : List Value} {y : DataW H × List MemPlace} (h : DataW.trod enc Try.prog w base spare held n 24 cs = some y) :
    ∃ a b, cs = [.float .f64 a, .float .f64 b] := by
  obtain ⟨c0, c1, y0, y1, m, rfl, h0, h1⟩ := trod_two Try.underlying24 (by kernel_rfl) (by kernel_rfl) h
  obtain ⟨a, rfl⟩ := trod_float h0
  obtain ⟨b, rfl⟩ := trod_float h1
  exact ⟨a, b, rfl⟩
/-- What a run of readings gives, collected. -/
theorem collect {α : Type} {n : Nat} {p : Nat → α → Prop} (h : ∀ i, i < n → ∃ x, p i x) : ∃ l : List α, l.length = n ∧ ∀ i x, l[i]? = some x → p i x := by
  induction n with
  | zero => exact ⟨[], rfl, fun i x hx => by simp at hx⟩
  | succ n ih =>
    obtain ⟨l, hl, hp⟩ := ih (fun i hi => h i (by omega))
    obtain ⟨x, hx⟩ := h n (by omega)
    refine ⟨l ++ [x], by simp [hl], fun i y hy => ?_⟩
    by_cases hi : i < n
    · rw [List.getElem?_append_left (by omega)] at hy; exact hp i y hy
    · rw [List.getElem?_append_right (by omega)] at hy
      have : i = n := by
        have := (List.getElem?_eq_some_iff.1 hy).1
        simp at this; omega
      subst this
      rw [hl] at hy
      simp at hy; subst hy; exact hx
theorem spot_none {a : Addr} {v : Value} (h : w.cell? a = some v) : a.spot = none := World.cell?_spot h
set_option maxRecDepth 100000 in
theorem open_XYs {r : Reach} {b0 : Nat} {v : Value} {d : DataW H} {p : List MemPlace} (hv : Value.okWide Try.prog w r b0 26 v) (h : DataW.Trod enc Try.prog w base spare held 26 v d p) (_ : ∀ x ∈ p, x.block < w.heap.size) :
    ∃ A ps cap, v = .slice A (List.length ps) cap ∧ rdXY w A ps ∧ ps.length ≤ maxLen := by
  obtain ⟨a0, len, cap, rfl⟩ := okWide_slice Try.underlying26 hv
  obtain ⟨fuel, hf⟩ := h
  have e : Try.prog.cellsOf 24 = 2 := by kernel_rfl
  rcases open_slice Try.underlying26 hf with ⟨hcs, hx⟩ | ⟨a, len', cap', m, n, D, Pl, hcs, hb, hl, hm, hmm, hx, hi⟩
  · simp only [Value.cells] at hcs
    obtain ⟨rfl, rfl, rfl⟩ : a0 = none ∧ len = 0 ∧ cap = 0 := by simpa using hcs
    exact ⟨none, [], 0, rfl, fun h => by simp at h, by simp⟩
  · simp only [Value.cells] at hcs
    obtain ⟨rfl, rfl, rfl⟩ : a0 = some a ∧ len = len' ∧ cap = cap' := by simpa using hcs
    have hlm : len ≤ m := by rw [hmm]; split <;> omega
    rw [e] at hi
    obtain ⟨ps, hpl, hps⟩ := collect (n := len) (p := fun i (p : Nat × Nat) => w.cell? (a.add (i * 2)) = some (.float .f64 p.1) ∧ w.cell? (a.add (i * 2 + 1)) = some (.float .f64 p.2)) (fun i hil => by
      obtain ⟨cs', h1, h2⟩ := hi i (by omega)
      obtain ⟨x, y, rfl⟩ := trod_XY h2
      obtain ⟨_, _, hat⟩ := World.cells?_some h1
      have h0 := hat 0 (by omega)
      have h1 := hat 1 (by omega)
      rw [Deep.add_add] at h0 h1
      exact ⟨(x, y), h0, h1⟩)
    refine ⟨some a, ps, cap, by rw [hpl], fun hp => ?_, by rw [hpl]; omega⟩
    obtain ⟨q0, hq0⟩ : ∃ q, ps[0]? = some q := ⟨_, List.getElem?_eq_getElem hp⟩
    have hs : a.spot = none := by
      have := World.cell?_spot (hps 0 q0 hq0).1
      simpa [Addr.add] using this
    obtain ⟨b, off, sp⟩ := a
    simp only at hs
    subst hs
    refine ⟨b, off, rfl, ?_, fun i q hq => ?_⟩
    · rcases Nat.lt_or_ge b w.heap.size with h | h
      · exact h
      · have := (hps 0 q0 hq0).1
        simp [Addr.add, World.cell?, Array.getElem?_eq_none h] at this
    · obtain ⟨h1, h2⟩ := hps i q hq
      rw [add_plain] at h1 h2
      exact ⟨h1, by rw [Nat.add_assoc]; exact h2⟩
end
end Go.Proofs.Ytomhegagdpaieaa
