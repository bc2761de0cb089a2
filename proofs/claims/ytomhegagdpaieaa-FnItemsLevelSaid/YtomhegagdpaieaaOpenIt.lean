/-
  An argument that is a list of items, opened.
-/
import Derived.Test.YtomhegagdpaieaaOpenXYs
import Derived.Test.YtomhegagdpaieaaOpenList
import Derived.Test.YtomhegagdpaieaaTi
namespace Go.Proofs.Ytomhegagdpaieaa
open Go.ChangeShapes Go.WideShapes Go.RowKit Go.Joins Go.Deep
section
variable {H : Type} {enc : TypeId × Value → H} {w : World} {base : Nat} {spare : Nat → Bool} {held : Bool}
theorem trod_4 {P : Program} {t : TypeId} {f0 f1 f2 f3 : Field} {fuel : Nat} {cs : List Value} {x : DataW H × List MemPlace} (hs : P.underlying t = some (.struct #[f0, f1, f2, f3])) (hone : oneCellFields P #[f0, f1, f2, f3] = true) (hC : P.cellsOf t = 4)
    (h : DataW.trod enc P w base spare held fuel t cs = some x) :
    ∃ c0 c1 c2 c3 y0 y1 y2 y3 m, cs = [c0, c1, c2, c3] ∧ DataW.trod enc P w base spare held m f0.type [c0] = some y0 ∧ DataW.trod enc P w base spare held m f1.type [c1] = some y1 ∧ DataW.trod enc P w base spare held m f2.type [c2] = some y2 ∧ DataW.trod enc P w base spare held m f3.type [c3] = some y3 := by
  obtain ⟨xs, m, _, _, hc, hx, hf⟩ := DataW.trod_struct hs h
  have hc2 : cs.length = 4 := hc.trans hC
  have h0 := hf 0 f0 rfl
  have h1 := hf 1 f1 rfl
  have h2 := hf 2 f2 rfl
  have h3 := hf 3 f3 rfl
  obtain ⟨o0, k0⟩ := hone_of hone 0 f0 rfl
  obtain ⟨o1, k1⟩ := hone_of hone 1 f1 rfl
  obtain ⟨o2, k2⟩ := hone_of hone 2 f2 rfl
  obtain ⟨o3, k3⟩ := hone_of hone 3 f3 rfl
  match cs, hc2 with
  | [c0, c1, c2, c3], _ =>
    match xs, hx with
    | [y0, y1, y2, y3], _ => exact ⟨c0, c1, c2, c3, y0, y1, y2, y3, m, rfl, by simpa [o0, k0] using h0, by simpa [o1, k1] using h1, by simpa [o2, k2] using h2, by simpa [o3, k3] using h3⟩
set_option maxRecDepth 100000 in
theorem trod_Bx {n : Nat} {cs : List Value} {y : DataW H × List MemPlace} (h : DataW.trod enc Try.prog w base spare held n 46 cs = some y) :
    ∃ a b c d, cs = [.float .f64 a, .float .f64 b, .float .f64 c, .float .f64 d] := by
  obtain ⟨c0, c1, c2, c3, y0, y1, y2, y3, m, rfl, h0, h1, h2, h3⟩ := trod_4 Try.underlying46 (by kernel_rfl) (by kernel_rfl) h
  obtain ⟨a, rfl⟩ := trod_float h0
  obtain ⟨b, rfl⟩ := trod_float h1
  obtain ⟨c, rfl⟩ := trod_float h2
  obtain ⟨d, rfl⟩ := trod_float h3
  exact ⟨a, b, c, d, rfl⟩
/-- A struct of a field of four cells and one of one. -/
theorem trod_fourone {P : Program} {t : TypeId} {f0 f1 : Field} {fuel : Nat} {cs : List Value} {x : DataW H × List MemPlace} (hs : P.underlying t = some (.struct #[f0, f1])) (ho : f0.offset = 0 ∧ f1.offset = 4 ∧ P.cellsOf f0.type = 4 ∧ P.cellsOf f1.type = 1) (hC : P.cellsOf t = 5)
    (h : DataW.trod enc P w base spare held fuel t cs = some x) :
    ∃ c0 c1 c2 c3 c4 y0 y1 m, cs = [c0, c1, c2, c3, c4] ∧ DataW.trod enc P w base spare held m f0.type [c0, c1, c2, c3] = some y0 ∧ DataW.trod enc P w base spare held m f1.type [c4] = some y1 := by
  obtain ⟨xs, m, _, _, hc, hx, hf⟩ := DataW.trod_struct hs h
  have hc2 : cs.length = 5 := hc.trans hC
  have h0 := hf 0 f0 rfl
  have h1 := hf 1 f1 rfl
  obtain ⟨o0, o1, k0, k1⟩ := ho
  match cs, hc2 with
  | [c0, c1, c2, c3, c4], _ =>
    match xs, hx with
    | [y0, y1], _ => exact ⟨c0, c1, c2, c3, c4, y0, y1, m, rfl, by simpa [o0, k0] using h0, by simpa [o1, k1] using h1⟩
set_option maxRecDepth 100000 in
theorem trod_Item {n : Nat} {cs : List Value} {y : DataW H × List MemPlace} (h : DataW.trod enc Try.prog w base spare held n 73 cs = some y) :
    ∃ t : It, cs = [.float .f64 t.a, .float .f64 t.b, .float .f64 t.c, .float .f64 t.d, .int .i64 t.id] := by
  obtain ⟨c0, c1, c2, c3, c4, y0, y1, m, rfl, h0, h1⟩ := trod_fourone Try.underlying73 ⟨rfl, rfl, by kernel_rfl, by kernel_rfl⟩ (by kernel_rfl) h
  obtain ⟨a, b, c, d, e⟩ := trod_Bx h0
  obtain ⟨i, e2, _, _⟩ := DataW.trod_int Try.underlying3 h1
  cases e
  have : c4 = .int .i64 i := by simpa using e2
  subst this
  exact ⟨⟨a, b, c, d, i⟩, rfl⟩
set_option maxRecDepth 100000 in
theorem open_Items {r : Reach} {b0 : Nat} {v : Value} {d : DataW H} {p : List MemPlace} (hv : Value.okWide Try.prog w r b0 43 v) (h : DataW.Trod enc Try.prog w base spare held 43 v d p) :
    ∃ A ps cap, v = .slice A (List.length ps) cap ∧ rdIt w A ps := by
  obtain ⟨a0, len, cap, rfl⟩ := okWide_slice Try.underlying43 hv
  obtain ⟨fuel, hf⟩ := h
  have e : Try.prog.cellsOf 73 = 5 := by kernel_rfl
  rcases open_slice Try.underlying43 hf with ⟨hcs, hx⟩ | ⟨a, len', cap', m, n, D, Pl, hcs, hb, hl, hm, hmm, hx, hi⟩
  · simp only [Value.cells] at hcs
    obtain ⟨rfl, rfl, rfl⟩ : a0 = none ∧ len = 0 ∧ cap = 0 := by simpa using hcs
    exact ⟨none, [], 0, rfl, fun h => by simp at h⟩
  · simp only [Value.cells] at hcs
    obtain ⟨rfl, rfl, rfl⟩ : a0 = some a ∧ len = len' ∧ cap = cap' := by simpa using hcs
    have hlm : len ≤ m := by rw [hmm]; split <;> omega
    rw [e] at hi
    obtain ⟨ps, hpl, hps⟩ := collect_lt (n := len) (p := fun i (t : It) => w.cell? (a.add (i * 5)) = some (.float .f64 t.a) ∧ w.cell? (a.add (i * 5 + 1)) = some (.float .f64 t.b) ∧ w.cell? (a.add (i * 5 + 2)) = some (.float .f64 t.c) ∧ w.cell? (a.add (i * 5 + 3)) = some (.float .f64 t.d) ∧ w.cell? (a.add (i * 5 + 4)) = some (.int .i64 t.id)) (fun i hil => by
      obtain ⟨cs', h1, h2⟩ := hi i (by omega)
      obtain ⟨t, rfl⟩ := trod_Item h2
      obtain ⟨_, _, hat⟩ := World.cells?_some h1
      have h0 := hat 0 (by omega)
      have h1 := hat 1 (by omega)
      have h2 := hat 2 (by omega)
      have h3 := hat 3 (by omega)
      have h4 := hat 4 (by omega)
      rw [Deep.add_add] at h0 h1 h2 h3 h4
      exact ⟨t, h0, h1, h2, h3, h4⟩)
    refine ⟨some a, ps, cap, by rw [hpl], fun hp => ?_⟩
    obtain ⟨q0, hq0⟩ : ∃ q, ps[0]? = some q := ⟨_, List.getElem?_eq_getElem hp⟩
    have hs : a.spot = none := by
      have := World.cell?_spot (hps 0 q0 hq0).1
      simpa [Addr.add] using this
    obtain ⟨b, off, sp⟩ := a
    simp only at hs
    subst hs
    refine ⟨b, off, rfl, block_of_cell (hps 0 q0 hq0).1, fun i q hq => ?_⟩
    obtain ⟨h0, h1, h2, h3, h4⟩ := hps i q hq
    rw [add_plain] at h0 h1 h2 h3 h4
    exact ⟨h0, by rw [Nat.add_assoc]; exact h1, by rw [Nat.add_assoc]; exact h2, by rw [Nat.add_assoc]; exact h3, by rw [Nat.add_assoc]; exact h4⟩
end
end Go.Proofs.Ytomhegagdpaieaa
