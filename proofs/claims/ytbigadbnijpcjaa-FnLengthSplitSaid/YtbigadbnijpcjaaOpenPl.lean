/-
  An argument that is a list of places with whole coordinates, opened.
-/
import Derived.Test.YtbigadbnijpcjaaOpen
import Derived.Test.YtbigadbnijpcjaaOpenList
import Derived.Deep.Slices
import Derived.Deep.Fields
import Derived.Test.YtbigadbnijpcjaaPl
namespace Go.Proofs.Ytbigadbnijpcjaa
open Go.ChangeShapes Go.WideShapes Go.RowKit Go.Joins Go.Deep
section
variable {H : Type} {enc : TypeId × Value → H} {w : World} {base : Nat} {spare : Nat → Bool} {held : Bool}
theorem trod_2c {P : Program} {t : TypeId} {f0 f1 : Field} {fuel : Nat} {cs : List Value} {x : DataW H × List MemPlace} (hs : P.underlying t = some (.struct #[f0, f1])) (hone : oneCellFields P #[f0, f1] = true) (hC : P.cellsOf t = 2)
    (h : DataW.trod enc P w base spare held fuel t cs = some x) :
    ∃ c0 c1 y0 y1 m, cs = [c0, c1] ∧ DataW.trod enc P w base spare held m f0.type [c0] = some y0 ∧ DataW.trod enc P w base spare held m f1.type [c1] = some y1 := by
  obtain ⟨xs, m, _, _, hc, hx, hf⟩ := DataW.trod_struct hs h
  have hc2 : cs.length = 2 := hc.trans hC
  have h0 := hf 0 f0 rfl
  have h1 := hf 1 f1 rfl
  obtain ⟨o0, k0⟩ := hone_of hone 0 f0 rfl
  obtain ⟨o1, k1⟩ := hone_of hone 1 f1 rfl
  match cs, hc2 with
  | [c0, c1], _ =>
    match xs, hx with
    | [y0, y1], _ => exact ⟨c0, c1, y0, y1, m, rfl, by simpa [o0, k0] using h0, by simpa [o1, k1] using h1⟩
set_option maxRecDepth 100000 in
theorem trod_Pt {n : Nat} {cs : List Value} {y : DataW H × List MemPlace} (h : DataW.trod enc Try.prog w base spare held n 45 cs = some y) :
    ∃ p : Int × Int, cs = [.int .i64 p.1, .int .i64 p.2] := by
  obtain ⟨c0, c1, y0, y1, m, rfl, h0, h1⟩ := trod_2c Try.underlying45 (by kernel_rfl) (by kernel_rfl) h
  obtain ⟨a, ea, _⟩ := DataW.trod_int Try.underlying3 h0
  obtain ⟨b, eb, _⟩ := DataW.trod_int Try.underlying3 h1
  refine ⟨(a, b), ?_⟩
  simp only [List.cons.injEq, and_true] at ea eb
  rw [ea, eb]
set_option maxRecDepth 100000 in
theorem open_Pts {r : Reach} {b0 : Nat} {v : Value} {d : DataW H} {p : List MemPlace} (hv : Value.okWide Try.prog w r b0 31 v) (h : DataW.Trod enc Try.prog w base spare held 31 v d p) :
    ∃ A ps cap, v = .slice A (List.length ps) cap ∧ rdPl w A ps ∧ ps.length ≤ cap ∧ cap ≤ maxLen := by
  obtain ⟨a0, len, cap, rfl⟩ := okWide_slice Try.underlying31 hv
  obtain ⟨fuel, hf⟩ := h
  have e : Try.prog.cellsOf 45 = 2 := by kernel_rfl
  rcases open_slice Try.underlying31 hf with ⟨hcs, hx⟩ | ⟨a, len', cap', m, n, D, Pl, hcs, hb, hl, hm, hmm, hx, hi⟩
  · simp only [Value.cells] at hcs
    obtain ⟨rfl, rfl, rfl⟩ : a0 = none ∧ len = 0 ∧ cap = 0 := by simpa using hcs
    exact ⟨none, [], 0, rfl, fun h => by simp at h, by simp, by simp⟩
  · simp only [Value.cells] at hcs
    obtain ⟨rfl, rfl, rfl⟩ : a0 = some a ∧ len = len' ∧ cap = cap' := by simpa using hcs
    have hlm : len ≤ m := by rw [hmm]; split <;> omega
    rw [e] at hi
    obtain ⟨ps, hpl, hps⟩ := collect_lt (n := len) (p := fun i (t : Int × Int) => w.cell? (a.add (i * 2)) = some (.int .i64 t.1) ∧ w.cell? (a.add (i * 2 + 1)) = some (.int .i64 t.2)) (fun i hil => by
      obtain ⟨cs', h1, h2⟩ := hi i (by omega)
      obtain ⟨t, rfl⟩ := trod_Pt h2
      obtain ⟨_, _, hat⟩ := World.cells?_some h1
      have h0 := hat 0 (by omega)
      have h1 := hat 1 (by omega)
      rw [Deep.add_add] at h0 h1
      exact ⟨t, h0, h1⟩)
    refine ⟨some a, ps, cap, by rw [hpl], fun hp => ?_, by omega, hm⟩
    obtain ⟨q0, hq0⟩ : ∃ q, ps[0]? = some q := ⟨_, List.getElem?_eq_getElem hp⟩
    have hs : a.spot = none := by
      have := World.cell?_spot (hps 0 q0 hq0).1
      simpa [Addr.add] using this
    obtain ⟨b, off, sp⟩ := a
    simp only at hs
    subst hs
    refine ⟨b, off, rfl, block_of_cell (hps 0 q0 hq0).1, fun i q hq => ?_⟩
    obtain ⟨h0, h1⟩ := hps i q hq
    rw [add_plain] at h0 h1
    exact ⟨h0, by rw [Nat.add_assoc]; exact h1⟩
end
theorem rdPl_take {w : World} {A : Option Addr} {l : List (Int × Int)} (h : rdPl w A l) (k : Nat) : rdPl w A (l.take k) := fun hl => by
  have h0 : 0 < l.length := by rw [List.length_take] at hl; omega
  obtain ⟨b, off, e, hb, hc⟩ := h h0
  refine ⟨b, off, e, hb, fun i t ht => ?_⟩
  rw [List.getElem?_take] at ht
  split at ht
  · exact hc i t ht
  · cases ht
theorem rdPl_drop {w : World} {b off : Nat} {l : List (Int × Int)} (h : rdPl w (some ⟨b, off, none⟩) l) (k : Nat) : rdPl w (some ⟨b, off + k * 2, none⟩) (l.drop k) := fun hl => by
  have h0 : 0 < l.length := by rw [List.length_drop] at hl; omega
  obtain ⟨b', off', e, hb, hc⟩ := h h0
  injection e with e; injection e with e1 e2 e3
  subst e1 e2
  refine ⟨b, _, rfl, hb, fun i t ht => ?_⟩
  rw [List.getElem?_drop] at ht
  have := hc (k + i) t ht
  rw [Nat.add_mul, ← Nat.add_assoc] at this
  exact this
end Go.Proofs.Ytbigadbnijpcjaa
