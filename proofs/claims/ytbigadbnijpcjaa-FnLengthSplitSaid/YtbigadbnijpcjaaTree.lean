/-
  Geometries as plain data: trees that lie in memory; an argument of that type, opened.
-/
import Derived.Test.YtbigadbnijpcjaaRd
namespace Go.Proofs.Ytbigadbnijpcjaa
open Go.RowKit
inductive GT where
  | mk (kind dim : Int) (nums : List Nat) (kids : List GT)
def GT.kind : GT → Int | .mk k _ _ _ => k
def GT.dim : GT → Int | .mk _ d _ _ => d
def GT.nums : GT → List Nat | .mk _ _ n _ => n
def GT.kids : GT → List GT | .mk _ _ _ k => k
def i64 (x : Int) : Prop := -9223372036854775808 ≤ x ∧ x ≤ 9223372036854775807
/-- The two slices of a geometry read as that tree. -/
inductive RdG (w : World) : Value → Value → GT → Prop
  | mk {kind dim : Int} {nums : List Nat} {kids : List GT} {A B : Option Addr} {c d : Nat} (f : Nat → Value × Value) (hk : i64 kind) (hd : i64 dim) (hc : nums.length ≤ c) (hc' : c ≤ maxLen) (he : kids.length ≤ d) (he' : d ≤ maxLen)
      (hn : rd1 (.float .f64) w A nums)
      (hB : 0 < kids.length → ∃ b off, B = some ⟨b, off, none⟩ ∧ b < w.heap.size ∧ ∀ (i : Nat) (k : GT), kids[i]? = some k →
        w.cell? ⟨b, off + i * 4, none⟩ = some (.int .i64 k.kind) ∧ w.cell? ⟨b, off + i * 4 + 1, none⟩ = some (.int .i64 k.dim) ∧ w.cell? ⟨b, off + i * 4 + 2, none⟩ = some (f i).1 ∧ w.cell? ⟨b, off + i * 4 + 3, none⟩ = some (f i).2)
      (hf : ∀ (i : Nat) (k : GT), kids[i]? = some k → RdG w (f i).1 (f i).2 k) : RdG w (.slice A nums.length c) (.slice B kids.length d) (.mk kind dim nums kids)
theorem RdG.tr {w w1 : World} (hb : Below w.heap.size w w1) {s t : Value} {g : GT} (h : RdG w s t g) : RdG w1 s t g := by
  induction h with
  | mk f hk hd hc hc' he he' hn hB hf ih =>
    refine .mk f hk hd hc hc' he he' (rd1_tr hn hb) (fun h0 => ?_) ih
    obtain ⟨b, off, e, hlt, hx⟩ := hB h0
    refine ⟨b, off, e, Nat.lt_of_lt_of_le hlt hb.size, fun i k hi => ?_⟩
    obtain ⟨h0, h1, h2, h3⟩ := hx i k hi
    exact ⟨(bl_rc hb hlt _).trans h0, (bl_rc hb hlt _).trans h1, (bl_rc hb hlt _).trans h2, (bl_rc hb hlt _).trans h3⟩
section
open Go.ChangeShapes Go.WideShapes Go.Joins Go.Deep
variable {H : Type} {enc : TypeId × Value → H} {w : World} {base : Nat} {spare : Nat → Bool} {held : Bool}
theorem trod_rd {P : Program} {t e : TypeId} {n : Nat} {u : Value} {y : DataW H × List MemPlace} (ht : P.underlying t = some (.slice e)) (hc : P.cellsOf e = 1) {α : Type} (f : α → Value)
    (hop : ∀ n u y, DataW.trod enc P w base spare held n e [u] = some y → ∃ x, u = f x)
    (h : DataW.trod enc P w base spare held n t [u] = some y) :
    ∃ (A : Option Addr) (l : List α) (cap : Nat), u = .slice A l.length cap ∧ rd1 f w A l ∧ l.length ≤ cap ∧ cap ≤ maxLen := by
  rcases open_slice1 ht hc h with ⟨hcs, hx⟩ | ⟨a, len', cap', m, n, V, D, Pl, hcs, hb, hl, hm, hmm, hx, hi⟩
  · cases hcs
    exact ⟨none, [], 0, rfl, rd1_nil _ _, by simp, by simp⟩
  · cases hcs
    have hlm : len' ≤ m := by rw [hmm]; split <;> omega
    obtain ⟨ps, hpl, hps⟩ := collect_lt (n := len') (p := fun i (x : α) => w.cell? (a.add i) = some (f x)) (fun i hil => by
      obtain ⟨h1, h2⟩ := hi i (by omega)
      obtain ⟨x, hx⟩ := hop _ _ _ h2
      exact ⟨x, by rw [h1, hx]⟩)
    refine ⟨some a, ps, cap', by rw [hpl], fun hp => ?_, by omega, hm⟩
    have c0 := hps 0 _ (List.getElem?_eq_getElem hp)
    have hs : a.spot = none := by
      have := World.cell?_spot c0
      simpa [Addr.add] using this
    have hlt := block_of_cell c0
    rw [add_block] at hlt
    obtain ⟨b, off, sp⟩ := a
    simp only at hs hlt
    subst hs
    refine ⟨b, off, rfl, hlt, fun i x hx => ?_⟩
    have := hps i x hx
    rwa [show (Addr.add ⟨b, off, none⟩ i) = ⟨b, off + i, none⟩ by unfold Addr.add; split <;> simp_all] at this
theorem add_off (b off i : Nat) : Addr.add ⟨b, off, none⟩ i = ⟨b, off + i, none⟩ := by unfold Addr.add; split <;> simp_all
theorem g_four {P : Program} {t : TypeId} {f0 f1 f2 f3 : Field} {fuel : Nat} {cs : List Value} {x : DataW H × List MemPlace} (hs : P.underlying t = some (.struct #[f0, f1, f2, f3])) (hone : oneCellFields P #[f0, f1, f2, f3] = true) (hC : P.cellsOf t = 4)
    (h : DataW.trod enc P w base spare held fuel t cs = some x) :
    ∃ c0 c1 c2 c3 y0 y1 y2 y3 m, fuel = m + 1 ∧ cs = [c0, c1, c2, c3] ∧ DataW.trod enc P w base spare held m f0.type [c0] = some y0 ∧ DataW.trod enc P w base spare held m f1.type [c1] = some y1 ∧ DataW.trod enc P w base spare held m f2.type [c2] = some y2 ∧ DataW.trod enc P w base spare held m f3.type [c3] = some y3 := by
  obtain ⟨xs, m, hm, _, hc, hx, hf⟩ := DataW.trod_struct hs h
  have hc2 : cs.length = 4 := hc.trans hC
  have h0 := hf 0 f0 rfl
  have h1 := hf 1 f1 rfl
  have h2 := hf 2 f2 rfl
  have h3 := hf 3 f3 rfl
  obtain ⟨o0, k0⟩ := hone_of hone 0 f0 rfl
  obtain ⟨o1, k1⟩ := hone_of hone 1 f1 rfl
  obtain ⟨o2, k2⟩ := hone_of hone 2 f2 rfl
  obtain ⟨o3, k3⟩ := hone_of hone 3 f3 rfl
  match cs, hc2 with
  | [c0, c1, c2, c3], _ =>
    match xs, hx with
    | [y0, y1, y2, y3], _ => exact ⟨c0, c1, c2, c3, y0, y1, y2, y3, m, hm, rfl, by simpa [o0, k0] using h0, by simpa [o1, k1] using h1, by simpa [o2, k2] using h2, by simpa [o3, k3] using h3⟩
theorem wf_i64 {x : Int} (h : (Lit.int .i64 x).wf = true) : i64 x := by
  simp [Lit.wf] at h
  simp [IntKind.min, IntKind.max, IntKind.bits, IntKind.signed] at h
  unfold i64
  omega
set_option maxRecDepth 100000 in
theorem trod_Geom : ∀ (n : Nat) (cs : List Value) (y : DataW H × List MemPlace), DataW.trod enc Try.prog w base spare held n 25 cs = some y →
    ∃ s1 s2 g, cs = [.int .i64 (GT.kind g), .int .i64 g.dim, s1, s2] ∧ RdG w s1 s2 g := by
  intro n
  induction n using Nat.strongRecOn with
  | _ n ih =>
    intro cs y h
    obtain ⟨c0, c1, c2, c3, y0, y1, y2, y3, m, hm, rfl, h0, h1, h2, h3⟩ := g_four Try.underlying25 (by kernel_rfl) (by kernel_rfl) h
    obtain ⟨k, e0, _, w0⟩ := DataW.trod_int Try.underlying3 h0
    obtain ⟨d, e1, _, w1⟩ := DataW.trod_int Try.underlying3 h1
    have e0' : c0 = .int .i64 k := by simpa using e0
    have e1' : c1 = .int .i64 d := by simpa using e1
    subst e0' e1'
    obtain ⟨A, nums, c, rfl, hrd, hlc, hcm⟩ := trod_rd Try.underlying22 (by kernel_rfl) (.float .f64) (fun n u y h => trod_float h) h2
    have e : Try.prog.cellsOf 25 = 4 := by kernel_rfl
    rcases DataW.trod_slice Try.underlying23 h3 with ⟨hcs, _⟩ | ⟨a, len, cap, elems, rest, n', hn', hcs, _, _, hl, hmx, hel, hi, _⟩
    · cases hcs
      exact ⟨_, _, .mk k d nums [], rfl, RdG.mk (kids := []) (fun _ => (.slice none 0 0, .slice none 0 0)) (wf_i64 w0) (wf_i64 w1) hlc hcm (Nat.le_refl 0) (Nat.zero_le maxLen) hrd (fun h => absurd h (Nat.lt_irrefl 0)) (fun i k h => by cases h)⟩
    · cases hcs
      rw [e] at hi
      obtain ⟨ps, hpl, hps⟩ := collect_lt (n := len) (p := fun i (q : GT × Value × Value) => w.cell? (a.add (i * 4)) = some (.int .i64 q.1.kind) ∧ w.cell? (a.add (i * 4 + 1)) = some (.int .i64 q.1.dim) ∧ w.cell? (a.add (i * 4 + 2)) = some q.2.1 ∧ w.cell? (a.add (i * 4 + 3)) = some q.2.2 ∧ RdG w q.2.1 q.2.2 q.1) (fun i hil => by
        have hx := hi i hil
        rw [List.getElem?_eq_getElem (by omega)] at hx
        obtain ⟨cs', h1, h2⟩ := Option.bind_eq_some_iff.1 hx
        obtain ⟨s1, s2, g, rfl, hg⟩ := ih n' (by omega) _ _ h2
        obtain ⟨_, _, hat⟩ := World.cells?_some h1
        have h0 := hat 0 (by omega)
        have h1 := hat 1 (by omega)
        have h2 := hat 2 (by omega)
        have h3 := hat 3 (by omega)
        rw [Deep.add_add] at h0 h1 h2 h3
        exact ⟨(g, s1, s2), h0, h1, h2, h3, hg⟩)
      have hq : ∀ (i : Nat) (k : GT), (ps.map (·.1))[i]? = some k → ∃ q, ps[i]? = some q ∧ q.1 = k := fun i k h => by
        rw [List.getElem?_map] at h
        cases hj : ps[i]? with
        | none => rw [hj] at h; cases h
        | some q => rw [hj] at h; exact ⟨q, rfl, by simpa using h⟩
      refine ⟨_, .slice (some a) (ps.map (·.1)).length cap, .mk k d nums (ps.map (·.1)), by simp [GT.kind, GT.dim, hpl],
        .mk (fun i => match ps[i]? with | some q => q.2 | none => (.slice none 0 0, .slice none 0 0)) (wf_i64 w0) (wf_i64 w1) hlc hcm (by simp [hpl]; exact hl) hmx hrd (fun hp => ?_) (fun i k hk => ?_)⟩
      · have hp' : 0 < ps.length := by simpa using hp
        have c0 := (hps 0 _ (List.getElem?_eq_getElem hp')).1
        have hs : a.spot = none := by
          have := World.cell?_spot c0
          simpa [Addr.add] using this
        have hlt := block_of_cell c0
        rw [add_block] at hlt
        obtain ⟨b, off, sp⟩ := a
        simp only at hs hlt
        subst hs
        refine ⟨b, off, rfl, hlt, fun i k hk => ?_⟩
        obtain ⟨q, hq1, rfl⟩ := hq i k hk
        obtain ⟨k0, k1, k2, k3, _⟩ := hps i q hq1
        simp only [add_off] at k0 k1 k2 k3
        simp only [hq1]
        exact ⟨k0, k1, k2, k3⟩
      · obtain ⟨q, hq1, rfl⟩ := hq i k hk
        simp only [hq1]
        exact (hps i q hq1).2.2.2.2
set_option maxRecDepth 100000 in
theorem open_Geom {r : Reach} {b0 : Nat} {v : Value} {d : DataW H} {p : List MemPlace} (hv : Value.okWide Try.prog w r b0 25 v) (h : DataW.Trod enc Try.prog w base spare held 25 v d p) :
    ∃ s1 s2 g, v = .agg #[.int .i64 (GT.kind g), .int .i64 g.dim, s1, s2] ∧ RdG w s1 s2 g := by
  obtain ⟨cs, rfl, _⟩ := okWide_struct Try.underlying25 hv
  obtain ⟨fuel, hf⟩ := h
  obtain ⟨s1, s2, g, hc, hg⟩ := trod_Geom _ _ _ hf
  obtain ⟨l⟩ := cs
  simp only [Value.cells] at hc
  subst hc
  exact ⟨s1, s2, g, rfl, hg⟩
end
end Go.Proofs.Ytbigadbnijpcjaa
