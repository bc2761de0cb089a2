/-
  Plain law: the lengths of a line's segments, of its first places and of those behind.
-/
import Derived.Test.YtbigadbnijpcjaaSgm
namespace Go.Proofs.Ytbigadbnijpcjaa
open Go.RowKit Fl
/-- Number j of rs is the length of segment j of the line. -/
def SegL (l : List (Int × Int)) (rs : List Nat) : Prop := ∀ (j r : Nat), rs[j]? = some r → ∃ p q, l[j]? = some p ∧ l[j + 1]? = some q ∧ Sg (fz p.1) (fz p.2) (fz q.1) (fz q.2) r
theorem nums_get : ∀ (l : List (Int × Int)) (i : Nat) (p : Int × Int), l[i]? = some p → (nums l)[i * 2]? = some (fz p.1) ∧ (nums l)[i * 2 + 1]? = some (fz p.2)
  | [], i, p, h => by simp at h
  | q :: l, 0, p, h => by
    obtain rfl : q = p := by simpa using h
    exact ⟨rfl, rfl⟩
  | q :: l, i + 1, p, h => by
    have := nums_get l i p (by simpa using h)
    rw [show (i + 1) * 2 = i * 2 + 1 + 1 by omega]
    exact ⟨by simpa [nums] using this.1, by simpa [nums] using this.2⟩
theorem plc_nums {l : List (Int × Int)} {i : Nat} {p : Int × Int} (h : l[i]? = some p) : px (plc 0 (nums l) i) = fz p.1 ∧ py (plc 0 (nums l) i) = fz p.2 := by
  obtain ⟨h0, h1⟩ := nums_get l i p h
  unfold px py
  rw [plc_get 0 (nums l) i 0 (by decide), plc_get 0 (nums l) i 1 (by decide), show i * wid 0 + 0 = i * 2 from rfl, show i * wid 0 + 1 = i * 2 + 1 from rfl]
  simp only [List.getD_eq_getElem?_getD, h0, h1]
  exact ⟨rfl, rfl⟩
theorem SegL.segt {l : List (Int × Int)} {rs : List Nat} (h : SegL l rs) : Segt 0 (nums l) rs := fun j r hr => by
  obtain ⟨p, q, hp, hq, hs⟩ := h j r hr
  rw [(plc_nums hp).1, (plc_nums hp).2, (plc_nums hq).1, (plc_nums hq).2]
  exact hs
theorem SegL.take {l : List (Int × Int)} {rs : List Nat} (h : SegL l rs) (j : Nat) : SegL (l.take (j + 1)) (rs.take j) := fun i r hr => by
  rw [List.getElem?_take] at hr
  split at hr
  · rename_i hi
    obtain ⟨p, q, hp, hq, hs⟩ := h i r hr
    exact ⟨p, q, by rw [List.getElem?_take_of_lt (by omega)]; exact hp, by rw [List.getElem?_take_of_lt (by omega)]; exact hq, hs⟩
  · cases hr
theorem SegL.drop {l : List (Int × Int)} {rs : List Nat} (h : SegL l rs) (j : Nat) : SegL (l.drop j) (rs.drop j) := fun i r hr => by
  rw [List.getElem?_drop] at hr
  obtain ⟨p, q, hp, hq, hs⟩ := h _ r hr
  exact ⟨p, q, by rw [List.getElem?_drop]; exact hp, by rw [List.getElem?_drop]; exact hq, hs⟩
theorem sgTo_none {l : List (Int × Int)} {n : Nat} (hn : l.length = n) : (sgTo l n).length = 0 ↔ ∀ i p q, l[i]? = some p → l[i + 1]? = some q → p = q := by
  rw [List.length_eq_zero_iff]
  unfold sgTo
  rw [List.filterMap_eq_nil_iff]
  constructor
  · intro h i p q hp hq
    have hi : i + 1 < l.length := (List.getElem?_eq_some_iff.1 hq).1
    have := h i (List.mem_range.2 (by omega))
    simp only [hp, hq] at this
    by_cases e : p = q
    · exact e
    · rw [if_neg e] at this; cases this
  · intro h i _
    cases hp : l[i]? with
    | none => rfl
    | some p =>
      cases hq : l[i + 1]? with
      | none => rfl
      | some q => simp only; rw [if_pos (h i p q hp hq)]
theorem split_all (l : List (Int × Int)) (n j : Nat) (hn : l.length = n) (h2 : n ≤ 100) (hall : l.all (okPl 1000) = true) :
    ∃ rs W A B P d, rs.length = n - 1 ∧ SegL l rs ∧ addAll 0 rs = some W ∧ addAll 0 (rs.take j) = some A ∧ addAll 0 (rs.drop j) = some B ∧ Ieee.double.add A B = some P ∧ Ieee.double.sub W P = some d ∧
      fin d = true ∧ (val d).natAbs * 2 ^ 20 < U1 ∧ fgt W 0 = decide (0 < (sgTo l n).length) := by
  obtain ⟨xs, hxl, hxs⟩ := collect_lt (n := n - 1) (p := fun i (x : Nat × Nat) => ∃ p q, l[i]? = some p ∧ l[i + 1]? = some q ∧ Sg (fz p.1) (fz p.2) (fz q.1) (fz q.2) x.1 ∧ isU x.1 x.2 ∧ x.2 ≤ DU ∧ (x.2 = 0 ↔ p = q)) (fun i hi => by
    obtain ⟨p, hp⟩ : ∃ p, l[i]? = some p := ⟨_, List.getElem?_eq_getElem (by omega)⟩
    obtain ⟨q, hq⟩ : ∃ q, l[i + 1]? = some q := ⟨_, List.getElem?_eq_getElem (by omega)⟩
    have bp := okPl_bound.1 (List.all_eq_true.1 hall p (List.mem_of_getElem? hp))
    have bq := okPl_bound.1 (List.all_eq_true.1 hall q (List.mem_of_getElem? hq))
    obtain ⟨dx, dy, a, b, c, r, v, e1, e2, e3, e4, e5, e6, i6, hv, hz⟩ := seg_ok p q bp bq
    exact ⟨(r, v), p, q, hp, hq, ⟨dx, dy, a, b, c, e1, e2, e3, e4, e5, e6⟩, i6, by unfold DU; exact hv, hz⟩)
  have hrl : (xs.map Prod.fst).length = n - 1 := by rw [List.length_map, hxl]
  have hget : ∀ {i r : Nat}, (xs.map Prod.fst)[i]? = some r → ∃ x, xs[i]? = some x ∧ x.1 = r := fun {i r} h => by
    rw [List.getElem?_map] at h
    cases hx : xs[i]? with
    | none => rw [hx] at h; cases h
    | some x => rw [hx] at h; exact ⟨x, rfl, by simpa using h⟩
  obtain ⟨W, A, B, P, d, w, w1, w2, w3, w4, w5, w6, w7, w8, w9⟩ := split_sum (xs.map Prod.fst) (xs.map Prod.snd) j (by simp) (fun i r v h1 h2 => by
    obtain ⟨x, hx, rfl⟩ := hget h1
    rw [List.getElem?_map, hx] at h2
    obtain rfl : x.2 = v := by simpa using h2
    obtain ⟨p, q, _, _, _, hu, hv, _⟩ := hxs i x hx
    exact ⟨hu, hv⟩) (by omega)
  refine ⟨xs.map Prod.fst, W, A, B, P, d, hrl, fun i r hr => ?_, w1, w2, w3, w4, w5, w6, ?_, ?_⟩
  · obtain ⟨x, hx, rfl⟩ := hget hr
    obtain ⟨p, q, hp, hq, hs, _⟩ := hxs i x hx
    exact ⟨p, q, hp, hq, hs⟩
  · have := U1_pos
    rw [show (2 : Nat) ^ 22 = 2 ^ 20 * 4 from rfl, ← Nat.mul_assoc] at w7
    generalize U1 = U at *
    omega
  · rw [fgt_zero w8]
    have key : w = 0 ↔ (sgTo l n).length = 0 := by
      rw [w9, sgTo_none hn]
      constructor
      · intro h i p q hp hq
        have hi : i + 1 < l.length := (List.getElem?_eq_some_iff.1 hq).1
        obtain ⟨x, hx⟩ : ∃ x, xs[i]? = some x := ⟨_, List.getElem?_eq_getElem (by omega)⟩
        obtain ⟨p', q', hp', hq', _, _, _, hz⟩ := hxs i x hx
        rw [hp] at hp'; rw [hq] at hq'
        cases hp'; cases hq'
        exact hz.1 (h x.2 (List.mem_map.2 ⟨x, List.mem_of_getElem? hx, rfl⟩))
      · intro h v hv
        obtain ⟨x, hx, rfl⟩ := List.mem_map.1 hv
        obtain ⟨i, hi⟩ := List.getElem?_of_mem hx
        obtain ⟨p, q, hp, hq, _, _, _, hz⟩ := hxs i x hi
        exact hz.2 (h i p q hp hq)
    congr 1
    apply propext
    omega
end Go.Proofs.Ytbigadbnijpcjaa
