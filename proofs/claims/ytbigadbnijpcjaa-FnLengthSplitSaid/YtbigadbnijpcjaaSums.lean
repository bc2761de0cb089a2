/-
  Plain laws of binary64 arithmetic: sums of up to 200 numbers not below 0, taken at once or in two parts. No program in sight.
-/
import Derived.Test.YtbigadbnijpcjaaRoot
namespace Go.Proofs.Ytbigadbnijpcjaa
namespace Fl
open Ieee
def addAll : Nat → List Nat → Option Nat
  | s, [] => some s
  | s, r :: rs => match double.add s r with
    | some c => addAll c rs
    | none => none
/-- The unit of the bounds: no summand is above it. -/
def DU : Nat := 2 ^ 14 * U1
/-- x is nearly E, behind k steps. -/
def off (x E k : Nat) : Prop := 2 ^ 53 * x ≤ 2 ^ 53 * E + k * (256 * DU) ∧ 2 ^ 53 * E ≤ 2 ^ 53 * x + k * (256 * DU)
theorem DU_pos : 0 < DU := Nat.mul_pos (by decide) U1_pos
theorem DU_top : 512 * DU < 2 ^ 1400 := by
  obtain ⟨u, hu, hu'⟩ := u_is
  unfold DU
  rw [U1_eq u hu, ← Nat.pow_add, show (512 : Nat) = 2 ^ 9 from rfl, ← Nat.pow_add]
  obtain ⟨T, hT⟩ : ∃ T : Nat, 1400 = T := ⟨_, rfl⟩
  rw [hT]
  exact Nat.pow_lt_pow_right (by decide) (by omega)
attribute [irreducible] DU
theorem off_small {x E k : Nat} (h : off x E k) (hE : E ≤ k * DU) (hk : k ≤ 200) : x ≤ 201 * DU := by
  unfold off at h
  have h1 : k * (256 * DU) = 256 * (k * DU) := by rw [← Nat.mul_assoc, Nat.mul_comm k 256, Nat.mul_assoc]
  have h2 : k * DU ≤ 200 * DU := Nat.mul_le_mul_right _ hk
  rw [h1] at h
  have := h.1
  generalize k * DU = Q at *
  generalize DU = D at *
  omega
theorem addAll_off : ∀ (rs vs : List Nat) (s x E k : Nat), rs.length = vs.length → (∀ (i r v : Nat), rs[i]? = some r → vs[i]? = some v → isU r v ∧ v ≤ DU) → isU s x → off x E k → E ≤ k * DU → k + rs.length ≤ 200 →
    ∃ S y, addAll s rs = some S ∧ isU S y ∧ off y (E + vs.sum) (k + rs.length) ∧ E + vs.sum ≤ (k + rs.length) * DU ∧ (y = 0 ↔ x = 0 ∧ ∀ v ∈ vs, v = 0)
  | [], [], s, x, E, k, _, _, hs, ho, hE, _ => ⟨s, x, rfl, hs, by simpa using ho, by simpa using hE, by simp⟩
  | r :: rs, v :: vs, s, x, E, k, hl, h, hs, ho, hE, hk => by
    simp only [List.length_cons] at hk hl
    obtain ⟨hr, hv⟩ := h 0 r v rfl rfl
    have hx := off_small ho hE (by omega)
    have htop := DU_top
    obtain ⟨c, z, e, hc, hn⟩ := add_near hs hr (by generalize 2 ^ 1400 = T at *; omega)
    have ho' : off z (E + v) (k + 1) := by
      unfold off at ho ⊢
      obtain ⟨n1, n2⟩ := hn
      obtain ⟨o1, o2⟩ := ho
      have e1 : (k + 1) * (256 * DU) = k * (256 * DU) + 256 * DU := Nat.succ_mul _ _
      rw [e1]
      generalize k * (256 * DU) = Q at *
      generalize DU = D at *
      omega
    have hE' : E + v ≤ (k + 1) * DU := by rw [Nat.succ_mul]; omega
    obtain ⟨S, y, f1, f2, f3, f4, f5⟩ := addAll_off rs vs c z (E + v) (k + 1) (by omega) (fun i r' v' h1 h2 => h (i + 1) r' v' (by simpa using h1) (by simpa using h2)) hc ho' hE' (by omega)
    have hz : z = 0 ↔ x = 0 ∧ v = 0 := by
      obtain ⟨n1, n2⟩ := hn
      constructor
      · intro h0; subst h0; omega
      · rintro ⟨h1, h2⟩; subst h1 h2; omega
    refine ⟨S, y, ?_, f2, ?_, ?_, ?_⟩
    · unfold addAll; rw [e]; exact f1
    · rw [List.sum_cons, List.length_cons, ← Nat.add_assoc, show k + (rs.length + 1) = k + 1 + rs.length by omega]; exact f3
    · rw [List.sum_cons, List.length_cons, ← Nat.add_assoc, show k + (rs.length + 1) = k + 1 + rs.length by omega]; exact f4
    · rw [f5, hz]; simp [and_assoc]
theorem isU_zero : isU 0 0 := by
  have := isZ_U (z := 0) isZ_zero
  simpa using this
/-- THE SUM OF TWO PARTS lies near the sum of all. -/
theorem split_sum (rs vs : List Nat) (j : Nat) (hl : rs.length = vs.length) (h : ∀ (i r v : Nat), rs[i]? = some r → vs[i]? = some v → isU r v ∧ v ≤ DU) (hn : rs.length ≤ 99) :
    ∃ W A B P d w, addAll 0 rs = some W ∧ addAll 0 (rs.take j) = some A ∧ addAll 0 (rs.drop j) = some B ∧ double.add A B = some P ∧ double.sub W P = some d ∧ fin d = true ∧ (val d).natAbs * 2 ^ 22 ≤ U1 ∧ isU W w ∧ (w = 0 ↔ ∀ v ∈ vs, v = 0) := by
  have h0 : off 0 0 0 := ⟨by omega, by omega⟩
  obtain ⟨W, w, w1, w2, w3, w4, w5⟩ := addAll_off rs vs 0 0 0 0 hl h isU_zero h0 (Nat.zero_le _) (by omega)
  have hta : (rs.take j).length = (vs.take j).length := by simp [hl]
  have htd : (rs.drop j).length = (vs.drop j).length := by simp [hl]
  have hlen : (rs.take j).length + (rs.drop j).length = rs.length := by rw [← List.length_append, List.take_append_drop]
  have hsum : (vs.take j).sum + (vs.drop j).sum = vs.sum := by rw [← List.sum_append, List.take_append_drop]
  obtain ⟨A, a, a1, a2, a3, a4, _⟩ := addAll_off (rs.take j) (vs.take j) 0 0 0 0 hta (fun i r v h1 h2 => by
    rw [List.getElem?_take] at h1 h2
    split at h1
    · rename_i hi; rw [if_pos hi] at h2; exact h i r v h1 h2
    · cases h1) isU_zero h0 (Nat.zero_le _) (by omega)
  obtain ⟨B, b, b1, b2, b3, b4, _⟩ := addAll_off (rs.drop j) (vs.drop j) 0 0 0 0 htd (fun i r v h1 h2 => by
    rw [List.getElem?_drop] at h1 h2
    exact h _ r v h1 h2) isU_zero h0 (Nat.zero_le _) (by omega)
  simp only [Nat.zero_add] at w3 w4 a3 a4 b3 b4
  have hw := off_small w3 w4 (by omega)
  have ha := off_small a3 a4 (by omega)
  have hb := off_small b3 b4 (by omega)
  have htop := DU_top
  obtain ⟨P, p, p1, p2, p3⟩ := add_near a2 b2 (by generalize 2 ^ 1400 = T at *; omega)
  have hp : p ≤ 403 * DU := by have := p3.1; generalize DU = D at *; omega
  obtain ⟨d, z, d1, d2, d3, d4⟩ := sub_near w2 p2 (by generalize 2 ^ 1400 = T at *; omega) (by generalize 2 ^ 1400 = T at *; omega)
  refine ⟨W, A, B, P, d, w, w1, a1, b1, p1, d1, d2, ?_, w2, by rw [w5]; simp⟩
  rw [d4]
  have hD : DU = 2 ^ 14 * U1 := by unfold DU; rfl
  -- the difference is small
  unfold off at w3 a3 b3
  have m1 : rs.length * (256 * DU) ≤ 99 * (256 * DU) := Nat.mul_le_mul_right _ hn
  have m2 : (rs.take j).length * (256 * DU) + (rs.drop j).length * (256 * DU) = rs.length * (256 * DU) := by rw [← Nat.add_mul, hlen]
  have hdiff : 2 ^ 53 * ((w : Int) - (p : Int)).natAbs ≤ 201 * (256 * DU) := by
    obtain ⟨x1, x2⟩ := w3
    obtain ⟨y1, y2⟩ := a3
    obtain ⟨u1, u2⟩ := b3
    obtain ⟨t1, t2⟩ := p3
    generalize rs.length * (256 * DU) = Q1 at *
    generalize (rs.take j).length * (256 * DU) = Q2 at *
    generalize (rs.drop j).length * (256 * DU) = Q3 at *
    generalize DU = D at *
    omega
  have hz : z ≤ 2 * ((w : Int) - (p : Int)).natAbs := by have := d3.1; omega
  rw [hD] at hdiff
  generalize ((w : Int) - (p : Int)).natAbs = q at *
  generalize U1 = U at *
  omega
end Fl
end Go.Proofs.Ytbigadbnijpcjaa
