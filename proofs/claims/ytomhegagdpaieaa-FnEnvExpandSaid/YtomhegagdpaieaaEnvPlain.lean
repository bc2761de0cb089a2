/-
  Plain laws of least boxes: what the steps give and what the list gives have equal ends.
-/
import Derived.Test.YtomhegagdpaieaaEnvE
namespace Go.Proofs.Ytomhegagdpaieaa
open Fl

theorem fmin_key {a b : Nat} (ha : fin a = true) (hb : fin b = true) : fin (fmin a b) = true ∧ key (fmin a b) = if key a < key b then key a else key b := by
  unfold fmin
  rw [num_of_fin ha, flt_fin ha hb]
  by_cases h : key a < key b <;> simp [h, ha, hb]
theorem fmax_key {a b : Nat} (ha : fin a = true) (hb : fin b = true) : fin (fmax a b) = true ∧ key (fmax a b) = if key b < key a then key a else key b := by
  unfold fmax
  rw [num_of_fin ha, fgt_fin ha hb]
  by_cases h : key b < key a <;> simp [h, ha, hb]

/-- Two boxes with finite, equal ends, in order. -/
def Ev.like (e o : Ev) : Prop := e.f = o.f ∧ (e.f = true → (fin e.a = true ∧ fin e.b = true ∧ fin e.c = true ∧ fin e.d = true) ∧ (fin o.a = true ∧ fin o.b = true ∧ fin o.c = true ∧ fin o.d = true) ∧
  key e.a = key o.a ∧ key e.b = key o.b ∧ key e.c = key o.c ∧ key e.d = key o.d ∧ key o.a ≤ key o.c ∧ key o.b ≤ key o.d)
theorem Ev.like_same {e o : Ev} (h : e.like o) : e.same o = true := by
  obtain ⟨hf, h⟩ := h
  unfold Ev.same
  cases h1 : e.f
  · rw [h1] at hf; simp [← hf]
  · obtain ⟨⟨a1, a2, a3, a4⟩, ⟨b1, b2, b3, b4⟩, k1, k2, k3, k4, _⟩ := h h1
    rw [h1] at hf
    rw [feq_fin a1 b1, feq_fin a2 b2, feq_fin a3 b3, feq_fin a4 b4]
    simp [← hf, k1, k2, k3, k4]
def stepE (e : Ev) (p : Nat × Nat) : Ev := ((envC e.f e.a e.b e.c e.d).ex p).z
def stepsOf (ps : List (Nat × Nat)) : Ev := ps.foldl stepE Ev.no
theorem stepsOf_snoc {ps : List (Nat × Nat)} {k : Nat} {p : Nat × Nat} (h : ps[k]? = some p) : stepsOf (ps.take (k + 1)) = stepE (stepsOf (ps.take k)) p := by
  have hk : k < ps.length := (List.getElem?_eq_some_iff.1 h).1
  have hp : ps[k] = p := by
    have := List.getElem?_eq_getElem hk
    rw [h] at this; exact (Option.some.inj this).symm
  rw [List.take_succ_eq_append_getElem hk, stepsOf, List.foldl_append, hp]; rfl
theorem like_step {e o : Ev} {p : Nat × Nat} (h : e.like o) (hp : finXY p = true) : (e.ex p).like (stepE o p) := by
  simp only [finXY, Bool.and_eq_true] at hp
  obtain ⟨p1, p2⟩ := hp
  obtain ⟨hf, h⟩ := h
  refine ⟨rfl, fun _ => ?_⟩
  unfold stepE Ev.z Ev.ex envC
  cases h1 : e.f
  · rw [h1] at hf
    simp only [← hf]
    simp [emin, emax, Ev.no, p1, p2]
  · obtain ⟨⟨a1, a2, a3, a4⟩, ⟨b1, b2, b3, b4⟩, k1, k2, k3, k4, o1, o2⟩ := h h1
    rw [h1] at hf
    simp only [← hf, if_true, emin, emax]
    have m1 := fmin_key b1 b3
    have m2 := fmin_key b2 b4
    have m3 := fmax_key b1 b3
    have m4 := fmax_key b2 b4
    have n1 := fmin_key m1.1 p1
    have n2 := fmin_key m2.1 p2
    have n3 := fmax_key m3.1 p1
    have n4 := fmax_key m4.1 p2
    have l1 := fmin_key a1 p1
    have l2 := fmin_key a2 p2
    have l3 := fmax_key a3 p1
    have l4 := fmax_key a4 p2
    refine ⟨⟨l1.1, l2.1, l3.1, l4.1⟩, ⟨n1.1, n2.1, n3.1, n4.1⟩, ?_, ?_, ?_, ?_, ?_, ?_⟩
    · rw [l1.2, n1.2, m1.2]; split <;> split <;> split at * <;> omega
    · rw [l2.2, n2.2, m2.2]; split <;> split <;> split at * <;> omega
    · rw [l3.2, n3.2, m3.2]; split <;> split <;> split at * <;> omega
    · rw [l4.2, n4.2, m4.2]; split <;> split <;> split at * <;> omega
    · rw [n1.2, n3.2, m1.2, m3.2]; split <;> split <;> split at * <;> split at * <;> omega
    · rw [n2.2, n4.2, m2.2, m4.2]; split <;> split <;> split at * <;> split at * <;> omega
theorem steps_like (ps : List (Nat × Nat)) (h : ps.all finXY = true) : ∀ k, k ≤ ps.length → (evOf (ps.take k)).like (stepsOf (ps.take k)) ∧ (stepsOf (ps.take k)).f = decide (0 < k) := by
  intro k
  induction k with
  | zero => intro _; exact ⟨⟨rfl, fun h => by simp [evOf, Ev.no] at h⟩, rfl⟩
  | succ k ih =>
    intro hk
    have hp : ps[k]? = some ps[k] := List.getElem?_eq_getElem (by omega)
    rw [evOf_snoc hp, stepsOf_snoc hp]
    refine ⟨like_step (ih (by omega)).1 (List.all_eq_true.1 h _ (List.getElem_mem _)), ?_⟩
    simp [stepE, Ev.z, Ev.ex]
theorem like_z {e o : Ev} (h : e.like o) : e.z.like o := by
  unfold Ev.z
  cases h1 : e.f
  · refine ⟨by simpa [Ev.no, h1] using h.1, fun h => by simp [Ev.no] at h⟩
  · exact h
theorem steps_same (ps : List (Nat × Nat)) (h : ps.all finXY = true) : (evOf ps).z.same (stepsOf ps) = true ∧ (stepsOf ps).f = decide (0 < ps.length) := by
  have := steps_like ps h ps.length (Nat.le_refl _)
  rw [List.take_length] at this
  exact ⟨Ev.like_same (like_z this.1), this.2⟩
end Go.Proofs.Ytomhegagdpaieaa
