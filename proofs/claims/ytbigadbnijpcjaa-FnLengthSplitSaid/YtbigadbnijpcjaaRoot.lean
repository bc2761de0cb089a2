/-
  Plain laws of binary64 arithmetic: whole numbers as words, roots of whole numbers, lengths of segments between whole places. No program in sight.
-/
import Derived.Test.YtbigadbnijpcjaaNear
namespace Go.Proofs.Ytbigadbnijpcjaa
namespace Fl
open Ieee
theorem u_is : ∃ u, u = U1E ∧ u = 1074 := ⟨U1E, rfl, by unfold U1E; rfl⟩
theorem ofInt_whole {z : Int} (h : z.natAbs < 2 ^ 53) : isZ (FloatKind.f64.nearest z) z := by
  obtain ⟨r, hr, e⟩ := whole_rung z.natAbs h
  obtain ⟨u, hu, hu'⟩ := u_is
  have h0 : ((0 : Int) + 1074).toNat = U1E := by rw [← hu, hu']; rfl
  obtain ⟨w1, w2⟩ := write_exact (decide (z < 0)) z.natAbs 0 r (.inl (by omega)) hr (by rw [e, ← U1_eq _ h0])
  have e1 : FloatKind.f64.nearest z = double.write (.number (decide (z < 0)) z.natAbs 0) := rfl
  rw [e1]
  refine ⟨w1, ?_⟩
  rw [w2, signed_whole _ _ _ h0]
  by_cases hz : z < 0
  · rw [if_pos (decide_eq_true hz)]; congr 1; omega
  · rw [if_neg (by simpa using hz)]; congr 1; omega
theorem rootFrom_le (n : Nat) : ∀ (todo root : Nat), root * root ≤ n → Datum.rootFrom n todo root * Datum.rootFrom n todo root ≤ n
  | 0, root, h => by unfold Datum.rootFrom; exact h
  | todo + 1, root, h => by
    unfold Datum.rootFrom
    by_cases hc : (root + 1 <<< todo) * (root + 1 <<< todo) ≤ n
    · simp only [hc, if_true]; exact rootFrom_le n todo _ hc
    · simp only [hc, if_false]; exact rootFrom_le n todo _ h
theorem sq_le {a b : Nat} (h : a * a ≤ b * b) : a ≤ b := by
  rcases Nat.lt_or_ge b a with hl | hl
  · have := Nat.mul_lt_mul'' hl hl; omega
  · exact hl
/-- THE ROOT of a whole number up to 2 ^ 24: not below 0, not great, and 0 just if the number is. -/
theorem sqrt_whole {a z : Nat} (ha : isZ a (z : Int)) (hz : z ≤ 2 ^ 24) : ∃ c v, double.sqrt a = some c ∧ isU c v ∧ v ≤ 2 ^ 14 * U1 ∧ (v = 0 ↔ z = 0) := by
  obtain ⟨m, i, hm, hi, hv, hml⟩ := read_fin_mag a ha.1
  rw [ha.2] at hv
  obtain ⟨u, hu, hu'⟩ := u_is
  have h1 : m * 2 ^ (i + 1074).toNat = z * U1 := by rw [← signed_natAbs' (neg a), hv, Int.natAbs_mul, Int.natAbs_natCast, Int.natAbs_natCast]
  have hU := U1_pos
  by_cases hz0 : z = 0
  · subst hz0
    have hm0 : m = 0 := by
      rw [Nat.zero_mul] at h1
      rcases Nat.mul_eq_zero.1 h1 with h | h
      · exact h
      · have := Nat.two_pow_pos (i + 1074).toNat; omega
    subst hm0
    obtain ⟨x, w1, w2, w3⟩ := write_near (neg a) 0 i (.inr rfl) (by rw [Nat.zero_mul]; exact Nat.two_pow_pos 1400)
    rw [Nat.zero_mul] at w3
    have hx := near_zero w3
    subst hx
    refine ⟨_, 0, ?_, ⟨w1, ?_⟩, Nat.zero_le _, by simp⟩
    · unfold Format.sqrt; rw [hm]; simp [Datum.root]
    · rw [w2]; split <;> rfl
  · have hm0 : m ≠ 0 := fun e => by
      rw [e, Nat.zero_mul] at h1
      have := Nat.mul_pos (Nat.pos_of_ne_zero hz0) hU
      omega
    have hneg : neg a = false := by
      cases e : neg a
      · rfl
      · rw [e, signed_eq] at hv
        simp only [if_true] at hv
        have h2 : (0 : Int) < (z : Int) * (U1 : Nat) := Int.mul_pos (by omega) (by omega)
        omega
    have hI := whole_place hml h1 (by omega)
    obtain ⟨I, hIe⟩ : ∃ I, (i + 1074).toNat = I := ⟨_, rfl⟩
    rw [hIe] at h1 hI
    have hlog : m.log2 ≤ 52 := by
      have := (Nat.log2_lt hm0).2 hml; omega
    -- I is not great
    have hI2 : I ≤ u + 24 := by
      rcases Nat.lt_or_ge (u + 24) I with h | h
      · exfalso
        have h3 : 2 ^ I ≤ m * 2 ^ I := Nat.le_mul_of_pos_left _ (Nat.pos_of_ne_zero hm0)
        have h4 : z * U1 ≤ 2 ^ 24 * U1 := Nat.mul_le_mul_right _ hz
        rw [U1_eq u hu, ← Nat.pow_add] at h4
        have h5 : 2 ^ (24 + u) < 2 ^ I := Nat.pow_lt_pow_right (by decide) (by omega)
        rw [U1_eq u hu] at h1
        omega
      · exact h
    -- the root's form
    have hroot : ∃ (w b : Nat) (more : Nat) (h : Int), Datum.root 54 (.number false m i) = some (.number false (2 * w + b) (h - 1)) ∧ w * w ≤ m * 2 ^ more ∧ b ≤ 1 ∧ 0 < 2 * w + b ∧ i - more = 2 * h ∧ 56 ≤ more ∧ more ≤ 109 := by
      obtain ⟨more, hmore⟩ : ∃ more : Nat, 2 * 54 - m.log2 + ((i - ((2 * 54 - m.log2 : Nat) : Int)) % 2).toNat = more := ⟨_, rfl⟩
      have hev : (i - (more : Int)) % 2 = 0 := by omega
      have hn : 0 < m * 2 ^ more := Nat.mul_pos (Nat.pos_of_ne_zero hm0) (Nat.two_pow_pos _)
      have hle := rootFrom_le (m * 2 ^ more) ((m * 2 ^ more).log2 / 2 + 1) 0 (Nat.zero_le _)
      refine ⟨Datum.rootFrom (m * 2 ^ more) ((m * 2 ^ more).log2 / 2 + 1) 0, (Datum.rootFrom (m * 2 ^ more) ((m * 2 ^ more).log2 / 2 + 1) 0 * Datum.rootFrom (m * 2 ^ more) ((m * 2 ^ more).log2 / 2 + 1) 0 != m * 2 ^ more).toNat, more, (i - more) / 2, ?_, hle, Bool.toNat_le _, ?_, by omega, by omega, by omega⟩
      · simp only [Datum.root, if_neg hm0, Bool.false_eq_true, if_false, Nat.shiftLeft_eq, hmore]
      · generalize Datum.rootFrom (m * 2 ^ more) ((m * 2 ^ more).log2 / 2 + 1) 0 = w at *
        rcases Nat.eq_zero_or_pos w with h0 | h0
        · subst h0
          have : (0 * 0 != m * 2 ^ more) = true := bne_iff_ne.2 (by omega)
          rw [this]; decide
        · omega
    obtain ⟨w, b, more, h, hr, hw, hb, hpos, heven, hmo1, hmo2⟩ := hroot
    obtain ⟨G, hG⟩ : ∃ G : Nat, (h + 1074).toNat = G := ⟨_, rfl⟩
    have hGe : 2 * G + more = I + u := by omega
    have hG1 : 1 ≤ G := by omega
    have hp : ((h - 1) + 1074).toNat = G - 1 := by omega
    -- W is not great
    have hW : w * 2 ^ G ≤ 2 ^ 12 * U1 := by
      apply sq_le
      calc w * 2 ^ G * (w * 2 ^ G) = w * w * (2 ^ G * 2 ^ G) := Nat.mul_mul_mul_comm _ _ _ _
        _ ≤ m * 2 ^ more * (2 ^ G * 2 ^ G) := Nat.mul_le_mul_right _ hw
        _ = m * 2 ^ (I + u) := by rw [Nat.mul_assoc, ← Nat.pow_add, ← Nat.pow_add, show more + (G + G) = I + u by omega]
        _ = z * U1 * 2 ^ u := by rw [Nat.pow_add, ← Nat.mul_assoc, h1]
        _ ≤ 2 ^ 24 * U1 * 2 ^ u := Nat.mul_le_mul_right _ (Nat.mul_le_mul_right _ hz)
        _ = 2 ^ 12 * U1 * (2 ^ 12 * U1) := by
          rw [← U1_eq u hu, Nat.mul_mul_mul_comm (2 ^ 12) U1 (2 ^ 12) U1, ← Nat.mul_assoc]
    have hB : 2 ^ (G - 1) ≤ U1 := by rw [U1_eq u hu]; exact Nat.pow_le_pow_right (by decide) (by omega)
    have hN : (2 * w + b) * 2 ^ (G - 1) ≤ 2 ^ 13 * U1 := by
      have e : 2 * w * 2 ^ (G - 1) = w * 2 ^ G := by
        rw [show 2 ^ G = 2 ^ (G - 1) * 2 by rw [← Nat.pow_succ, show (G - 1).succ = G by omega], Nat.mul_comm 2 w, Nat.mul_assoc, Nat.mul_comm 2]
      rw [Nat.add_mul, e]
      have : b * 2 ^ (G - 1) ≤ 1 * U1 := Nat.mul_le_mul hb hB
      omega
    obtain ⟨x, w1, w2, w3⟩ := write_near false (2 * w + b) (h - 1) (.inl (by omega)) (by
      rw [hp]
      refine Nat.lt_of_le_of_lt hN ?_
      rw [U1_eq u hu, ← Nat.pow_add]
      obtain ⟨T, hT⟩ : ∃ T : Nat, 1400 = T := ⟨_, rfl⟩
      rw [hT]
      exact Nat.pow_lt_pow_right (by decide) (by omega))
    rw [hp] at w3
    have hNpos : 0 < (2 * w + b) * 2 ^ (G - 1) := Nat.mul_pos hpos (Nat.two_pow_pos _)
    refine ⟨_, x, ?_, ⟨w1, by rw [w2]; rfl⟩, ?_, ?_⟩
    · unfold Format.sqrt
      rw [hm, hneg]
      show (Datum.root 54 (.number false m i)).map double.write = _
      rw [hr]; rfl
    · have := w3.1; omega
    · have := w3.2
      constructor
      · intro e; omega
      · intro e; exact absurd e hz0
/-- A place with whole coordinates. -/
def bound (M : Nat) (p : Int × Int) : Prop := p.1.natAbs ≤ M ∧ p.2.natAbs ≤ M
def fz (z : Int) : Nat := FloatKind.f64.nearest z
/-- The words of a segment's length, one step after the other. -/
theorem seg_ok (p q : Int × Int) (hp : bound 1000 p) (hq : bound 1000 q) : ∃ dx dy a b c r v, double.sub (fz p.1) (fz q.1) = some dx ∧ double.sub (fz p.2) (fz q.2) = some dy ∧ double.mul dx dx = some a ∧ double.mul dy dy = some b ∧ double.add a b = some c ∧ double.sqrt c = some r ∧
    isU r v ∧ v ≤ 2 ^ 14 * U1 ∧ (v = 0 ↔ p = q) := by
  obtain ⟨h1, h2⟩ := hp
  obtain ⟨h3, h4⟩ := hq
  have z1 : isZ (fz p.1) p.1 := ofInt_whole (by omega)
  have z2 : isZ (fz p.2) p.2 := ofInt_whole (by omega)
  have z3 : isZ (fz q.1) q.1 := ofInt_whole (by omega)
  have z4 : isZ (fz q.2) q.2 := ofInt_whole (by omega)
  obtain ⟨dx, e1, i1⟩ := sub_whole z1 z3 (by omega)
  obtain ⟨dy, e2, i2⟩ := sub_whole z2 z4 (by omega)
  have b1 : (p.1 - q.1).natAbs ≤ 2000 := by omega
  have b2 : (p.2 - q.2).natAbs ≤ 2000 := by omega
  have s1 : ((p.1 - q.1) * (p.1 - q.1)).natAbs ≤ 4000000 := by rw [Int.natAbs_mul]; exact Nat.mul_le_mul b1 b1
  have s2 : ((p.2 - q.2) * (p.2 - q.2)).natAbs ≤ 4000000 := by rw [Int.natAbs_mul]; exact Nat.mul_le_mul b2 b2
  obtain ⟨a, e3, i3⟩ := mul_whole i1 i1 (by omega)
  obtain ⟨b, e4, i4⟩ := mul_whole i2 i2 (by omega)
  have n1 : 0 ≤ (p.1 - q.1) * (p.1 - q.1) := by
    rcases Int.le_total 0 (p.1 - q.1) with h | h
    · exact Int.mul_nonneg h h
    · exact Int.mul_nonneg_of_nonpos_of_nonpos h h
  have n2 : 0 ≤ (p.2 - q.2) * (p.2 - q.2) := by
    rcases Int.le_total 0 (p.2 - q.2) with h | h
    · exact Int.mul_nonneg h h
    · exact Int.mul_nonneg_of_nonpos_of_nonpos h h
  have hz1 : (p.1 - q.1) * (p.1 - q.1) = 0 → p.1 = q.1 := fun h => by
    rcases Int.mul_eq_zero.1 h with h | h <;> omega
  have hz2 : (p.2 - q.2) * (p.2 - q.2) = 0 → p.2 = q.2 := fun h => by
    rcases Int.mul_eq_zero.1 h with h | h <;> omega
  have hz3 : p = q → (p.1 - q.1) * (p.1 - q.1) = 0 ∧ (p.2 - q.2) * (p.2 - q.2) = 0 := fun h => by
    subst h; simp
  generalize (p.1 - q.1) * (p.1 - q.1) = A at *
  generalize (p.2 - q.2) * (p.2 - q.2) = B at *
  obtain ⟨c, e5, i5⟩ := add_whole i3 i4 (by omega)
  obtain ⟨S, hS⟩ : ∃ S : Nat, A + B = (S : Int) := ⟨(A + B).toNat, by omega⟩
  rw [hS] at i5
  obtain ⟨r, v, e6, i6, hv1, hv2⟩ := sqrt_whole i5 (by omega)
  refine ⟨dx, dy, a, b, c, r, v, e1, e2, e3, e4, e5, e6, i6, hv1, ?_⟩
  rw [hv2]
  constructor
  · intro h
    exact Prod.ext (hz1 (by omega)) (hz2 (by omega))
  · intro h
    have := hz3 h
    omega
end Fl
end Go.Proofs.Ytbigadbnijpcjaa
