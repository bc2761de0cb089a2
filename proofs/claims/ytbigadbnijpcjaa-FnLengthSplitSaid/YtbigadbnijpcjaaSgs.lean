/-
  Contracts: about (two numbers near one another), spec.Segs.
-/
import Derived.Test.YtbigadbnijpcjaaGo
import Derived.Test.YtbigadbnijpcjaaLen
import Derived.Test.YtbigadbnijpcjaaSums
namespace Go.Proofs.Ytbigadbnijpcjaa
open Go.RowKit Fl
theorem mag_below (k : Nat) (hk : k ≤ 1000) : mag (P52 * (1023 - k)) * 2 ^ k = U1 := by
  have h1 : 2 * P52 ≤ P52 * (1023 - k) := by rw [Nat.mul_comm 2]; exact Nat.mul_le_mul_left _ (by omega)
  rw [mag_great h1, Nat.mul_mod_right, Nat.mul_div_cancel_left _ (by decide), Nat.add_zero]
  obtain ⟨u, hu, hu'⟩ := u_is
  rw [U1_eq u hu, show P52 = 2 ^ 52 from rfl, ← Nat.pow_add, ← Nat.pow_add]
  congr 1; omega
/-- A number that is small in size is below 2 ^ -k. -/
theorem below_pow {d : Nat} (k : Nat) (hk : k ≤ 1000) (hf : fin d = true) (h : (val d).natAbs * 2 ^ k < U1) : flt (rung d) (P52 * (1023 - k)) = true := by
  have hr : rung (rung d) = rung d := Nat.mod_eq_of_lt (rung_le d)
  have hd : rung d < INF := by simpa [fin] using hf
  have hT : P52 * (1023 - k) < INF := by
    have : P52 * (1023 - k) ≤ P52 * 1023 := Nat.mul_le_mul_left _ (by omega)
    refine Nat.lt_of_le_of_lt this (by decide)
  have hT' : rung (P52 * (1023 - k)) = P52 * (1023 - k) := Nat.mod_eq_of_lt (Nat.lt_trans hT (by decide))
  have f1 : fin (rung d) = true := by unfold fin; rw [hr]; simpa using hd
  have f2 : fin (P52 * (1023 - k)) = true := by unfold fin; rw [hT']; simpa using hT
  have n1 : neg (rung d) = false := by
    unfold neg
    rw [Nat.div_eq_of_lt (rung_le d)]; rfl
  have n2 : neg (P52 * (1023 - k)) = false := by
    unfold neg
    rw [Nat.div_eq_of_lt (Nat.lt_trans hT (by decide))]; rfl
  rw [flt_fin f1 f2]
  unfold key
  rw [n1, n2, hr, hT']
  simp only [Bool.false_eq_true, if_false, decide_eq_true_eq, Int.ofNat_lt]
  have hv : (val d).natAbs = mag (rung d) := by unfold val; split <;> simp
  rcases Nat.lt_or_ge (rung d) (P52 * (1023 - k)) with hl | hl
  · exact hl
  · exfalso
    have : mag (P52 * (1023 - k)) ≤ mag (rung d) := by
      rcases Nat.lt_or_ge (P52 * (1023 - k)) (rung d) with h1 | h1
      · exact Nat.le_of_lt (mag_lt h1)
      · rw [show rung d = P52 * (1023 - k) by omega]; exact Nat.le_refl _
    have h2 := Nat.mul_le_mul_right (2 ^ k) this
    rw [mag_below k hk, ← hv] at h2
    omega
theorem about_near {x y d : Nat} (hd : Ieee.double.sub x y = some d) (hf : fin d = true) (h : (val d).natAbs * 2 ^ 20 < U1) (w : World) :
    Calls Try.prog 22 #[.float .f64 x, .float .f64 y] w fun e w' => e = .returned (.bool true) ∧ w = w' := by
  have h1 := fun t W => run_fsub hd t W
  have h2 : flt (rung d) 4517110426252607488 = true := below_pow 20 (by decide) hf h
  have HA := Lib.hid fun W => abs_any d W
  clear hd hf h
  generalize rung d = r at *
  go_enter Try.func22, Try.ntmps22
  go_wp2_with fail; refine (HA.out _).mono ?_; rintro e w' ⟨rfl, rfl⟩
  go_wp2
  go_ret
  exact ⟨rfl, rfl⟩
/-- The sign of a sum of lengths. -/
theorem fgt_zero {S y : Nat} (h : isU S y) : fgt S 0 = decide (0 < y) := by
  have h0 := isU_zero
  rw [fgt_fin h.1 h0.1]
  have hc := compare_val 0 S
  rw [h.2, h0.2] at hc
  rcases Int.lt_trichotomy (key 0) (key S) with hl | hl | hl
  · rw [compare_lt hl] at hc
    have : (((0 : Nat) : Int)) < (y : Int) := by
      rcases Int.lt_trichotomy ((0 : Nat) : Int) (y : Int) with h1 | h1 | h1
      · exact h1
      · rw [compare_eq h1] at hc; cases hc
      · rw [compare_gt h1] at hc; cases hc
    simp only [hl, decide_true]
    symm; simp only [decide_eq_true_eq]; omega
  · rw [compare_eq hl] at hc
    have : (y : Int) = 0 := by
      rcases Int.lt_trichotomy ((0 : Nat) : Int) (y : Int) with h1 | h1 | h1
      · rw [compare_lt h1] at hc; cases hc
      · omega
      · omega
    simp only [hl, Int.lt_irrefl, decide_false]
    symm; simp only [decide_eq_false_iff_not]; omega
  · exfalso
    rw [compare_gt hl] at hc
    rcases Int.lt_trichotomy ((0 : Nat) : Int) (y : Int) with h1 | h1 | h1
    · rw [compare_lt h1] at hc; cases hc
    · rw [compare_eq h1] at hc; cases hc
    · omega
end Go.Proofs.Ytbigadbnijpcjaa
