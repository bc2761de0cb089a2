/-
  Plain: an unsigned number by seven bits a byte.
-/
import Derived.Laws.BitsAllLaws
namespace Go.Proofs.Ytomhegagdpaieaa

def uvB (n : Nat) : List Nat := if n < 128 then [n] else (n % 128 + 128) :: uvB (n / 128)
termination_by n
decreasing_by omega
theorem uvB_small {n : Nat} (h : n < 128) : uvB n = [n] := by rw [uvB, if_pos h]
theorem uvB_big {n : Nat} (h : ¬ n < 128) : uvB n = (n % 128 + 128) :: uvB (n / 128) := by rw [uvB, if_neg h]
theorem uvB_pos (n : Nat) : 0 < (uvB n).length := by
  by_cases h : n < 128
  · rw [uvB_small h]; simp
  · rw [uvB_big h]; simp
theorem uvB_len : ∀ (k n : Nat), n < 128 ^ (k + 1) → (uvB n).length ≤ k + 1
  | 0, n, h => by rw [uvB_small (by simpa using h)]; simp
  | k + 1, n, h => by
    by_cases hs : n < 128
    · rw [uvB_small hs]; simp
    · rw [uvB_big hs]
      have : n / 128 < 128 ^ (k + 1) := by
        rw [Nat.div_lt_iff_lt_mul (by omega)]
        rw [Nat.pow_succ] at h; exact h
      have := uvB_len k (n / 128) this
      simp; omega
theorem uvB_len64 {n : Nat} (h : n < 18446744073709551616) : (uvB n).length ≤ 10 := uvB_len 9 n (Nat.lt_of_lt_of_le h (by decide))
theorem uvB_byte (n : Nat) : ∀ b ∈ uvB n, b < 256 := by
  induction n using Nat.strongRecOn with
  | _ n ih =>
    intro b hb
    by_cases h : n < 128
    · rw [uvB_small h] at hb; simp at hb; omega
    · rw [uvB_big h] at hb
      rcases List.mem_cons.1 hb with rfl | hb
      · omega
      · exact ih (n / 128) (by omega) b hb
/-- The part that was read, and the rest. -/
theorem or_shift {x m k : Nat} (h : x < 2 ^ k) : x ||| (m <<< k) = x + m * 2 ^ k := by
  rw [Nat.or_comm, ← Nat.shiftLeft_add_eq_or_of_lt h, Nat.shiftLeft_eq]; omega
theorem or_val {y m j p : Nat} (hp : p = 2 ^ j) (hy : y < p) (hb : y + m * p < 18446744073709551616) : bits .or .u64 (y : Int) ((m : Int) * (p : Int)) = ((y + m * p : Nat) : Int) := by
  have : (m : Int) * (p : Int) = ((m * p : Nat) : Int) := by simp
  rw [this, u64_or_nat y (m * p) (by omega) (by omega)]
  subst hp
  have := or_shift (m := m) hy
  rw [Nat.shiftLeft_eq] at this
  rw [this]
theorem and_127 (m : Nat) : bits .and .u8 ((m % 128 + 128 : Nat) : Int) 127 = ((m % 128 : Nat) : Int) := by
  have := u8_and_nat (m % 128 + 128) 127 (by omega) (by omega)
  have e : (m % 128 + 128) &&& 127 = m % 128 := by
    have := Nat.and_two_pow_sub_one_eq_mod (m % 128 + 128) 7
    simp only [Nat.reducePow, Nat.reduceSub] at this
    rw [this]; omega
  rw [e] at this
  exact this
end Go.Proofs.Ytomhegagdpaieaa
