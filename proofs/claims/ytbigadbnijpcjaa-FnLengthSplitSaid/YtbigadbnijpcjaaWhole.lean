/-
  Plain laws of binary64 arithmetic: what can be written is written as it is; sums, differences and products of whole numbers below 2 ^ 53. No program in sight.
-/
import Derived.Test.YtbigadbnijpcjaaFloat
namespace Go.Proofs.Ytbigadbnijpcjaa
namespace Fl
open Ieee

theorem frac_eq : double.fractionBits = 52 := rfl
theorem mag_small {r : Nat} (h : r < 2 * P52) : mag r = r := by
  unfold mag
  by_cases c : r < P52
  · rw [if_pos c]
  · rw [if_neg c]
    have h1 : r / P52 = 1 := by unfold P52 at *; omega
    rw [h1]
    unfold P52 at *
    omega
theorem mag_great {r : Nat} (h : 2 * P52 ≤ r) : mag r = (P52 + r % P52) * 2 ^ (r / P52 - 1) := by
  unfold mag; rw [if_neg (by unfold P52 at *; omega)]
theorem cut_exact (neg : Bool) (q d n : Nat) (hn : n = q * 2 ^ d) (hd : d ≤ n.log2 + 2) : Toward.even.cut neg n d = q := by
  unfold Toward.cut
  have hm : min d (n.log2 + 2) = d := Nat.min_eq_left hd
  have hp : 0 < 2 ^ d := Nat.two_pow_pos d
  simp only [hm, Nat.shiftLeft_eq, Nat.one_mul]
  have h1 : n / 2 ^ d = q := by rw [hn]; exact Nat.mul_div_cancel _ hp
  have h2 : n % 2 ^ d = 0 := by rw [hn]; exact Nat.mul_mod_left _ _
  rw [h1, h2]
  have h3 : ((2 : Nat) ^ d == 0) = false := by simp
  simp [h3]
theorem log2_spec {m : Nat} (h : m ≠ 0) : 2 ^ m.log2 ≤ m ∧ m < 2 ^ (m.log2 + 1) := ⟨Nat.log2_self_le h, Nat.lt_log2_self⟩
/-- A number that has a rung is written as that rung. -/
theorem nearest_exact (s : Bool) (m t : Nat) (r : Nat) (hr : r < INF) (hU : m * 2 ^ t = mag r) : double.nearest s m ((t : Int) - 1074) = double.word s r := by
  unfold Format.nearest
  by_cases hm : m = 0
  · have : r = 0 := mag_inj (by rw [mag_zero, ← hU, hm, Nat.zero_mul])
    rw [if_pos hm, this]
  rw [if_neg hm]
  obtain ⟨l1, l2⟩ := log2_spec hm
  generalize hl : m.log2 = l at *
  simp only [least_eq, bin_eq, inf_eq, frac_eq]
  have b1 : 2 ^ (l + t) ≤ m * 2 ^ t := by rw [Nat.pow_add]; exact Nat.mul_le_mul_right _ l1
  have b2 : m * 2 ^ t < 2 ^ (l + 1 + t) := by rw [Nat.pow_add]; exact Nat.mul_lt_mul_of_pos_right l2 (Nat.two_pow_pos _)
  by_cases hs : r < 2 * P52
  · rw [mag_small hs] at hU
    have h1 : 2 ^ (l + t) < 2 ^ 53 := by unfold P52 at hs; omega
    have h2 : l + t < 53 := (Nat.pow_lt_pow_iff_right (by decide)).1 h1
    have e1 : max ((t : Int) - 1074 + (l : Int) - ((52 : Nat) : Int)) (-1074) = -1074 := by omega
    rw [e1]
    have e2 : ((t : Int) - 1074 - -1074).toNat = t := by omega
    have e3 : ((-1074 : Int) - ((t : Int) - 1074)).toNat = 0 := by omega
    rw [e2, e3, Nat.shiftLeft_eq, hU, cut_exact s r 0 r (by simp) (by omega)]
    congr 1
    have : ((-1074 : Int) - -1074).toNat = 0 := by decide
    rw [this]; omega
  · have hg : 2 * P52 ≤ r := by omega
    rw [mag_great hg] at hU
    have hk : 1 ≤ r / P52 - 1 := by unfold P52 at *; omega
    have hq : P52 + r % P52 < 2 ^ 53 := by unfold P52; omega
    have hq' : 2 ^ 52 ≤ P52 + r % P52 := by unfold P52; omega
    have hrq : (r / P52 - 1) * P52 + (P52 + r % P52) = r := by unfold P52 at *; omega
    generalize hkk : r / P52 - 1 = k at *
    generalize P52 + r % P52 = q at *
    have c1 : q * 2 ^ k < 2 ^ (53 + k) := by rw [Nat.pow_add]; exact Nat.mul_lt_mul_of_pos_right hq (Nat.two_pow_pos _)
    have c2 : 2 ^ (52 + k) ≤ q * 2 ^ k := by rw [Nat.pow_add]; exact Nat.mul_le_mul_right _ hq'
    have d1 : l + t < 53 + k := (Nat.pow_lt_pow_iff_right (a := 2) (by decide)).1 (by omega)
    have d2 : 52 + k < l + 1 + t := (Nat.pow_lt_pow_iff_right (a := 2) (by decide)).1 (by omega)
    have hlk : l + t = 52 + k := by omega
    have e1 : max ((t : Int) - 1074 + (l : Int) - ((52 : Nat) : Int)) (-1074) = (k : Int) - 1074 := by omega
    rw [e1]
    have e2 : ((t : Int) - 1074 - ((k : Int) - 1074)).toNat = t - k := by omega
    have e3 : ((k : Int) - 1074 - ((t : Int) - 1074)).toNat = k - t := by omega
    have e4 : ((k : Int) - 1074 - -1074).toNat = k := by omega
    rw [e2, e3, e4, Nat.shiftLeft_eq]
    have hcut : Toward.even.cut s (m * 2 ^ (t - k)) (k - t) = q := by
      by_cases hkt : k ≤ t
      · have z : k - t = 0 := by omega
        have hmq : m * 2 ^ (t - k) = q := by
          have h2 : m * 2 ^ (t - k) * 2 ^ k = q * 2 ^ k := by rw [Nat.mul_assoc, ← Nat.pow_add, show t - k + k = t by omega]; exact hU
          exact Nat.eq_of_mul_eq_mul_right (Nat.two_pow_pos k) h2
        rw [z, hmq]
        exact cut_exact s q 0 q (by simp) (by omega)
      · have z : t - k = 0 := by omega
        have hmq : m = q * 2 ^ (k - t) := by
          have h2 : m * 2 ^ t = q * 2 ^ (k - t) * 2 ^ t := by rw [Nat.mul_assoc, ← Nat.pow_add, show k - t + t = k by omega]; exact hU
          exact Nat.eq_of_mul_eq_mul_right (Nat.two_pow_pos t) h2
        rw [z, Nat.pow_zero, Nat.mul_one]
        exact cut_exact s q (k - t) m hmq (by rw [hl]; omega)
    rw [hcut, hrq, Nat.min_eq_left (Nat.le_of_lt hr)]

theorem word_rung (s : Bool) (r : Nat) (h : r < INF) : rung (double.word s r) = r ∧ neg (double.word s r) = s := by
  unfold Format.word
  simp only [sw_eq]
  unfold rung neg INF P63 at *
  cases s
  · simp only [Bool.false_eq_true, if_false]
    refine ⟨by omega, ?_⟩
    have : r / 9223372036854775808 = 0 := by omega
    rw [this]; rfl
  · simp only [if_true]
    refine ⟨by omega, ?_⟩
    have : (9223372036854775808 + r) / 9223372036854775808 = 1 := by omega
    rw [this]; rfl
theorem word_fin (s : Bool) (r : Nat) (h : r < INF) : fin (double.word s r) = true := by
  unfold fin; rw [(word_rung s r h).1]; simpa using h
theorem word_val (s : Bool) (r : Nat) (h : r < INF) : val (double.word s r) = if s then -(mag r : Int) else (mag r : Int) := by
  unfold val; rw [(word_rung s r h).1, (word_rung s r h).2]
theorem signed_eq (s : Bool) (m up : Nat) : signed s m up = if s then -((m * 2 ^ up : Nat) : Int) else ((m * 2 ^ up : Nat) : Int) := by
  unfold signed; rw [Nat.shiftLeft_eq]
/-- What is written of a number that has a rung. -/
theorem write_exact (s : Bool) (m : Nat) (i : Int) (r : Nat) (hi : -1074 ≤ i ∨ m = 0) (hr : r < INF) (hU : m * 2 ^ (i + 1074).toNat = mag r) :
    fin (double.write (.number s m i)) = true ∧ val (double.write (.number s m i)) = signed s m (i + 1074).toNat := by
  have e : double.write (.number s m i) = double.word s r := by
    show double.nearest s m i = _
    rcases hi with hi | hi
    · have := nearest_exact s m (i + 1074).toNat r hr hU
      rwa [show (((i + 1074).toNat : Nat) : Int) - 1074 = i by omega] at this
    · have : r = 0 := mag_inj (by rw [mag_zero, ← hU, hi, Nat.zero_mul])
      unfold Format.nearest
      rw [if_pos hi, this]
  rw [e, signed_eq, hU]
  exact ⟨word_fin s r hr, word_val s r hr⟩
theorem signed_natAbs (s : Bool) (x : Int) (hs : x ≠ 0 → s = decide (x < 0)) (up : Nat) : signed s x.natAbs up = x * (2 ^ up : Nat) := by
  rw [signed_eq]
  by_cases h : x = 0
  · subst h; cases s <;> simp
  · rw [hs h]
    by_cases hx : x < 0
    · have : (x.natAbs : Int) = -x := by omega
      simp only [hx, decide_true, if_true, Int.natCast_mul, this]
      rw [Int.neg_mul, Int.neg_neg]
    · have : (x.natAbs : Int) = x := by omega
      simp only [hx, decide_false, Bool.false_eq_true, if_false, Int.natCast_mul, this]
/-- A SUM THAT HAS A RUNG IS EXACT. -/
theorem sum_exact {da db : Datum} {s t : Bool} {m n : Nat} {i j : Int} (ha : da = .number s m i) (hb : db = .number t n j) (hi : -1074 ≤ i) (hj : -1074 ≤ j) (r : Nat) (hr : r < INF)
    (hU : (signed s m (i + 1074).toNat + signed t n (j + 1074).toNat).natAbs = mag r) :
    ∃ c, (da.sum db).map double.write = some c ∧ fin c = true ∧ val c = signed s m (i + 1074).toNat + signed t n (j + 1074).toNat := by
  subst ha hb
  simp only [Datum.sum, Option.map_some]
  have e1 : (i + 1074).toNat = (i - min i j).toNat + (min i j + 1074).toNat := by omega
  have e2 : (j + 1074).toNat = (j - min i j).toNat + (min i j + 1074).toNat := by omega
  have key : signed s m (i + 1074).toNat + signed t n (j + 1074).toNat = (signed s m (i - min i j).toNat + signed t n (j - min i j).toNat) * (2 ^ (min i j + 1074).toNat : Nat) := by
    rw [e1, e2, signed_mul, signed_mul, ← Int.add_mul]
  rw [key] at hU ⊢
  generalize signed s m (i - min i j).toNat + signed t n (j - min i j).toNat = T at *
  rw [Int.natAbs_mul, Int.natAbs_natCast] at hU
  obtain ⟨h1, h2⟩ := write_exact (if T = 0 then s && t else decide (T < 0)) T.natAbs (min i j) r (.inl (by omega)) hr hU
  refine ⟨_, rfl, h1, ?_⟩
  rw [h2]
  exact signed_natAbs _ _ (fun h => by rw [if_neg h]) _
/-- 1 in units of 2 ^ -1074. -/
def U1E : Nat := 1074
def U1 : Nat := 2 ^ U1E
theorem U1_eq (n : Nat) (h : n = U1E) : U1 = 2 ^ n := by rw [h]; unfold U1; exact Eq.refl _
theorem U1_pos : 0 < U1 := by unfold U1; exact Nat.two_pow_pos _
attribute [irreducible] U1 U1E
/-- The word that stands for a whole number. -/
def isZ (b : Nat) (z : Int) : Prop := fin b = true ∧ val b = z * (U1 : Nat)
/-- A whole number below 2 ^ 53 has a rung. -/
theorem whole_rung (a : Nat) (h : a < 2 ^ 53) : ∃ r, r < INF ∧ mag r = a * U1 := by
  by_cases h0 : a = 0
  · exact ⟨0, by decide, by rw [mag_zero, h0, Nat.zero_mul]⟩
  obtain ⟨l1, l2⟩ := log2_spec h0
  generalize a.log2 = l at *
  have hl : l < 53 := (Nat.pow_lt_pow_iff_right (a := 2) (by decide)).1 (Nat.lt_of_le_of_lt l1 h)
  have q1 : a * 2 ^ (52 - l) < 2 ^ 53 := by
    have : a * 2 ^ (52 - l) < 2 ^ (l + 1) * 2 ^ (52 - l) := Nat.mul_lt_mul_of_pos_right l2 (Nat.two_pow_pos _)
    rwa [← Nat.pow_add, show l + 1 + (52 - l) = 53 by omega] at this
  have q2 : 2 ^ 52 ≤ a * 2 ^ (52 - l) := by
    have : 2 ^ l * 2 ^ (52 - l) ≤ a * 2 ^ (52 - l) := Nat.mul_le_mul_right _ l1
    rwa [← Nat.pow_add, show l + (52 - l) = 52 by omega] at this
  have hpow : a * U1 = a * 2 ^ (52 - l) * 2 ^ (1022 + l) := by rw [Nat.mul_assoc, ← Nat.pow_add, U1_eq (52 - l + (1022 + l)) (by unfold U1E; omega)]
  rw [hpow]
  generalize a * 2 ^ (52 - l) = q at *
  refine ⟨P52 * (1022 + l + 1) + (q - P52), by unfold P52 INF; omega, ?_⟩
  have hd : (P52 * (1022 + l + 1) + (q - P52)) / P52 = 1022 + l + 1 := by unfold P52; omega
  have hmm : (P52 * (1022 + l + 1) + (q - P52)) % P52 = q - P52 := by unfold P52; omega
  rw [mag_great (by unfold P52; omega), hd, hmm]
  rw [show P52 + (q - P52) = q by unfold P52; omega, show 1022 + l + 1 - 1 = 1022 + l by omega]
theorem whole_rung' (z : Int) (h : z.natAbs < 2 ^ 53) : ∃ r, r < INF ∧ (z * (U1 : Nat)).natAbs = mag r := by
  obtain ⟨r, hr, e⟩ := whole_rung z.natAbs h
  exact ⟨r, hr, by rw [Int.natAbs_mul, Int.natAbs_natCast, e]⟩
theorem add_whole {a b : Nat} {x y : Int} (ha : isZ a x) (hb : isZ b y) (h : (x + y).natAbs < 2 ^ 53) : ∃ c, double.add a b = some c ∧ isZ c (x + y) := by
  obtain ⟨m, i, hm, hi, hv⟩ := read_fin a ha.1
  obtain ⟨n, j, hn, hj, hw⟩ := read_fin b hb.1
  obtain ⟨r, hr, e⟩ := whole_rung' _ h
  obtain ⟨c, h1, h2, h3⟩ := sum_exact hm hn hi hj r hr (by rw [hv, hw, ha.2, hb.2, ← Int.add_mul]; exact e)
  exact ⟨c, h1, h2, by rw [h3, hv, hw, ha.2, hb.2, Int.add_mul]⟩
theorem signed_not (s : Bool) (m up : Nat) : signed (!s) m up = -signed s m up := by
  unfold signed; cases s <;> simp
theorem sub_whole {a b : Nat} {x y : Int} (ha : isZ a x) (hb : isZ b y) (h : (x - y).natAbs < 2 ^ 53) : ∃ c, double.sub a b = some c ∧ isZ c (x - y) := by
  obtain ⟨m, i, hm, hi, hv⟩ := read_fin a ha.1
  obtain ⟨n, j, hn, hj, hw⟩ := read_fin b hb.1
  obtain ⟨r, hr, e⟩ := whole_rung' _ h
  obtain ⟨c, h1, h2, h3⟩ := sum_exact (db := .number (!neg b) n j) hm rfl hi hj r hr (by rw [signed_not, hv, hw, ha.2, hb.2, ← Int.neg_mul, ← Int.add_mul]; exact e)
  refine ⟨c, ?_, h2, by rw [h3, signed_not, hv, hw, ha.2, hb.2, ← Int.neg_mul, ← Int.add_mul]; rfl⟩
  unfold Format.sub
  rw [hn]
  exact h1
theorem key_whole {a b : Nat} {x y : Int} (ha : isZ a x) (hb : isZ b y) : compare (key a) (key b) = compare x y := by
  rw [← compare_val, ha.2, hb.2, compare_mul _ _ _ U1_pos]
theorem read_fin_mag (b : Nat) (h : fin b = true) : ∃ m i, double.read b = .number (neg b) m i ∧ -1074 ≤ i ∧ signed (neg b) m (i + 1074).toNat = val b ∧ m < 2 ^ 53 := by
  have hr : rung b < INF := by simpa [fin] using h
  unfold Format.read
  simp only [sw_eq, bin_eq, inf_eq, least_eq]
  have hn : (b / P63 % 2 == 1) = neg b := rfl
  rw [hn, show b % P63 = rung b from rfl]
  by_cases c : rung b < P52
  · rw [if_pos c]
    refine ⟨_, _, rfl, by omega, ?_, by unfold P52 at c; omega⟩
    simp [signed, val, mag, c]
  · rw [if_neg c, if_pos hr]
    refine ⟨_, _, rfl, by omega, ?_, by unfold P52; omega⟩
    have hi : ((-1074 : Int) + ((rung b / P52 - 1 : Nat) : Int) + 1074).toNat = rung b / P52 - 1 := by omega
    rw [hi]
    simp [signed, val, mag, c, Nat.shiftLeft_eq]
theorem val_of_key {a b : Nat} (h : key a = key b) : val a = val b := by
  have := compare_val a b
  rw [compare_eq h] at this
  rcases Int.lt_trichotomy (val a) (val b) with c | c | c
  · rw [compare_lt c] at this; cases this
  · exact c
  · rw [compare_gt c] at this; cases this
theorem signed_whole (s : Bool) (n t : Nat) (h : t = U1E) : signed s n t = (if s then -(n : Int) else (n : Int)) * (U1 : Nat) := by
  rw [signed_eq, U1_eq t h]
  cases s <;> simp [Int.neg_mul, Int.natCast_mul]
theorem cut_zero_le (s : Bool) (n d : Nat) : Toward.zero.cut s n d ≤ n := by
  unfold Toward.cut
  simp
  exact Nat.div_le_self _ _
/-- A word that is its own whole part stands for a whole number. -/
theorem trunc_whole {x : Nat} (hx : fin x = true) (h : key x = key (double.write ((double.read x).integral .zero))) : ∃ z, isZ x z := by
  obtain ⟨m, i, hm, hi, hv, hlt⟩ := read_fin_mag x hx
  by_cases hi0 : 0 ≤ i
  · refine ⟨(if neg x then -((m * 2 ^ i.toNat : Nat) : Int) else ((m * 2 ^ i.toNat : Nat) : Int)), hx, ?_⟩
    rw [← hv, ← signed_whole (neg x) (m * 2 ^ i.toNat) U1E rfl, signed_eq, signed_eq, Nat.mul_assoc, ← Nat.pow_add, show (i + 1074).toNat = i.toNat + U1E by unfold U1E; omega]
  · rw [hm] at h
    simp only [Datum.integral] at h
    have h1 : i.toNat = 0 := by omega
    rw [h1, Nat.shiftLeft_zero] at h
    have hle := cut_zero_le (neg x) m (-i).toNat
    generalize Toward.zero.cut (neg x) m (-i).toNat = N at *
    obtain ⟨r, hr, er⟩ := whole_rung N (by omega)
    obtain ⟨w1, w2⟩ := write_exact (neg x) N 0 r (.inl (by omega)) hr (by rw [er, U1_eq _ (show ((0 : Int) + 1074).toNat = U1E by unfold U1E; rfl)])
    refine ⟨(if neg x then -(N : Int) else (N : Int)), hx, ?_⟩
    rw [val_of_key h, w2, signed_whole _ _ _ (by unfold U1E; rfl)]
theorem isZ_rung (s : Bool) (a r : Nat) (hr : r < INF) (h : mag r = a * U1) : isZ (double.word s r) (if s then -(a : Int) else (a : Int)) := by
  refine ⟨word_fin s r hr, ?_⟩
  rw [word_val s r hr, h]
  cases s <;> simp [Int.natCast_mul, Int.neg_mul]
theorem mag_pow (k : Nat) (hk : k ≤ 52) : mag (P52 * (1023 + k)) = 2 ^ k * U1 := by
  rw [mag_great (by unfold P52; omega)]
  obtain ⟨n, hn⟩ : ∃ n, n = U1E := ⟨_, rfl⟩
  have hn' : n = 1074 := by rw [hn]; unfold U1E; rfl
  have hU := U1_eq n hn
  have h1 : P52 * (1023 + k) / P52 = 1023 + k := by unfold P52; omega
  have h2 : P52 * (1023 + k) % P52 = 0 := by unfold P52; omega
  rw [h1, h2, Nat.add_zero, hU, show P52 = 2 ^ 52 from rfl, ← Nat.pow_add, ← Nat.pow_add, show 52 + (1023 + k - 1) = k + n by omega]
/-- 2 ^ 20 and its opposite, as words. -/
theorem isZ_top : isZ 4697254411347427328 1048576 := by
  have := isZ_rung false (2 ^ 20) (P52 * (1023 + 20)) (by decide) (mag_pow 20 (by decide))
  exact this
theorem isZ_bot : isZ 13920626448202203136 (-1048576) := by
  have := isZ_rung true (2 ^ 20) (P52 * (1023 + 20)) (by decide) (mag_pow 20 (by decide))
  exact this
theorem isZ_zero : isZ 0 0 := by
  have := isZ_rung false 0 0 (by decide) (by rw [mag_zero, Nat.zero_mul])
  exact this
theorem key_whole_le {a b : Nat} {x y : Int} (ha : isZ a x) (hb : isZ b y) : key a ≤ key b ↔ x ≤ y := by
  have h := key_whole ha hb
  rcases Int.lt_trichotomy x y with c | c | c
  · rw [compare_lt c] at h
    rcases Int.lt_trichotomy (key a) (key b) with d | d | d
    · omega
    · rw [compare_eq d] at h; cases h
    · rw [compare_gt d] at h; cases h
  · rw [compare_eq c] at h
    rcases Int.lt_trichotomy (key a) (key b) with d | d | d
    · rw [compare_lt d] at h; cases h
    · omega
    · rw [compare_gt d] at h; cases h
  · rw [compare_gt c] at h
    rcases Int.lt_trichotomy (key a) (key b) with d | d | d
    · rw [compare_lt d] at h; cases h
    · rw [compare_eq d] at h; cases h
    · omega
theorem key_whole_lt {a b : Nat} {x y : Int} (ha : isZ a x) (hb : isZ b y) : key a < key b ↔ x < y := by
  have := key_whole_le hb ha
  omega
end Fl
end Go.Proofs.Ytbigadbnijpcjaa
