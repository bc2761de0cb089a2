/-
  Plain laws of binary64 words: the order of two words that are no NaN is the order of their keys; a word is finite just if its rung is below that of infinity. No program in sight.
-/
import Derived.Laws.FloatArith
namespace Go.Proofs.Ytbigadbnijpcjaa
namespace Fl
open Ieee

def P52 : Nat := 4503599627370496
def P63 : Nat := 9223372036854775808
def INF : Nat := 9218868437227405312

/-- The rung of a word: what is below the sign bit. -/
def rung (b : Nat) : Nat := b % P63
def neg (b : Nat) : Bool := b / P63 % 2 == 1
/-- No NaN. -/
def num (b : Nat) : Bool := decide (rung b ≤ INF)
/-- Neither NaN nor infinite. -/
def fin (b : Nat) : Bool := decide (rung b < INF)
/-- The order of words, as integers. -/
def key (b : Nat) : Int := if neg b then -(rung b : Int) else (rung b : Int)

theorem num_of_fin {b : Nat} (h : fin b = true) : num b = true := by
  simp only [fin, num, decide_eq_true_eq] at *; omega

/-- The magnitude of a finite word in units of 2 ^ -1074, out of its rung. -/
def mag (r : Nat) : Nat := if r < P52 then r else (P52 + r % P52) * 2 ^ (r / P52 - 1)
def val (b : Nat) : Int := if neg b then -(mag (rung b) : Int) else (mag (rung b) : Int)

theorem mag_succ (r : Nat) : mag r < mag (r + 1) := by
  unfold mag
  by_cases h1 : r + 1 < P52
  · rw [if_pos h1, if_pos (by omega)]; omega
  · rw [if_neg h1]
    by_cases h2 : r < P52
    · have hr : r + 1 = P52 := by omega
      rw [if_pos h2, hr]
      have : P52 / P52 - 1 = 0 := by decide
      rw [this]; simp; omega
    · rw [if_neg h2]
      by_cases h3 : (r + 1) % P52 = 0
      · have hd : (r + 1) / P52 = r / P52 + 1 := by unfold P52 at *; omega
        have hm : r % P52 = P52 - 1 := by unfold P52 at *; omega
        have h4 : r / P52 - 1 + 1 = (r + 1) / P52 - 1 := by unfold P52 at *; omega
        rw [hm, h3, ← h4, Nat.pow_succ]
        have : 0 < 2 ^ (r / P52 - 1) := Nat.two_pow_pos _
        have h5 : (P52 + 0) * (2 ^ (r / P52 - 1) * 2) = (P52 + P52) * 2 ^ (r / P52 - 1) := by
          rw [Nat.add_zero, Nat.mul_comm (2 ^ (r / P52 - 1)) 2, ← Nat.mul_assoc]; rfl
        rw [h5]
        exact Nat.mul_lt_mul_of_pos_right (by decide) this
      · have hd : (r + 1) / P52 = r / P52 := by unfold P52 at *; omega
        have hm : (r + 1) % P52 = r % P52 + 1 := by unfold P52 at *; omega
        rw [hd, hm]
        exact Nat.mul_lt_mul_of_pos_right (by omega) (Nat.two_pow_pos _)

theorem mag_lt {r s : Nat} (h : r < s) : mag r < mag s := by
  induction s with
  | zero => omega
  | succ n ih =>
    by_cases e : r = n
    · subst e; exact mag_succ r
    · exact Nat.lt_trans (ih (by omega)) (mag_succ n)

theorem mag_zero : mag 0 = 0 := by unfold mag; rw [if_pos (by decide)]

theorem mag_lt_iff {r s : Nat} : mag r < mag s ↔ r < s := by
  constructor
  · intro h
    by_cases e : r < s
    · exact e
    · rcases Nat.lt_or_ge s r with h1 | h1
      · have := mag_lt h1; omega
      · have : r = s := by omega
        subst this; omega
  · exact mag_lt

theorem mag_inj {r s : Nat} (h : mag r = mag s) : r = s := by
  rcases Nat.lt_trichotomy r s with h1 | h1 | h1
  · have := mag_lt h1; omega
  · exact h1
  · have := mag_lt h1; omega

theorem compare_val (a b : Nat) : compare (val a) (val b) = compare (key a) (key b) := by
  have hz := mag_zero
  have key_lt : ∀ x y : Nat, val x < val y ↔ key x < key y := by
    intro x y
    unfold val key
    have h1 := @mag_lt_iff (rung x) (rung y)
    have h2 := @mag_lt_iff (rung y) (rung x)
    have h3 := @mag_lt_iff 0 (rung x)
    have h4 := @mag_lt_iff 0 (rung y)
    rw [hz] at h3 h4
    split <;> split <;> omega
  have e1 := key_lt a b
  have e2 := key_lt b a
  simp only [compare, compareOfLessAndEq]
  by_cases c1 : key a < key b
  · rw [if_pos c1, if_pos (e1.2 c1)]
  · rw [if_neg c1, if_neg (fun h => c1 (e1.1 h))]
    by_cases c2 : key a = key b
    · rw [if_pos c2, if_pos (by omega)]
    · rw [if_neg c2, if_neg (by omega)]

theorem signed_mul (s : Bool) (m up k : Nat) : signed s m (up + k) = signed s m up * (2 ^ k : Nat) := by
  unfold signed
  have h : m <<< (up + k) = (m <<< up) * 2 ^ k := by rw [Nat.shiftLeft_eq, Nat.shiftLeft_eq, Nat.pow_add, Nat.mul_assoc]
  rw [h]
  split <;> simp [Int.natCast_mul, Int.neg_mul]

theorem compare_mul (x y : Int) (k : Nat) (hk : 0 < k) : compare (x * (k : Int)) (y * (k : Int)) = compare x y := by
  have hk' : (0 : Int) < (k : Int) := by omega
  have e1 : ∀ a b : Int, a * (k : Int) < b * (k : Int) ↔ a < b := fun a b => Int.mul_lt_mul_right hk'
  simp only [compare, compareOfLessAndEq]
  by_cases c1 : x < y
  · rw [if_pos c1, if_pos ((e1 x y).2 c1)]
  · rw [if_neg c1, if_neg (fun h => c1 ((e1 x y).1 h))]
    by_cases c2 : x = y
    · subst c2; rw [if_pos rfl, if_pos rfl]
    · have hne : x * (k : Int) ≠ y * (k : Int) := by
        intro h
        have := (e1 y x).2 (by omega)
        omega
      rw [if_neg c2, if_neg hne]

theorem sw_eq : double.signWeight = P63 := by decide
theorem bin_eq : double.binade = P52 := by decide
theorem inf_eq : double.infRung = INF := by decide
theorem least_eq : double.leastPlace = -1074 := by decide

/-- A finite word is read as a number whose value in units of 2 ^ -1074 is 'val'. -/
theorem read_fin (b : Nat) (h : fin b = true) : ∃ m i, double.read b = .number (neg b) m i ∧ -1074 ≤ i ∧ signed (neg b) m (i + 1074).toNat = val b := by
  have hr : rung b < INF := by simpa [fin] using h
  unfold Format.read
  simp only [sw_eq, bin_eq, inf_eq, least_eq]
  have hn : (b / P63 % 2 == 1) = neg b := rfl
  rw [hn, show b % P63 = rung b from rfl]
  by_cases c : rung b < P52
  · rw [if_pos c]
    refine ⟨_, _, rfl, by omega, ?_⟩
    simp [signed, val, mag, c]
  · rw [if_neg c, if_pos hr]
    refine ⟨_, _, rfl, by omega, ?_⟩
    have hi : ((-1074 : Int) + ((rung b / P52 - 1 : Nat) : Int) + 1074).toNat = rung b / P52 - 1 := by omega
    rw [hi]
    simp [signed, val, mag, c, Nat.shiftLeft_eq]

theorem read_inf (b : Nat) (h : rung b = INF) : double.read b = .infinity (neg b) := by
  unfold Format.read
  simp only [sw_eq, bin_eq, inf_eq, least_eq]
  rw [show b % P63 = rung b from rfl, h, if_neg (by decide), if_neg (by decide), if_pos rfl]; rfl

theorem read_nan (b : Nat) (h : num b = false) : ∃ f, double.read b = .nan (neg b) f := by
  have hr : INF < rung b := by simpa [num] using h
  unfold Format.read
  simp only [sw_eq, bin_eq, inf_eq, least_eq]
  rw [show b % P63 = rung b from rfl, if_neg (by unfold INF at hr; unfold P52; omega), if_neg (by omega), if_neg (by omega)]
  exact ⟨_, rfl⟩

theorem order_fin (a b : Nat) (ha : fin a = true) (hb : fin b = true) : double.order a b = some (compare (key a) (key b)) := by
  obtain ⟨m, i, hm, hi, hv⟩ := read_fin a ha
  obtain ⟨n, j, hn, hj, hw⟩ := read_fin b hb
  unfold Format.order
  rw [hm, hn, ← compare_val, ← hv, ← hw]
  simp only [Datum.order]
  have e1 : (i + 1074).toNat = (i - min i j).toNat + (min i j + 1074).toNat := by omega
  have e2 : (j + 1074).toNat = (j - min i j).toNat + (min i j + 1074).toNat := by omega
  rw [e1, e2, signed_mul, signed_mul, compare_mul _ _ _ (Nat.two_pow_pos _)]

theorem compare_lt {x y : Int} (h : x < y) : compare x y = .lt := by simp [compare, compareOfLessAndEq, h]
theorem compare_gt {x y : Int} (h : y < x) : compare x y = .gt := by
  simp only [compare, compareOfLessAndEq]; rw [if_neg (by omega), if_neg (by omega)]
theorem compare_eq {x y : Int} (h : x = y) : compare x y = .eq := by
  simp only [compare, compareOfLessAndEq]; rw [if_neg (by omega), if_pos h]

theorem rung_le (b : Nat) : rung b < P63 := Nat.mod_lt _ (by decide)
theorem key_fin {b : Nat} (h : fin b = true) : -(INF : Int) < key b ∧ key b < INF := by
  have hr : rung b < INF := by simpa [fin] using h
  unfold key; split <;> omega
theorem key_inf {b : Nat} (h : rung b = INF) : key b = if neg b then -(INF : Int) else INF := by unfold key; rw [h]

/-- THE ORDER OF TWO WORDS THAT ARE NO NaN. -/
theorem order_num (a b : Nat) (ha : num a = true) (hb : num b = true) : double.order a b = some (compare (key a) (key b)) := by
  have ha' : rung a ≤ INF := by simpa [num] using ha
  have hb' : rung b ≤ INF := by simpa [num] using hb
  by_cases fa : rung a = INF
  · by_cases fb : rung b = INF
    · unfold Format.order
      rw [read_inf a fa, read_inf b fb, key_inf fa, key_inf fb]
      simp only [Datum.order]
      cases neg a <;> cases neg b <;> decide
    · have fb' : fin b = true := by simp only [fin, decide_eq_true_eq]; omega
      have hk := key_fin fb'
      obtain ⟨n, j, hn, _, _⟩ := read_fin b fb'
      unfold Format.order
      rw [read_inf a fa, hn, key_inf fa]
      simp only [Datum.order]
      cases neg a
      · simp only [Bool.false_eq_true, if_false]; rw [compare_gt (by omega)]
      · simp only [if_true]; rw [compare_lt (by omega)]
  · have fa' : fin a = true := by simp only [fin, decide_eq_true_eq]; omega
    by_cases fb : rung b = INF
    · have hk := key_fin fa'
      obtain ⟨n, j, hn, _, _⟩ := read_fin a fa'
      unfold Format.order
      rw [read_inf b fb, hn, key_inf fb]
      simp only [Datum.order]
      cases neg b
      · simp only [Bool.false_eq_true, if_false]; rw [compare_lt (by omega)]
      · simp only [if_true]; rw [compare_gt (by omega)]
    · exact order_fin a b fa' (by simp only [fin, decide_eq_true_eq]; omega)

theorem order_nan_left (a b : Nat) (ha : num a = false) : double.order a b = none := by
  obtain ⟨f, hf⟩ := read_nan a ha
  unfold Format.order; rw [hf]; cases double.read b <;> rfl
theorem order_nan_right (a b : Nat) (hb : num b = false) : double.order a b = none := by
  obtain ⟨f, hf⟩ := read_nan b hb
  unfold Format.order; rw [hf]; cases double.read a <;> rfl

theorem fmt : FloatKind.f64.format = double := rfl

/-- x < y and so on, as tests of the walk. -/
theorem lss_num {a b : Nat} (ha : num a = true) (hb : num b = true) : (FloatKind.f64.format.order a b == some .lt) = decide (key a < key b) := by
  rw [fmt, order_num a b ha hb]
  rcases Int.lt_trichotomy (key a) (key b) with h | h | h
  · rw [compare_lt h]; simp [h]
  · rw [compare_eq h]; simp [h]
  · rw [compare_gt h]; simp; omega
theorem gtr_num {a b : Nat} (ha : num a = true) (hb : num b = true) : (FloatKind.f64.format.order a b == some .gt) = decide (key b < key a) := by
  rw [fmt, order_num a b ha hb]
  rcases Int.lt_trichotomy (key a) (key b) with h | h | h
  · rw [compare_lt h]; simp; omega
  · rw [compare_eq h]; simp [h]
  · rw [compare_gt h]; simp; omega
theorem eql_num {a b : Nat} (ha : num a = true) (hb : num b = true) : (FloatKind.f64.format.order a b == some .eq) = decide (key a = key b) := by
  rw [fmt, order_num a b ha hb]
  rcases Int.lt_trichotomy (key a) (key b) with h | h | h
  · rw [compare_lt h]; simp; omega
  · rw [compare_eq h]; simp [h]
  · rw [compare_gt h]; simp; omega
theorem neq_num {a b : Nat} (ha : num a = true) (hb : num b = true) : (FloatKind.f64.format.order a b != some .eq) = decide (key a ≠ key b) := by
  rw [bne, eql_num ha hb]; simp
theorem leq_num {a b : Nat} (ha : num a = true) (hb : num b = true) : (FloatKind.f64.format.order a b == some .lt || FloatKind.f64.format.order a b == some .eq) = decide (key a ≤ key b) := by
  rw [lss_num ha hb, eql_num ha hb]
  by_cases h : key a ≤ key b
  · have : key a < key b ∨ key a = key b := by omega
    simp [h, this]
  · have h1 : ¬ key a < key b := by omega
    have h2 : ¬ key a = key b := by omega
    simp [h, h1, h2]
theorem geq_num {a b : Nat} (ha : num a = true) (hb : num b = true) : (FloatKind.f64.format.order a b == some .gt || FloatKind.f64.format.order a b == some .eq) = decide (key b ≤ key a) := by
  rw [gtr_num ha hb, eql_num ha hb]
  by_cases h : key b ≤ key a
  · have : key b < key a ∨ key a = key b := by omega
    simp [h, this]
  · have h1 : ¬ key b < key a := by omega
    have h2 : ¬ key a = key b := by omega
    simp [h, h1, h2]
/-- 'x != x' is the test for NaN. -/
theorem isNaN_num (a : Nat) : (FloatKind.f64.format.order a a != some .eq) = !(num a) := by
  by_cases h : num a = true
  · rw [neq_num h h, h]; simp
  · have h' : num a = false := by simpa using h
    rw [fmt, order_nan_left a a h', h']; rfl
/-- The comparisons, as tests on words. -/
def flt (a b : Nat) : Bool := FloatKind.f64.format.order a b == some .lt
def fgt (a b : Nat) : Bool := FloatKind.f64.format.order a b == some .gt
def feq (a b : Nat) : Bool := FloatKind.f64.format.order a b == some .eq
def fne (a b : Nat) : Bool := FloatKind.f64.format.order a b != some .eq
@[go_sem] theorem flt_def (a b : Nat) : (FloatKind.f64.format.order a b == some .lt) = flt a b := rfl
@[go_sem] theorem fgt_def (a b : Nat) : (FloatKind.f64.format.order a b == some .gt) = fgt a b := rfl
@[go_sem] theorem feq_def (a b : Nat) : (FloatKind.f64.format.order a b == some .eq) = feq a b := rfl
@[go_sem] theorem fne_def (a b : Nat) : (FloatKind.f64.format.order a b != some .eq) = fne a b := rfl
theorem flt_num {a b : Nat} (ha : num a = true) (hb : num b = true) : flt a b = decide (key a < key b) := lss_num ha hb
theorem fgt_num {a b : Nat} (ha : num a = true) (hb : num b = true) : fgt a b = decide (key b < key a) := gtr_num ha hb
theorem feq_num {a b : Nat} (ha : num a = true) (hb : num b = true) : feq a b = decide (key a = key b) := eql_num ha hb
theorem fne_num {a b : Nat} (ha : num a = true) (hb : num b = true) : fne a b = decide (key a ≠ key b) := neq_num ha hb
/-- 'Abs(x) > MaxFloat64' is the test for an infinity. -/
theorem isInf_test (a : Nat) (h : num a = true) : fgt (rung a) 9218868437227405311 = !(fin a) := by
  have hr := rung_le a
  have h1 : rung (rung a) = rung a := Nat.mod_eq_of_lt hr
  have h2 : neg (rung a) = false := by unfold neg; rw [Nat.div_eq_of_lt hr]; rfl
  rw [fgt_num (by simpa [num, h1] using h) (by decide)]
  have h3 : key (rung a) = rung a := by unfold key; rw [h2, h1]; rfl
  rw [h3, show key 9218868437227405311 = 9218868437227405311 from by decide]
  unfold fin INF
  by_cases c : rung a < 9218868437227405312
  · simp [c]; omega
  · simp [c]; omega
theorem fne_self (a : Nat) : fne a a = !(num a) := isNaN_num a
theorem flt_fin {a b : Nat} (ha : fin a = true) (hb : fin b = true) : flt a b = decide (key a < key b) := lss_num (num_of_fin ha) (num_of_fin hb)
theorem fgt_fin {a b : Nat} (ha : fin a = true) (hb : fin b = true) : fgt a b = decide (key b < key a) := gtr_num (num_of_fin ha) (num_of_fin hb)
theorem feq_fin {a b : Nat} (ha : fin a = true) (hb : fin b = true) : feq a b = decide (key a = key b) := eql_num (num_of_fin ha) (num_of_fin hb)
theorem fne_fin {a b : Nat} (ha : fin a = true) (hb : fin b = true) : fne a b = decide (key a ≠ key b) := neq_num (num_of_fin ha) (num_of_fin hb)
end Fl
end Go.Proofs.Ytbigadbnijpcjaa
