/-
  Plain laws of binary64 arithmetic: what is written of a number lies near it (2 ^ -53 of it); sums, products of whole numbers, roots. No program in sight.
-/
import Derived.Test.YtbigadbnijpcjaaWhole
namespace Go.Proofs.Ytbigadbnijpcjaa
namespace Fl
open Ieee
/-- r lies near N. -/
def near (x N : Nat) : Prop := 2 ^ 53 * x ≤ 2 ^ 53 * N + N ∧ 2 ^ 53 * N ≤ 2 ^ 53 * x + N
theorem near_self (N : Nat) : near N N := ⟨Nat.le_add_right _ _, Nat.le_add_right _ _⟩
theorem mag_norm (d n : Nat) (h1 : P52 ≤ n) (h2 : n ≤ 2 * P52) (hd : 1 ≤ d) : mag (d * P52 + n) = n * 2 ^ d := by
  have hp : 0 < P52 := by decide
  rw [mag_great (by have := Nat.le_mul_of_pos_left P52 hd; omega)]
  rcases Nat.lt_or_ge n (2 * P52) with h | h
  · have e1 : (d * P52 + n) / P52 = d + 1 := by
      rw [Nat.add_comm, Nat.add_mul_div_right _ _ hp]
      have : n / P52 = 1 := by
        rw [Nat.div_eq_iff (by omega)]; omega
      omega
    have e2 : (d * P52 + n) % P52 = n - P52 := by
      rw [Nat.add_comm, Nat.add_mul_mod_self_right]
      rw [Nat.mod_eq_sub_mod h1, Nat.mod_eq_of_lt (by omega)]
    rw [e1, e2, show P52 + (n - P52) = n by omega, show d + 1 - 1 = d by omega]
  · have hn : n = 2 * P52 := by omega
    subst hn
    have e0 : d * P52 + 2 * P52 = (d + 2) * P52 := by rw [Nat.add_mul]
    rw [e0, Nat.mul_div_cancel _ hp, Nat.mul_mod_left, Nat.add_zero, show d + 2 - 1 = d + 1 by omega, Nat.pow_succ]
    rw [Nat.mul_comm 2 P52, Nat.mul_assoc, Nat.mul_comm (2 ^ d) 2]
theorem near_scale {x m e : Nat} (hx : 2 * x * 2 ^ e ≤ 2 * m + 2 ^ e) (hx' : 2 * m ≤ 2 * x * 2 ^ e + 2 ^ e) (hm : 2 ^ (52 + e) ≤ m) (t d : Nat) (hd : d = e + t) : near (x * 2 ^ d) (m * 2 ^ t) := by
  subst hd
  have hp : 2 ^ (e + t) = 2 ^ e * 2 ^ t := Nat.pow_add 2 e t
  have hq : 2 ^ (52 + e) = 2 ^ 52 * 2 ^ e := Nat.pow_add 2 52 e
  rw [hq] at hm
  generalize 2 ^ e = E at *
  have h3 : x * E ≤ m + E / 2 ∨ True := .inr trivial
  have key1 : 2 ^ 53 * (x * E) ≤ 2 ^ 53 * m + m := by
    have : 2 ^ 53 * (x * E) = 2 ^ 52 * (2 * x * E) := by
      rw [show (2 : Nat) ^ 53 = 2 ^ 52 * 2 from rfl, Nat.mul_assoc, Nat.mul_assoc 2 x E]
    rw [this]
    calc 2 ^ 52 * (2 * x * E) ≤ 2 ^ 52 * (2 * m + E) := Nat.mul_le_mul_left _ hx
      _ = 2 ^ 53 * m + 2 ^ 52 * E := by rw [Nat.mul_add, ← Nat.mul_assoc]
      _ ≤ 2 ^ 53 * m + m := Nat.add_le_add_left hm _
  have key2 : 2 ^ 53 * m ≤ 2 ^ 53 * (x * E) + m := by
    have : 2 ^ 53 * (x * E) = 2 ^ 52 * (2 * x * E) := by
      rw [show (2 : Nat) ^ 53 = 2 ^ 52 * 2 from rfl, Nat.mul_assoc, Nat.mul_assoc 2 x E]
    rw [this]
    calc 2 ^ 53 * m = 2 ^ 52 * (2 * m) := by rw [← Nat.mul_assoc]
      _ ≤ 2 ^ 52 * (2 * x * E + E) := Nat.mul_le_mul_left _ hx'
      _ = 2 ^ 52 * (2 * x * E) + 2 ^ 52 * E := Nat.mul_add _ _ _
      _ ≤ 2 ^ 52 * (2 * x * E) + m := Nat.add_le_add_left hm _
  rw [hp]
  generalize 2 ^ t = T
  constructor
  · calc 2 ^ 53 * (x * (E * T)) = 2 ^ 53 * (x * E) * T := by rw [Nat.mul_assoc (2 ^ 53) (x * E) T, Nat.mul_assoc x E T]
      _ ≤ (2 ^ 53 * m + m) * T := Nat.mul_le_mul_right _ key1
      _ = 2 ^ 53 * (m * T) + m * T := by rw [Nat.add_mul, Nat.mul_assoc]
  · calc 2 ^ 53 * (m * T) = 2 ^ 53 * m * T := (Nat.mul_assoc _ _ _).symm
      _ ≤ (2 ^ 53 * (x * E) + m) * T := Nat.mul_le_mul_right _ key2
      _ = 2 ^ 53 * (x * (E * T)) + m * T := by rw [Nat.add_mul, Nat.mul_assoc (2 ^ 53) (x * E) T, Nat.mul_assoc x E T]
theorem cut_half (s : Bool) (m e : Nat) (he : e ≤ m.log2 + 2) : 2 * Toward.even.cut s m e * 2 ^ e ≤ 2 * m + 2 ^ e ∧ 2 * m ≤ 2 * Toward.even.cut s m e * 2 ^ e + 2 ^ e ∧ m / 2 ^ e ≤ Toward.even.cut s m e ∧ Toward.even.cut s m e ≤ m / 2 ^ e + 1 := by
  unfold Toward.cut
  have hm : min e (m.log2 + 2) = e := Nat.min_eq_left he
  simp only [hm, Nat.shiftLeft_eq, Nat.one_mul]
  have hp : 0 < 2 ^ e := Nat.two_pow_pos e
  have hd := Nat.div_add_mod m (2 ^ e)
  have hl := Nat.mod_lt m hp
  generalize 2 ^ e = E at *
  generalize m / E = q at *
  generalize m % E = r at *
  have hq : E * q = q * E := Nat.mul_comm _ _
  generalize hc : (decide (E < 2 * r) || E == 2 * r && q % 2 == 1) = c
  cases c
  · simp only [Bool.or_eq_false_iff, decide_eq_false_iff_not] at hc
    simp only [Bool.toNat_false, Nat.add_zero]
    have h2 : 2 * q * E = 2 * (q * E) := Nat.mul_assoc _ _ _
    refine ⟨by omega, by omega, Nat.le_refl _, by omega⟩
  · have hE : E ≤ 2 * r := by
      simp only [Bool.or_eq_true, decide_eq_true_eq, Bool.and_eq_true, beq_iff_eq] at hc
      omega
    simp only [Bool.toNat_true]
    have h2 : 2 * (q + 1) * E = 2 * (q * E) + 2 * E := by rw [Nat.mul_assoc, Nat.add_mul]; omega
    refine ⟨by omega, by omega, by omega, Nat.le_refl _⟩
/-- WHAT IS WRITTEN LIES NEAR. -/
theorem nearest_near (s : Bool) (m t : Nat) (h : m * 2 ^ t < 2 ^ 1400) : ∃ r, r < INF ∧ double.nearest s m ((t : Int) - 1074) = double.word s r ∧ near (mag r) (m * 2 ^ t) := by
  unfold Format.nearest
  by_cases hm : m = 0
  · subst hm
    refine ⟨0, by decide, by rw [if_pos rfl], ?_⟩
    rw [mag_zero, Nat.zero_mul]; exact near_self 0
  rw [if_neg hm]
  obtain ⟨l1, l2⟩ := log2_spec hm
  have hb : 2 ^ (m.log2 + t) ≤ m * 2 ^ t := by rw [Nat.pow_add]; exact Nat.mul_le_mul_right _ l1
  have hb2 : m * 2 ^ t < 2 ^ (m.log2 + 1 + t) := by rw [Nat.pow_add]; exact Nat.mul_lt_mul_of_pos_right l2 (Nat.two_pow_pos _)
  have hlt : m.log2 + t < 1400 := (Nat.pow_lt_pow_iff_right (by decide)).1 (Nat.lt_of_le_of_lt hb h)
  simp only [least_eq, bin_eq, inf_eq, frac_eq]
  by_cases hs : m.log2 + t ≤ 52
  · have e1 : max ((t : Int) - 1074 + (m.log2 : Int) - ((52 : Nat) : Int)) (-1074) = -1074 := by omega
    rw [e1]
    have e2 : ((t : Int) - 1074 - -1074).toNat = t := by omega
    have e3 : ((-1074 : Int) - ((t : Int) - 1074)).toNat = 0 := by omega
    have e4 : ((-1074 : Int) - -1074).toNat = 0 := by decide
    rw [e2, e3, e4, Nat.shiftLeft_eq, cut_exact s (m * 2 ^ t) 0 (m * 2 ^ t) (by simp) (by omega)]
    have hN : m * 2 ^ t < 2 ^ 53 := Nat.lt_of_lt_of_le hb2 (Nat.pow_le_pow_right (by decide) (by omega))
    have hN' : m * 2 ^ t < INF := by unfold INF; omega
    refine ⟨m * 2 ^ t, hN', by rw [Nat.zero_mul, Nat.zero_add, Nat.min_eq_left (Nat.le_of_lt hN')], ?_⟩
    rw [mag_small (by unfold P52; omega)]
    exact near_self _
  · obtain ⟨d, hd⟩ : ∃ d, m.log2 + t = 52 + d := ⟨m.log2 + t - 52, by omega⟩
    have hd1 : 1 ≤ d := by omega
    have e1 : max ((t : Int) - 1074 + (m.log2 : Int) - ((52 : Nat) : Int)) (-1074) = (d : Int) - 1074 := by omega
    rw [e1]
    have e2 : ((t : Int) - 1074 - ((d : Int) - 1074)).toNat = t - d := by omega
    have e3 : ((d : Int) - 1074 - ((t : Int) - 1074)).toNat = d - t := by omega
    have e4 : ((d : Int) - 1074 - -1074).toNat = d := by omega
    rw [e2, e3, e4, Nat.shiftLeft_eq]
    have fin : ∀ x, P52 ≤ x → x ≤ 2 * P52 → near (x * 2 ^ d) (m * 2 ^ t) → ∃ r, r < INF ∧ double.word s (min (d * P52 + x) INF) = double.word s r ∧ near (mag r) (m * 2 ^ t) := fun x h1 h2 h3 => by
      have hr : d * P52 + x < INF := by unfold P52 INF at *; omega
      exact ⟨_, hr, by rw [Nat.min_eq_left (Nat.le_of_lt hr)], by rw [mag_norm d x h1 h2 hd1]; exact h3⟩
    by_cases hdt : d ≤ t
    · have z : d - t = 0 := by omega
      rw [z, cut_exact s (m * 2 ^ (t - d)) 0 (m * 2 ^ (t - d)) (by simp) (by omega)]
      have hx : m * 2 ^ (t - d) * 2 ^ d = m * 2 ^ t := by rw [Nat.mul_assoc, ← Nat.pow_add, show t - d + d = t by omega]
      refine fin _ ?_ ?_ (by rw [hx]; exact near_self _)
      · have : 2 ^ 52 ≤ m * 2 ^ (t - d) := by
          calc 2 ^ 52 = 2 ^ (m.log2 + (t - d)) := by rw [show m.log2 + (t - d) = 52 by omega]
            _ = 2 ^ m.log2 * 2 ^ (t - d) := Nat.pow_add _ _ _
            _ ≤ m * 2 ^ (t - d) := Nat.mul_le_mul_right _ l1
        exact this
      · have : m * 2 ^ (t - d) < 2 ^ 53 := by
          calc m * 2 ^ (t - d) < 2 ^ (m.log2 + 1) * 2 ^ (t - d) := Nat.mul_lt_mul_of_pos_right l2 (Nat.two_pow_pos _)
            _ = 2 ^ 53 := by rw [← Nat.pow_add, show m.log2 + 1 + (t - d) = 53 by omega]
        unfold P52; omega
    · have z : t - d = 0 := by omega
      obtain ⟨e, he⟩ : ∃ e, d = e + t := ⟨d - t, by omega⟩
      rw [z, Nat.pow_zero, Nat.mul_one, show d - t = e by omega]
      obtain ⟨c1, c2, c3, c4⟩ := cut_half s m e (by omega)
      have hl : m.log2 = 52 + e := by omega
      have hq1 : 2 ^ 52 ≤ m / 2 ^ e := by
        rw [Nat.le_div_iff_mul_le (Nat.two_pow_pos _), ← Nat.pow_add, ← hl]; exact l1
      have hq2 : m / 2 ^ e < 2 ^ 53 := by
        rw [Nat.div_lt_iff_lt_mul (Nat.two_pow_pos _), ← Nat.pow_add, show 53 + e = m.log2 + 1 by omega]; exact l2
      refine fin _ ?_ ?_ (near_scale c1 c2 (by rw [← hl]; exact l1) t d he)
      · unfold P52; omega
      · unfold P52; omega
theorem write_near (s : Bool) (m : Nat) (i : Int) (hi : -1074 ≤ i ∨ m = 0) (h : m * 2 ^ (i + 1074).toNat < 2 ^ 1400) :
    ∃ x : Nat, fin (double.write (.number s m i)) = true ∧ val (double.write (.number s m i)) = (if s then -(x : Int) else (x : Int)) ∧ near x (m * 2 ^ (i + 1074).toNat) := by
  rcases hi with hi | hi
  · obtain ⟨r, hr, e, hn⟩ := nearest_near s m (i + 1074).toNat h
    have e2 : double.write (.number s m i) = double.word s r := by
      show double.nearest s m i = _
      rwa [show (((i + 1074).toNat : Nat) : Int) - 1074 = i by omega] at e
    rw [e2]
    exact ⟨mag r, word_fin s r hr, word_val s r hr, hn⟩
  · subst hi
    have e2 : double.write (.number s 0 i) = double.word s 0 := by
      show double.nearest s 0 i = _
      unfold Format.nearest; rw [if_pos rfl]
    rw [e2]
    refine ⟨0, word_fin s 0 (by decide), ?_, by rw [Nat.zero_mul]; exact near_self 0⟩
    rw [word_val s 0 (by decide), mag_zero]
theorem near_zero {x : Nat} (h : near x 0) : x = 0 := by have := h.1; omega
/-- A SUM LIES NEAR. -/
theorem sum_near {da db : Datum} {s t : Bool} {m n : Nat} {i j : Int} (ha : da = .number s m i) (hb : db = .number t n j) (hi : -1074 ≤ i) (hj : -1074 ≤ j)
    (h : (signed s m (i + 1074).toNat + signed t n (j + 1074).toNat).natAbs < 2 ^ 1400) :
    ∃ (c x : Nat), (da.sum db).map double.write = some c ∧ fin c = true ∧ near x (signed s m (i + 1074).toNat + signed t n (j + 1074).toNat).natAbs ∧
      val c = if signed s m (i + 1074).toNat + signed t n (j + 1074).toNat < 0 then -(x : Int) else (x : Int) := by
  subst ha hb
  simp only [Datum.sum, Option.map_some]
  have e1 : (i + 1074).toNat = (i - min i j).toNat + (min i j + 1074).toNat := by omega
  have e2 : (j + 1074).toNat = (j - min i j).toNat + (min i j + 1074).toNat := by omega
  have key : signed s m (i + 1074).toNat + signed t n (j + 1074).toNat = (signed s m (i - min i j).toNat + signed t n (j - min i j).toNat) * (2 ^ (min i j + 1074).toNat : Nat) := by
    rw [e1, e2, signed_mul, signed_mul, ← Int.add_mul]
  rw [key] at h ⊢
  generalize signed s m (i - min i j).toNat + signed t n (j - min i j).toNat = T at *
  have hp : (0 : Int) < ((2 ^ (min i j + 1074).toNat : Nat) : Int) := Int.natCast_pos.2 (Nat.two_pow_pos _)
  rw [Int.natAbs_mul, Int.natAbs_natCast] at h ⊢
  obtain ⟨x, h1, h2, h3⟩ := write_near (if T = 0 then s && t else decide (T < 0)) T.natAbs (min i j) (.inl (by omega)) h
  refine ⟨_, x, rfl, h1, h3, ?_⟩
  rw [h2]
  by_cases h0 : T = 0
  · subst h0
    simp only [Int.natAbs_zero, Nat.zero_mul] at h3
    rw [near_zero h3]
    simp
  · rw [if_neg h0]
    by_cases hT : T < 0
    · have : T * ((2 ^ (min i j + 1074).toNat : Nat) : Int) < 0 := Int.mul_neg_of_neg_of_pos hT hp
      rw [if_pos (decide_eq_true hT), if_pos this]
    · have : ¬ T * ((2 ^ (min i j + 1074).toNat : Nat) : Int) < 0 := by
        have := Int.mul_nonneg (by omega : 0 ≤ T) (Int.le_of_lt hp)
        omega
      rw [if_neg (by simpa using hT), if_neg this]
/-- A word that stands for v units of 2 ^ -1074, not below 0. -/
def isU (b : Nat) (v : Nat) : Prop := fin b = true ∧ val b = (v : Int)
theorem isZ_U {b : Nat} {z : Nat} (h : isZ b (z : Int)) : isU b (z * U1) := ⟨h.1, by rw [h.2]; simp⟩
theorem add_near {a b x y : Nat} (ha : isU a x) (hb : isU b y) (h : x + y < 2 ^ 1400) : ∃ c z, double.add a b = some c ∧ isU c z ∧ near z (x + y) := by
  obtain ⟨m, i, hm, hi, hv⟩ := read_fin a ha.1
  obtain ⟨n, j, hn, hj, hw⟩ := read_fin b hb.1
  have e : signed (neg a) m (i + 1074).toNat + signed (neg b) n (j + 1074).toNat = ((x + y : Nat) : Int) := by rw [hv, hw, ha.2, hb.2]; simp
  obtain ⟨c, z, h1, h2, h3, h4⟩ := sum_near hm hn hi hj (by rw [e, Int.natAbs_natCast]; exact h)
  rw [e] at h3 h4
  rw [Int.natAbs_natCast] at h3
  refine ⟨c, z, h1, ⟨h2, ?_⟩, h3⟩
  rw [h4, if_neg (by omega)]
/-- A difference lies near. -/
theorem sub_near {a b x y : Nat} (ha : isU a x) (hb : isU b y) (h : x < 2 ^ 1400) (h' : y < 2 ^ 1400) : ∃ c z, double.sub a b = some c ∧ fin c = true ∧ near z ((x : Int) - (y : Int)).natAbs ∧ (val c).natAbs = z := by
  obtain ⟨m, i, hm, hi, hv⟩ := read_fin a ha.1
  obtain ⟨n, j, hn, hj, hw⟩ := read_fin b hb.1
  have e : signed (neg a) m (i + 1074).toNat + signed (!neg b) n (j + 1074).toNat = (x : Int) - (y : Int) := by rw [signed_not, hv, hw, ha.2, hb.2]; rfl
  obtain ⟨c, z, h1, h2, h3, h4⟩ := sum_near (db := .number (!neg b) n j) hm rfl hi hj (by
    rw [e]
    generalize 2 ^ 1400 = B at *
    omega)
  rw [e] at h3 h4
  refine ⟨c, z, ?_, h2, h3, ?_⟩
  · unfold Format.sub; rw [hn]; exact h1
  · rw [h4]; split <;> simp
theorem whole_place {m : Nat} {i x : Nat} (hm : m < 2 ^ 53) (h : m * 2 ^ i = x * U1) (hx : 0 < x) : 1022 ≤ i := by
  rcases Nat.lt_or_ge i 1022 with hi | hi
  · exfalso
    obtain ⟨u, hu⟩ : ∃ u, u = U1E := ⟨_, rfl⟩
    have hu' : u = 1074 := by rw [hu]; unfold U1E; rfl
    rw [U1_eq u hu] at h
    have h1 : m * 2 ^ i < 2 ^ 53 * 2 ^ i := Nat.mul_lt_mul_of_pos_right hm (Nat.two_pow_pos _)
    rw [← Nat.pow_add] at h1
    have h2 : 2 ^ (53 + i) ≤ 2 ^ u := Nat.pow_le_pow_right (by decide) (by omega)
    have h3 : 2 ^ u ≤ x * 2 ^ u := Nat.le_mul_of_pos_left _ hx
    omega
  · exact hi
theorem signed_natAbs' (s : Bool) (m up : Nat) : (signed s m up).natAbs = m * 2 ^ up := by
  rw [signed_eq]
  cases s
  · simp only [Bool.false_eq_true, if_false]; exact Int.natAbs_natCast _
  · simp only [if_true]; rw [Int.natAbs_neg, Int.natAbs_natCast]
/-- A product of whole numbers below 2 ^ 53 is exact. -/
theorem mul_whole {a b : Nat} {x y : Int} (ha : isZ a x) (hb : isZ b y) (h : (x * y).natAbs < 2 ^ 53) : ∃ c, double.mul a b = some c ∧ isZ c (x * y) := by
  obtain ⟨m, i, hm, hi, hv, hml⟩ := read_fin_mag a ha.1
  obtain ⟨n, j, hn, hj, hw, hnl⟩ := read_fin_mag b hb.1
  rw [ha.2] at hv
  rw [hb.2] at hw
  have h1 : m * 2 ^ (i + 1074).toNat = x.natAbs * U1 := by rw [← signed_natAbs' (neg a), hv, Int.natAbs_mul, Int.natAbs_natCast]
  have h2 : n * 2 ^ (j + 1074).toNat = y.natAbs * U1 := by rw [← signed_natAbs' (neg b), hw, Int.natAbs_mul, Int.natAbs_natCast]
  have hU := U1_pos
  have hz : ∀ {m k x : Nat}, m * 2 ^ k = x * U1 → x = 0 → m = 0 := fun {m k x} h e => by
    rw [e, Nat.zero_mul] at h
    rcases Nat.mul_eq_zero.1 h with h | h
    · exact h
    · have := Nat.two_pow_pos k; omega
  obtain ⟨r, hr, hmag⟩ := whole_rung (x * y).natAbs h
  have hxy : (x * y).natAbs = x.natAbs * y.natAbs := Int.natAbs_mul x y
  have hprod : m * n * 2 ^ (i + j + 1074).toNat = mag r ∧ (-1074 ≤ i + j ∨ m * n = 0) := by
    by_cases hx : x.natAbs = 0
    · have := hz h1 hx
      subst this
      rw [hmag, hxy, hx]; simp
    by_cases hy : y.natAbs = 0
    · have := hz h2 hy
      subst this
      rw [hmag, hxy, hy]; simp
    have p1 := whole_place hml h1 (by omega)
    have p2 := whole_place hnl h2 (by omega)
    refine ⟨?_, .inl (by omega)⟩
    obtain ⟨u, hu⟩ : ∃ u, u = U1E := ⟨_, rfl⟩
    have hu' : u = 1074 := by rw [hu]; unfold U1E; rfl
    have e : (i + j + 1074).toNat + u = (i + 1074).toNat + (j + 1074).toNat := by omega
    have key : m * n * 2 ^ (i + j + 1074).toNat * 2 ^ u = mag r * 2 ^ u := by
      rw [hmag, hxy, Nat.mul_assoc (m * n), ← Nat.pow_add, e, Nat.pow_add]
      calc m * n * (2 ^ (i + 1074).toNat * 2 ^ (j + 1074).toNat) = m * 2 ^ (i + 1074).toNat * (n * 2 ^ (j + 1074).toNat) := Nat.mul_mul_mul_comm _ _ _ _
        _ = x.natAbs * U1 * (y.natAbs * U1) := by rw [h1, h2]
        _ = x.natAbs * y.natAbs * (U1 * U1) := Nat.mul_mul_mul_comm _ _ _ _
        _ = x.natAbs * y.natAbs * U1 * 2 ^ u := by rw [← Nat.mul_assoc, ← U1_eq u hu]
    exact Nat.eq_of_mul_eq_mul_right (Nat.two_pow_pos u) key
  obtain ⟨w1, w2⟩ := write_exact (neg a ^^ neg b) (m * n) (i + j) r hprod.2 hr hprod.1
  refine ⟨_, ?_, w1, ?_⟩
  · unfold Format.mul
    rw [hm, hn]; rfl
  · rw [w2]
    have e1 : (signed (neg a ^^ neg b) (m * n) (i + j + 1074).toNat).natAbs = (x * y * (U1 : Nat)).natAbs := by
      rw [signed_natAbs', hprod.1, hmag, Int.natAbs_mul (x * y), Int.natAbs_natCast]
    -- the signs
    have sgn : ∀ {s : Bool} {m k : Nat} {x : Int}, signed s m k = x * (U1 : Nat) → (s = true → x ≤ 0) ∧ (s = false → 0 ≤ x) := fun {s m k x} h => by
      rw [signed_eq] at h
      have hU' : (0 : Int) < (U1 : Nat) := by omega
      constructor
      · intro hs
        rw [hs] at h
        simp only [if_true] at h
        rcases Int.lt_or_le 0 x with h0 | h0
        · have := Int.mul_pos h0 hU'; omega
        · exact h0
      · intro hs
        rw [hs] at h
        simp only [Bool.false_eq_true, if_false] at h
        rcases Int.lt_or_le x 0 with h0 | h0
        · have := Int.mul_neg_of_neg_of_pos h0 hU'; omega
        · exact h0
    have sx := sgn hv
    have sy := sgn hw
    have hU' : (0 : Int) ≤ (U1 : Nat) := by omega
    have hs1 : (neg a ^^ neg b) = true → x * y * (U1 : Nat) ≤ 0 := fun h => by
      have : x * y ≤ 0 := by
        cases ea : neg a <;> cases eb : neg b <;> rw [ea, eb] at h
        · cases h
        · exact Int.mul_nonpos_of_nonneg_of_nonpos (sx.2 ea) (sy.1 eb)
        · exact Int.mul_nonpos_of_nonpos_of_nonneg (sx.1 ea) (sy.2 eb)
        · cases h
      exact Int.mul_nonpos_of_nonpos_of_nonneg this hU'
    have hs2 : (neg a ^^ neg b) = false → 0 ≤ x * y * (U1 : Nat) := fun h => by
      have : 0 ≤ x * y := by
        cases ea : neg a <;> cases eb : neg b <;> rw [ea, eb] at h
        · exact Int.mul_nonneg (sx.2 ea) (sy.2 eb)
        · cases h
        · cases h
        · exact Int.mul_nonneg_of_nonpos_of_nonpos (sx.1 ea) (sy.1 eb)
      exact Int.mul_nonneg this hU'
    generalize x * y * (U1 : Nat) = T at *
    rw [signed_eq] at e1 ⊢
    cases es : (neg a ^^ neg b)
    · have := hs2 es
      rw [es] at e1
      simp only [Bool.false_eq_true, if_false] at e1 ⊢
      omega
    · have := hs1 es
      rw [es] at e1
      simp only [if_true] at e1 ⊢
      omega
end Fl
end Go.Proofs.Ytbigadbnijpcjaa
