/-
  Contracts: math.Trunc; the tests on whole numbers.
-/
import Derived.Test.YtomhegagdpaieaaWhole
import Derived.Test.YtomhegagdpaieaaNum
import Derived.Test.YtomhegagdpaieaaCalm
namespace Go.Proofs.Ytomhegagdpaieaa
open Go.RowKit Fl
def tr (a : Nat) : Nat := Ieee.Format.write Ieee.double ((Ieee.Format.read Ieee.double a).integral .zero)
theorem call_archTrunc (a : Nat) (h : num a = true) (w : World) : (callFunc 75 #[.float .f64 a]).run Try.prog w = .ok (.value (.float .f64 (tr a))) w := by
  rw [run_callFunc_extern Try.func75 (by kernel_rfl) (by kernel_rfl) (by kernel_rfl) (e := Extern.MathFloor.toIntegral "math.archTrunc" .zero) (by kernel_rfl)]
  unfold tr
  have key : ∀ d : Ieee.Datum, FloatKind.f64.decode a = d → (∀ s t, d ≠ .nan s t) → (Extern.MathFloor.toIntegral "math.archTrunc" .zero #[.float .f64 a]).run Try.prog w = .ok (.float .f64 (Ieee.Format.write Ieee.double (d.integral .zero))) w := by
    intro d hd hn
    subst hd
    change (Sem.run _ (match FloatKind.f64.decode a with | .nan _ _ => _ | d => pure (Value.float .f64 (FloatKind.f64.encode (d.integral .zero)))) w) = _
    split
    · rename_i s t e
      exact absurd e (hn s t)
    · rfl
  by_cases hi : rung a = INF
  · rw [key (.infinity (neg a)) (read_inf a hi) (fun s t e => by cases e), read_inf a hi]; rfl
  · have hf : fin a = true := by
      simp only [fin, num, decide_eq_true_eq] at *; omega
    obtain ⟨m, i, hm, _⟩ := read_fin a hf
    rw [key (.number (neg a) m i) hm (fun s t e => by cases e), hm]; rfl
theorem trunc_num (a : Nat) (h : num a = true) (w : World) :
    Calls Try.prog 72 #[.float .f64 a] w fun e w' => e = .returned (.float .f64 (tr a)) ∧ w = w' := by
  have hc := call_archTrunc a h
  go_enter Try.func72, Try.ntmps72
  go_wp2
  go_ret
  exact ⟨rfl, rfl⟩
theorem call_archTrunc_nan (a : Nat) (h : num a = false) (w : World) : ∃ y w', (callFunc 75 #[.float .f64 a]).run Try.prog w = .ok (.value (.float .f64 y)) w' ∧ Below w.heap.size w w' := by
  rw [run_callFunc_extern Try.func75 (by kernel_rfl) (by kernel_rfl) (by kernel_rfl) (e := Extern.MathFloor.toIntegral "math.archTrunc" .zero) (by kernel_rfl)]
  obtain ⟨f, hf⟩ := read_nan a h
  change ∃ y w', (Sem.run _ (match FloatKind.f64.decode a with | .nan _ _ => _ | d => pure (Value.float .f64 (FloatKind.f64.encode (d.integral .zero)))) w).andThen _ = _ ∧ _
  have hd : FloatKind.f64.decode a = .nan (neg a) f := hf
  rw [hd]
  dsimp only
  split
  · exact ⟨a, w, rfl, Below.refl _ _⟩
  · simp only [Sem.run_bind, run_choose_drew]
    split
    · exact ⟨_, w, rfl, Below.refl _ _⟩
    · exact ⟨_, w.drew, rfl, (Below.refl _ _).drew⟩
theorem trunc_nan (a : Nat) (h : num a = false) (w : World) :
    Calls Try.prog 72 #[.float .f64 a] w fun e w' => (∃ y, e = .returned (.float .f64 y)) ∧ Below w.heap.size w w' := by
  obtain ⟨y, w', hc, hb⟩ := call_archTrunc_nan a h w
  go_enter Try.func72, Try.ntmps72
  go_wp2
  go_ret
  exact ⟨⟨y, rfl⟩, hb⟩
theorem feq_nan (a b : Nat) (h : num a = false) : feq a b = false := by
  unfold feq; rw [fmt, order_nan_left a b h]; rfl
/-- The test of a whole number from -2^20 to 2^20. -/
def gW (a : Nat) : Bool := num a && feq a (tr a) && (fgt a 13920626448202203136 || feq a 13920626448202203136) && (flt a 4697254411347427328 || feq a 4697254411347427328)
theorem gW_whole {a : Nat} (h : gW a = true) : ∃ z, isZ a z ∧ -1048576 ≤ z ∧ z ≤ 1048576 := by
  simp only [gW, Bool.and_eq_true] at h
  obtain ⟨⟨⟨hn, ht⟩, hb⟩, hc⟩ := h
  have nb : num 13920626448202203136 = true := by decide
  have nt : num 4697254411347427328 = true := by decide
  have kb : key 13920626448202203136 ≤ key a := by
    rw [fgt_num hn nb, feq_num hn nb] at hb
    simp only [Bool.or_eq_true, decide_eq_true_eq] at hb
    omega
  have kt : key a ≤ key 4697254411347427328 := by
    rw [flt_num hn nt, feq_num hn nt] at hc
    simp only [Bool.or_eq_true, decide_eq_true_eq] at hc
    omega
  have hf : fin a = true := by
    rw [show key 13920626448202203136 = -4697254411347427328 from by decide] at kb
    rw [show key 4697254411347427328 = 4697254411347427328 from by decide] at kt
    unfold fin
    simp only [decide_eq_true_eq]
    by_cases hs : neg a = true
    · rw [key, if_pos hs] at kb
      show rung a < 9218868437227405312
      omega
    · rw [key, if_neg hs] at kt
      show rung a < 9218868437227405312
      omega
  have hnt : num (tr a) = true := by
    cases hx : num (tr a)
    · unfold feq at ht
      rw [fmt, order_nan_right a (tr a) hx] at ht
      cases ht
    · rfl
  rw [feq_num hn hnt] at ht
  obtain ⟨z, hz⟩ := trunc_whole hf (by unfold tr at ht; exact of_decide_eq_true ht)
  exact ⟨z, hz, (key_whole_le isZ_bot hz).1 kb, (key_whole_le hz isZ_top).1 kt⟩
theorem gWhole_any (a : Nat) (w : World) :
    Calls Try.prog 69 #[.float .f64 a] w fun e w' => e = .returned (.bool (gW a)) ∧ Below w.heap.size w w' := by
  cases hn : num a
  · have hg : gW a = false := by simp [gW, hn]
    rw [hg]
    have HT := Lib.hid (trunc_nan a hn w)
    have hq := fun y => feq_nan a y hn
    go_enter Try.func69, Try.ntmps69
    go_wp2_with fail
    refine HT.out.mono ?_
    rintro e w1 ⟨⟨y, rfl⟩, hb1⟩
    have hq1 := hq y
    clear hq
    go_wp2
    go_ret
    refine ⟨rfl, ?_⟩
    repeat' (first | (with_reducible exact bl_refl _) | (with_reducible assumption) | (with_reducible apply bl_al) | (with_reducible apply bl_dr) | (with_reducible refine bl_st ?_ ?_ _) | (with_reducible refine bl_tr ?_ (by with_reducible assumption)) | (first | (with_reducible exact Nat.le_refl _) | (with_reducible assumption) | omega | (simp; omega) | (simp; done)))
  · have HT := Lib.hid fun W => trunc_num a hn W
    have hg : gW a = (feq a (tr a) && (fgt a 13920626448202203136 || feq a 13920626448202203136) && (flt a 4697254411347427328 || feq a 4697254411347427328)) := by simp [gW, hn]
    rw [hg]
    clear hg
    go_enter Try.func69, Try.ntmps69
    go_wp2_with fail; refine (HT.out _).mono ?_; rintro e w' ⟨rfl, rfl⟩
    go_wp2 <;> (go_ret; refine ⟨?_, Below.refl _ _⟩; simp_all)
end Go.Proofs.Ytomhegagdpaieaa
