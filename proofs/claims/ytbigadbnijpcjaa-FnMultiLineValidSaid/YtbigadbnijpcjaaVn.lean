/-
  Contracts: LineString.Validate; the law's own lineValid.
-/
import Derived.Test.YtbigadbnijpcjaaVm
namespace Go.Proofs.Ytbigadbnijpcjaa
open Go.RowKit Fl
/-- A line of m places is valid. -/
def LV (k : Nat) (X : List Nat) (m : Nat) : Bool := decide (m = 0) || ((List.range m).all (okP k X) && (List.range m).any (dfP k X))
set_option maxRecDepth 100000 in
theorem lsValid_any (k : Nat) (hk : k < 4) (A : Option Addr) (X : List Nat) (n cap m : Nat) (w : World) (hn : X.length = n) (hX : n = m * wid k) (hr : rd1 (.float .f64) w A X) (hL : n ≤ 100000000) :
    Calls Try.prog 146 #[.agg #[.int .u8 k, .slice A n cap]] w fun e w' => errIf (LV k X m) e ∧ Below w.heap.size w w' := by
  have HL := Lib.hid fun W => length_any k hk A n cap m hX (by unfold maxLen; omega) W
  have HV := Lib.hid fun W h => seqValid_any k hk A X n cap m W hn hX h hL
  have HR : Hid (∀ W, Below w.heap.size w W → rd1 (.float .f64) W A X) := fun W hb => rd1_tr hr hb
  rcases Nat.eq_zero_or_pos m with hm0 | hm0
  · have hlv : LV k X m = true := by unfold LV; simp [hm0]
    rw [hlv]
    have hmz : (m : Int) = 0 := by omega
    clear hn hX hr hlv hm0 HV
    go_enter Try.func146, Try.ntmps146
    go_wp2_with fail; refine (HL.out _).mono ?_; rintro e w1 ⟨rfl, hb1⟩
    go_wp2
    go_ret
    refine ⟨rfl, ?_⟩
    repeat' (first | (with_reducible exact bl_refl _) | (with_reducible assumption) | (with_reducible apply bl_al) | (with_reducible apply bl_dr) | (with_reducible refine bl_st ?_ ?_ _) | (with_reducible refine bl_tr ?_ (by with_reducible assumption)) | (first | (with_reducible exact Nat.le_refl _) | (with_reducible assumption) | omega | (simp; omega) | (simp; done)))
  have hmz : ¬ (m : Int) = 0 := by omega
  cases hall : (List.range m).all (okP k X)
  · have hlv : LV k X m = false := by unfold LV; rw [hall]; simp; omega
    rw [hlv]
    rw [hall] at HV
    clear hn hX hr hlv hm0 hall
    go_enter Try.func146, Try.ntmps146
    go_wp2_with fail; refine (HL.out _).mono ?_; rintro e w1 ⟨rfl, hb1⟩; have hz_w1 := hb1.size; (try simp at hz_w1); have z_w1_0 : w.heap.size < w1.heap.size := (by omega); have rc_w1_0 := bl_rc hb1 (b := w.heap.size) (by (first | (with_reducible exact Nat.le_refl _) | (with_reducible assumption) | omega | (simp; omega) | (simp; done))); have rf_w1_0 := bl_rf hb1 (b := w.heap.size) (by (first | (with_reducible exact Nat.le_refl _) | (with_reducible assumption) | omega | (simp; omega) | (simp; done)))
    go_wp2_with fail
    refine (HV.out _ (HR.out _ (bl_tr (bl_al (bl_refl _) _) hb1))).mono ?_
    rintro e w2 ⟨⟨t, v, rfl⟩, hb2⟩
    go_wp2
    go_ret
    refine ⟨⟨_, _, rfl⟩, ?_⟩
    repeat' (first | (with_reducible exact bl_refl _) | (with_reducible assumption) | (with_reducible apply bl_al) | (with_reducible apply bl_dr) | (with_reducible refine bl_st ?_ ?_ _) | (with_reducible refine bl_tr ?_ (by with_reducible assumption)) | (first | (with_reducible exact Nat.le_refl _) | (with_reducible assumption) | omega | (simp; omega) | (simp; done)))
  · have HT := Lib.hid fun W h => hasTwo_any k hk A X n cap m W hn hX hm0 h hL hall
    have HG := Lib.hid fun W h => getXY_any k hk A X n cap m 0 W hn hX hm0 h hL
    rw [hall] at HV
    have hlv : LV k X m = (List.range m).any (dfP k X) := by unfold LV; rw [hall]; simp; omega
    rw [hlv]
    clear hn hX hr hlv hm0 hall
    cases hany : (List.range m).any (dfP k X)
    · rw [hany] at HT
      clear hany
      go_enter Try.func146, Try.ntmps146
      go_wp2_with fail; refine (HL.out _).mono ?_; rintro e w1 ⟨rfl, hb1⟩; have hz_w1 := hb1.size; (try simp at hz_w1); have z_w1_0 : w.heap.size < w1.heap.size := (by omega); have rc_w1_0 := bl_rc hb1 (b := w.heap.size) (by (first | (with_reducible exact Nat.le_refl _) | (with_reducible assumption) | omega | (simp; omega) | (simp; done))); have rf_w1_0 := bl_rf hb1 (b := w.heap.size) (by (first | (with_reducible exact Nat.le_refl _) | (with_reducible assumption) | omega | (simp; omega) | (simp; done)))
      go_wp2_with fail
      refine (HV.out _ (HR.out _ (bl_tr (bl_al (bl_refl _) _) hb1))).mono ?_
      rintro e w2 ⟨he, hb2⟩
      cases (show e = .returned .nilIface from he)
      have q0 := bl_rc hb2 (b := w.heap.size) (by omega)
      have z0 : w.heap.size < w2.heap.size := by have := hb2.size; omega
      go_wp2_with fail
      refine (HT.out _ (HR.out _ (bl_tr (bl_tr (bl_al (bl_refl _) _) hb1) hb2))).mono ?_
      rintro e w3 ⟨rfl, hb3⟩
      have q1 := bl_rc hb3 (b := w.heap.size) (by omega)
      go_wp2_with fail
      refine (HG.out _ (HR.out _ (bl_tr (bl_tr (bl_tr (bl_al (bl_refl _) _) hb1) hb2) hb3))).mono ?_
      rintro e w4 ⟨rfl, hb4⟩
      go_wp2_with fail
      refine (errAt_any _ _ _ _).mono ?_
      rintro e w5 ⟨⟨t, v, rfl⟩, hb5⟩
      go_wp2
      go_ret
      refine ⟨⟨_, _, rfl⟩, ?_⟩
      repeat' (first | (with_reducible exact bl_refl _) | (with_reducible assumption) | (with_reducible apply bl_al) | (with_reducible apply bl_dr) | (with_reducible refine bl_st ?_ ?_ _) | (with_reducible refine bl_tr ?_ (by with_reducible assumption)) | (first | (with_reducible exact Nat.le_refl _) | (with_reducible assumption) | omega | (simp; omega) | (simp; done)))
    · rw [hany] at HT
      clear hany
      go_enter Try.func146, Try.ntmps146
      go_wp2_with fail; refine (HL.out _).mono ?_; rintro e w1 ⟨rfl, hb1⟩; have hz_w1 := hb1.size; (try simp at hz_w1); have z_w1_0 : w.heap.size < w1.heap.size := (by omega); have rc_w1_0 := bl_rc hb1 (b := w.heap.size) (by (first | (with_reducible exact Nat.le_refl _) | (with_reducible assumption) | omega | (simp; omega) | (simp; done))); have rf_w1_0 := bl_rf hb1 (b := w.heap.size) (by (first | (with_reducible exact Nat.le_refl _) | (with_reducible assumption) | omega | (simp; omega) | (simp; done)))
      go_wp2_with fail
      refine (HV.out _ (HR.out _ (bl_tr (bl_al (bl_refl _) _) hb1))).mono ?_
      rintro e w2 ⟨he, hb2⟩
      cases (show e = .returned .nilIface from he)
      have q0 := bl_rc hb2 (b := w.heap.size) (by omega)
      have z0 : w.heap.size < w2.heap.size := by have := hb2.size; omega
      go_wp2_with fail
      refine (HT.out _ (HR.out _ (bl_tr (bl_tr (bl_al (bl_refl _) _) hb1) hb2))).mono ?_
      rintro e w3 ⟨rfl, hb3⟩
      go_wp2
      go_ret
      refine ⟨rfl, ?_⟩
      repeat' (first | (with_reducible exact bl_refl _) | (with_reducible assumption) | (with_reducible apply bl_al) | (with_reducible apply bl_dr) | (with_reducible refine bl_st ?_ ?_ _) | (with_reducible refine bl_tr ?_ (by with_reducible assumption)) | (first | (with_reducible exact Nat.le_refl _) | (with_reducible assumption) | omega | (simp; omega) | (simp; done)))
set_option maxRecDepth 100000 in
set_option maxHeartbeats 1000000 in
theorem lineValid_any (k : Nat) (hk : k < 4) (A : Option Addr) (X : List Nat) (n cap m : Nat) (w : World) (hn : X.length = n) (hX : n = m * wid k) (hr : rd1 (.float .f64) w A X) (hL : n ≤ 2147483647) :
    Calls Try.prog 44 #[.slice A n cap, .int .i64 k] w fun e w' => e = .returned (.bool (LV k X m)) ∧ Below w.heap.size w w' := by
  have HW := Lib.hid fun W => width_any k hk W
  have HF := Lib.hid fun a W => gFinite_any a W
  have hwp : 2 ≤ wid k := by unfold wid; omega
  have hw4 : wid k ≤ 4 := by unfold wid; omega
  have hm : m ≤ n := by rw [hX]; exact Nat.le_mul_of_pos_right m (by omega)
  have hnz : ((n : Int) == 0) = decide (m = 0) := by
    rcases Nat.eq_zero_or_pos m with h | h
    · rw [h] at hX; simp [hX, h]
    · have h1 : ¬ m = 0 := by omega
      have h2 : ¬ (n : Int) = 0 := by omega
      rw [show decide (m = 0) = false from by simp [h1]]
      exact beq_eq_false_iff_ne.2 h2
  have hcell : ∀ j, j < m → ∃ b off, A = some ⟨b, off, none⟩ ∧ b < w.heap.size ∧ j * wid k + 1 < n ∧ w.cell? ⟨b, off + j * wid k, none⟩ = some (.float .f64 (px (plc k X j))) ∧ w.cell? ⟨b, off + (j * wid k + 1), none⟩ = some (.float .f64 (py (plc k X j))) := fun j hj => by
    have hlen : j * wid k + wid k ≤ n := by rw [← hn]; exact cond_take (hn.trans hX) hj
    obtain ⟨b, off, e, hb, hc⟩ := hr (by omega)
    have hx := plc_get k X j 0 (by omega)
    have hy := plc_get k X j 1 (by omega)
    refine ⟨b, off, e, hb, by omega, ?_, ?_⟩
    · have := hc (j * wid k) (X.getD (j * wid k + 0) 0) (by rw [List.getD_eq_getElem?_getD, Nat.add_zero, List.getElem?_eq_getElem (by omega)]; rfl)
      rw [← hx] at this; exact this
    · have := hc (j * wid k + 1) (X.getD (j * wid k + 1) 0) (by rw [List.getD_eq_getElem?_getD, List.getElem?_eq_getElem (by omega)]; rfl)
      rw [← hy] at this; exact this
  have HC := Lib.hid hcell
  have HX := Lib.hid hX
  have HZ := Lib.hid hnz
  clear hn hX hr hcell hnz
  go_enter Try.func44, Try.ntmps44
  go_wp2_with fail; refine (HW.out _).mono ?_; rintro e w' ⟨rfl, rfl⟩
  go_wp2
  go_loopw [6, 7] (fun dv i wr => ∃ j : Nat, j ≤ m ∧ i = .int .i64 ((j * wid k : Nat) : Int) ∧ dv = .bool (decide (m = 0) || (List.range j).any (dfP k X)) ∧ (List.range j).all (okP k X) = true ∧ Below w.heap.size w wr) (fun _ i _ => n - (intOf i).toNat)
  case atStart =>
    refine ⟨0, Nat.zero_le _, by simp, ?_, rfl, Below.refl _ _⟩
    rw [HZ.out]; simp
  case round =>
    obtain ⟨j, hj, rfl, rfl, hall, hbr⟩ := hrel
    have HA := Lib.hid hall
    clear hall
    by_cases hlt : j < m
    · obtain ⟨b, off, rfl, hb, hq1, c0, c1⟩ := HC.out j hlt
      obtain ⟨b', off', e', _, h01, f0, f1⟩ := HC.out 0 (by omega)
      obtain ⟨rfl, rfl⟩ : b = b' ∧ off = off' := by injection e' with e'; injection e' with e1 e2; exact ⟨e1, e2⟩
      have d0 := (bl_rc hbr hb _).trans c0
      have d1 := (bl_rc hbr hb _).trans c1
      have g0 := (bl_rc hbr hb _).trans f0
      have g1 := (bl_rc hbr hb _).trans f1
      simp only [Nat.zero_mul, Nat.add_zero, Nat.zero_add] at g0 g1 h01
      have hms : decide (m = 0) = false := by simp; omega
      have hok : okP k X j = (fin (px (plc k X j)) && fin (py (plc k X j))) := rfl
      have hdf : dfP k X j = (fne (px (plc k X j)) (px (plc k X 0)) || fne (py (plc k X j)) (py (plc k X 0))) := rfl
      have HS1 : Hid ((List.range (j + 1)).any (dfP k X) = ((List.range j).any (dfP k X) || (fne (px (plc k X j)) (px (plc k X 0)) || fne (py (plc k X j)) (py (plc k X 0))))) := any_snoc _ _
      have HS2 : Hid ((List.range (j + 1)).all (okP k X) = (fin (px (plc k X j)) && fin (py (plc k X j)))) := by
        show (List.range (j + 1)).all (okP k X) = _
        rw [all_snoc, HA.out, hok]; rfl
      have HNo : Hid (okP k X j = false → LV k X m = false) := fun h => by
        unfold LV; rw [all_stop h hlt, hms]; rfl
      have hsucc : (j + 1) * wid k = j * wid k + wid k := Nat.succ_mul j (wid k)
      have HSC := Lib.hid hsucc
      rw [hok] at HNo
      clear HC c0 c1 f0 f1 hok hdf hsucc
      generalize px (plc k X j) = x at *
      generalize py (plc k X j) = y at *
      generalize px (plc k X 0) = x0 at *
      generalize py (plc k X 0) = y0 at *
      generalize (List.range j).any (dfP k X) = D at *
      rw [hms]
      generalize hq : j * wid k = q at *
      have HQ := Lib.hid hq
      clear hq
      generalize wid k = d at *
      have hq0 : q < n := by omega
      obtain ⟨q1, hqq⟩ : ∃ q1, q + 1 = q1 := ⟨_, rfl⟩
      have hs1 : (q : Int) + 1 = (q1 : Int) := by omega
      rw [hqq] at hq1 d1
      clear hqq
      have hz := hbr.size
      have hbw : b < wr.heap.size := by omega
      simp only [Bool.false_or]
      cases hx : fin x
      · have hLV := HNo.out (by rw [hx]; rfl)
        have HLV := Lib.hid hLV
        have H1 := Lib.hid fun W => HF.out x W
        simp only [hx] at H1
        clear hLV HNo HS1 HS2 hx
        go_wp2_with fail
        refine (H1.out _).mono ?_
        rintro e W ⟨rfl, rfl⟩
        go_wp2
        go_ret
        exact ⟨by rw [HLV.out]; rfl, hbr⟩
      cases hy : fin y
      · have hLV := HNo.out (by rw [hx, hy]; rfl)
        have HLV := Lib.hid hLV
        have H1 := Lib.hid fun W => HF.out x W
        simp only [hx] at H1
        have H2 := Lib.hid fun W => HF.out y W
        simp only [hy] at H2
        clear hLV HNo HS1 HS2 hx hy
        go_wp2_with fail
        refine (H1.out _).mono ?_
        rintro e W ⟨rfl, rfl⟩
        go_wp2_with fail
        refine (H2.out _).mono ?_
        rintro e W ⟨rfl, rfl⟩
        go_wp2
        go_ret
        exact ⟨by rw [HLV.out]; rfl, hbr⟩
      have H1 := Lib.hid fun W => HF.out x W
      simp only [hx] at H1
      have H2 := Lib.hid fun W => HF.out y W
      simp only [hy] at H2
      have HA2 : Hid ((List.range (j + 1)).all (okP k X) = true) := by
        show (List.range (j + 1)).all (okP k X) = true
        rw [HS2.out, hx, hy]; rfl
      clear HNo HS2 hx hy
      cases D <;> cases hv : fne x x0
      all_goals
        go_wp2_with fail
        refine (H1.out _).mono ?_
        rintro e W ⟨rfl, rfl⟩
        go_wp2_with fail
        refine (H2.out _).mono ?_
        rintro e W ⟨rfl, rfl⟩
        go_wp2
        refine wp_region_calm (by kernel_rfl) (by kernel_rfl) ?_
        repeat (go_big_quiet_step ((first | fail)))
        refine wpQuiet_nil ?_; intro w3 hb3
        go_wp2
        go_roundw
        case rel =>
          refine ⟨j + 1, by omega, ?_, ?_, HA2.out, by repeat' (first | (with_reducible exact bl_refl _) | (with_reducible assumption) | (with_reducible apply bl_al) | (with_reducible apply bl_dr) | (with_reducible refine bl_st ?_ ?_ _) | (with_reducible refine bl_tr ?_ (by with_reducible assumption)) | (first | (with_reducible exact Nat.le_refl _) | (with_reducible assumption) | omega | (simp; omega) | (simp; done)))⟩
          · rw [HSC.out]; (try rw [HQ.out]); go_num
          · rw [HS1.out]; simp [hv]
        case measure => simp [intOf]; omega
    · obtain rfl : j = m := by omega
      have hqn : ((j * wid k : Nat) : Int) = (n : Int) := by rw [HX.out]
      have HLV : Hid (LV k X j = (decide (j = 0) || (List.range j).any (dfP k X))) := by
        show LV k X j = _
        unfold LV; rw [HA.out]; rfl
      generalize (decide (j = 0) || (List.range j).any (dfP k X)) = D at *
      rw [hqn]
      have hn1 : ¬ (n : Int) + 1 < n := by omega
      go_wp2
      go_ret
      exact ⟨by rw [HLV.out]; rfl, hbr⟩
end Go.Proofs.Ytbigadbnijpcjaa
