/-
  Contracts: eWhole, tBox (boxes with whole ends in order).
-/
import Derived.Test.YtomhegagdpaieaaGw
namespace Go.Proofs.Ytomhegagdpaieaa
open Go.RowKit Fl
def eW (a b c d : Nat) : Bool := gW a && gW b && gW c && gW d
theorem eWhole_any (a b c d : Nat) (w : World) :
    Calls Try.prog 58 #[.agg #[.float .f64 a, .float .f64 b, .float .f64 c, .float .f64 d]] w fun e w' => e = .returned (.bool (eW a b c d)) ∧ Below w.heap.size w w' := by
  have HG := Lib.hid fun x W => gWhole_any x W
  unfold eW
  generalize gW = G at *
  cases ha : G a
  · go_enter Try.func58, Try.ntmps58
    have H := Lib.hid fun W => HG.out a W
    simp only [ha] at H
    go_wp2_with fail; refine (H.out _).mono ?_; rintro e w1 ⟨rfl, hb1⟩
    go_wp2
    go_ret
    refine ⟨rfl, ?_⟩
    repeat' (first | (with_reducible exact bl_refl _) | (with_reducible assumption) | (with_reducible apply bl_al) | (with_reducible apply bl_dr) | (with_reducible refine bl_st ?_ ?_ _) | (with_reducible refine bl_tr ?_ (by with_reducible assumption)) | (first | (with_reducible exact Nat.le_refl _) | (with_reducible assumption) | omega | (simp; omega) | (simp; done)))
  cases hb : G b
  · go_enter Try.func58, Try.ntmps58
    have H := Lib.hid fun W => HG.out a W
    simp only [ha] at H
    have H' := Lib.hid fun W => HG.out b W
    simp only [hb] at H'
    go_wp2_with fail; refine (H.out _).mono ?_; rintro e w1 ⟨rfl, hb1⟩; have hz_w1 := hb1.size; (try simp at hz_w1); have z_w1_0 : w.heap.size < w1.heap.size := (by omega); have rc_w1_0 := bl_rc hb1 (b := w.heap.size) (by (first | (with_reducible exact Nat.le_refl _) | (with_reducible assumption) | omega | (simp; omega) | (simp; done))); have rf_w1_0 := bl_rf hb1 (b := w.heap.size) (by (first | (with_reducible exact Nat.le_refl _) | (with_reducible assumption) | omega | (simp; omega) | (simp; done)))
    go_wp2_with fail; refine (H'.out _).mono ?_; rintro e w2 ⟨rfl, hb2⟩
    go_wp2
    go_ret
    refine ⟨rfl, ?_⟩
    repeat' (first | (with_reducible exact bl_refl _) | (with_reducible assumption) | (with_reducible apply bl_al) | (with_reducible apply bl_dr) | (with_reducible refine bl_st ?_ ?_ _) | (with_reducible refine bl_tr ?_ (by with_reducible assumption)) | (first | (with_reducible exact Nat.le_refl _) | (with_reducible assumption) | omega | (simp; omega) | (simp; done)))
  cases hc : G c
  · go_enter Try.func58, Try.ntmps58
    have H := Lib.hid fun W => HG.out a W
    simp only [ha] at H
    have H' := Lib.hid fun W => HG.out b W
    simp only [hb] at H'
    have H'' := Lib.hid fun W => HG.out c W
    simp only [hc] at H''
    go_wp2_with fail; refine (H.out _).mono ?_; rintro e w1 ⟨rfl, hb1⟩; have hz_w1 := hb1.size; (try simp at hz_w1); have z_w1_0 : w.heap.size < w1.heap.size := (by omega); have rc_w1_0 := bl_rc hb1 (b := w.heap.size) (by (first | (with_reducible exact Nat.le_refl _) | (with_reducible assumption) | omega | (simp; omega) | (simp; done))); have rf_w1_0 := bl_rf hb1 (b := w.heap.size) (by (first | (with_reducible exact Nat.le_refl _) | (with_reducible assumption) | omega | (simp; omega) | (simp; done)))
    go_wp2_with fail; refine (H'.out _).mono ?_; rintro e w2 ⟨rfl, hb2⟩; have hz_w2 := hb2.size; (try simp at hz_w2); have z_w2_0 : w.heap.size < w2.heap.size := (by omega); have rc_w2_0 := bl_rc hb2 (b := w.heap.size) (by (first | (with_reducible exact Nat.le_refl _) | (with_reducible assumption) | omega | (simp; omega) | (simp; done))); have rf_w2_0 := bl_rf hb2 (b := w.heap.size) (by (first | (with_reducible exact Nat.le_refl _) | (with_reducible assumption) | omega | (simp; omega) | (simp; done)))
    go_wp2_with fail; refine (H''.out _).mono ?_; rintro e w3 ⟨rfl, hb3⟩
    go_wp2
    go_ret
    refine ⟨rfl, ?_⟩
    repeat' (first | (with_reducible exact bl_refl _) | (with_reducible assumption) | (with_reducible apply bl_al) | (with_reducible apply bl_dr) | (with_reducible refine bl_st ?_ ?_ _) | (with_reducible refine bl_tr ?_ (by with_reducible assumption)) | (first | (with_reducible exact Nat.le_refl _) | (with_reducible assumption) | omega | (simp; omega) | (simp; done)))
  · go_enter Try.func58, Try.ntmps58
    have H := Lib.hid fun W => HG.out a W
    simp only [ha] at H
    have H' := Lib.hid fun W => HG.out b W
    simp only [hb] at H'
    have H'' := Lib.hid fun W => HG.out c W
    simp only [hc] at H''
    have H3 := Lib.hid fun W => HG.out d W
    generalize G d = gd at *
    go_wp2_with fail; refine (H.out _).mono ?_; rintro e w1 ⟨rfl, hb1⟩; have hz_w1 := hb1.size; (try simp at hz_w1); have z_w1_0 : w.heap.size < w1.heap.size := (by omega); have rc_w1_0 := bl_rc hb1 (b := w.heap.size) (by (first | (with_reducible exact Nat.le_refl _) | (with_reducible assumption) | omega | (simp; omega) | (simp; done))); have rf_w1_0 := bl_rf hb1 (b := w.heap.size) (by (first | (with_reducible exact Nat.le_refl _) | (with_reducible assumption) | omega | (simp; omega) | (simp; done)))
    go_wp2_with fail; refine (H'.out _).mono ?_; rintro e w2 ⟨rfl, hb2⟩; have hz_w2 := hb2.size; (try simp at hz_w2); have z_w2_0 : w.heap.size < w2.heap.size := (by omega); have rc_w2_0 := bl_rc hb2 (b := w.heap.size) (by (first | (with_reducible exact Nat.le_refl _) | (with_reducible assumption) | omega | (simp; omega) | (simp; done))); have rf_w2_0 := bl_rf hb2 (b := w.heap.size) (by (first | (with_reducible exact Nat.le_refl _) | (with_reducible assumption) | omega | (simp; omega) | (simp; done)))
    go_wp2_with fail; refine (H''.out _).mono ?_; rintro e w3 ⟨rfl, hb3⟩; have hz_w3 := hb3.size; (try simp at hz_w3); have z_w3_0 : w.heap.size < w3.heap.size := (by omega); have rc_w3_0 := bl_rc hb3 (b := w.heap.size) (by (first | (with_reducible exact Nat.le_refl _) | (with_reducible assumption) | omega | (simp; omega) | (simp; done))); have rf_w3_0 := bl_rf hb3 (b := w.heap.size) (by (first | (with_reducible exact Nat.le_refl _) | (with_reducible assumption) | omega | (simp; omega) | (simp; done)))
    go_wp2_with fail; refine (H3.out _).mono ?_; rintro e w4 ⟨rfl, hb4⟩
    go_wp2
    go_ret
    refine ⟨rfl, ?_⟩
    repeat' (first | (with_reducible exact bl_refl _) | (with_reducible assumption) | (with_reducible apply bl_al) | (with_reducible apply bl_dr) | (with_reducible refine bl_st ?_ ?_ _) | (with_reducible refine bl_tr ?_ (by with_reducible assumption)) | (first | (with_reducible exact Nat.le_refl _) | (with_reducible assumption) | omega | (simp; omega) | (simp; done)))
def tB (a b c d : Nat) : Bool := eW a b c d && (flt a c || feq a c) && (flt b d || feq b d)
theorem tBox_any (a b c d : Nat) (w : World) :
    Calls Try.prog 36 #[.agg #[.float .f64 a, .float .f64 b, .float .f64 c, .float .f64 d]] w fun e w' => e = .returned (.bool (tB a b c d)) ∧ Below w.heap.size w w' := by
  have HE := Lib.hid fun W => eWhole_any a b c d W
  unfold tB
  cases he : eW a b c d
  · simp only [he] at HE
    clear he
    go_enter Try.func36, Try.ntmps36
    go_wp2_with fail; refine (HE.out _).mono ?_; rintro e w1 ⟨rfl, hb1⟩
    go_wp2
    go_ret
    refine ⟨rfl, ?_⟩
    repeat' (first | (with_reducible exact bl_refl _) | (with_reducible assumption) | (with_reducible apply bl_al) | (with_reducible apply bl_dr) | (with_reducible refine bl_st ?_ ?_ _) | (with_reducible refine bl_tr ?_ (by with_reducible assumption)) | (first | (with_reducible exact Nat.le_refl _) | (with_reducible assumption) | omega | (simp; omega) | (simp; done)))
  · simp only [he] at HE
    clear he
    go_enter Try.func36, Try.ntmps36
    go_wp2_with fail; refine (HE.out _).mono ?_; rintro e w1 ⟨rfl, hb1⟩; have hz_w1 := hb1.size; (try simp at hz_w1); have z_w1_0 : w.heap.size < w1.heap.size := (by omega); have rc_w1_0 := bl_rc hb1 (b := w.heap.size) (by (first | (with_reducible exact Nat.le_refl _) | (with_reducible assumption) | omega | (simp; omega) | (simp; done))); have rf_w1_0 := bl_rf hb1 (b := w.heap.size) (by (first | (with_reducible exact Nat.le_refl _) | (with_reducible assumption) | omega | (simp; omega) | (simp; done)))
    go_wp2 <;> (go_ret; refine ⟨?_, ?_⟩; (first | done | simp_all); repeat' (first | (with_reducible exact bl_refl _) | (with_reducible assumption) | (with_reducible apply bl_al) | (with_reducible apply bl_dr) | (with_reducible refine bl_st ?_ ?_ _) | (with_reducible refine bl_tr ?_ (by with_reducible assumption)) | (first | (with_reducible exact Nat.le_refl _) | (with_reducible assumption) | omega | (simp; omega) | (simp; done))))
theorem tB_whole {a b c d : Nat} (h : tB a b c d = true) : ∃ x y z t : Int, isZ a x ∧ isZ b y ∧ isZ c z ∧ isZ d t ∧ -1048576 ≤ x ∧ x ≤ z ∧ z ≤ 1048576 ∧ -1048576 ≤ y ∧ y ≤ t ∧ t ≤ 1048576 := by
  simp only [tB, eW, Bool.and_eq_true] at h
  obtain ⟨⟨⟨⟨⟨ha, hb⟩, hc⟩, hd⟩, h1⟩, h2⟩ := h
  obtain ⟨x, hx, x0, x1⟩ := gW_whole ha
  obtain ⟨y, hy, y0, y1⟩ := gW_whole hb
  obtain ⟨z, hz, z0, z1⟩ := gW_whole hc
  obtain ⟨t, ht, t0, t1⟩ := gW_whole hd
  have le : ∀ {p q : Nat} {u v : Int}, isZ p u → isZ q v → (flt p q || feq p q) = true → u ≤ v := by
    intro p q u v hp hq h
    rw [flt_fin hp.1 hq.1, feq_fin hp.1 hq.1] at h
    simp only [Bool.or_eq_true, decide_eq_true_eq] at h
    exact (key_whole_le hp hq).1 (by omega)
  exact ⟨x, y, z, t, hx, hy, hz, ht, x0, le hx hz (by simpa using h1), z1, y0, le hy ht (by simpa using h2), t1⟩
end Go.Proofs.Ytomhegagdpaieaa
