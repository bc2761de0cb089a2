/-
  The law FnNewEnvelopeSteps: its walk.
-/
import Derived.Test.YtomhegagdpaieaaEnvS
import Derived.Test.YtomhegagdpaieaaEnvPlain
import Derived.Test.YtomhegagdpaieaaOpenXYs
namespace Go.Proofs.Ytomhegagdpaieaa
open Go.RowKit Fl

theorem steps_long (A : Option Addr) (n cap : Nat) (w : World) (h : 2147483647 < n) :
    Calls Try.prog 7 #[.slice A n cap] w fun e w' => e = .returned (.bool true) ∧ Below w.heap.size w w' := by
  have hd : decide (2147483647 < (n : Int)) = true := by simp; omega
  go_enter Try.func7, Try.ntmps7
  go_wp2
  go_ret
  exact ⟨rfl, bl_refl _⟩
theorem steps_mid (A : Option Addr) (n cap : Nat) (w : World) (h : n ≤ 2147483647) (h2 : 2000 < n) :
    Calls Try.prog 7 #[.slice A n cap] w fun e w' => e = .returned (.bool true) ∧ Below w.heap.size w w' := by
  have hd : decide (2147483647 < (n : Int)) = false := by simp; omega
  go_enter Try.func7, Try.ntmps7
  go_wp2_with fail; refine (eList_long _ _ _ _ h2).mono ?_; rintro e w1 ⟨rfl, hb1⟩
  go_wp2
  go_ret
  exact ⟨rfl, hb1⟩
theorem steps_inf (A : Option Addr) (cap : Nat) (ps : List (Nat × Nat)) (w : World) (h : rdXY w A ps) (hl : ps.length ≤ 2000) (hf : ps.all finXY = false) :
    Calls Try.prog 7 #[.slice A ps.length cap] w fun e w' => e = .returned (.bool true) ∧ Below w.heap.size w w' := by
  have hd : decide (2147483647 < (ps.length : Int)) = false := by simp; omega
  have HF := Lib.hid hf
  clear hf
  go_enter Try.func7, Try.ntmps7
  go_wp2_with fail; refine (eList_A _ _ _ _ h hl).mono ?_; rintro e w1 ⟨rfl, hb1⟩
  rw [HF.out]
  go_wp2
  go_ret
  exact ⟨rfl, hb1⟩
theorem steps_many (A : Option Addr) (cap : Nat) (ps : List (Nat × Nat)) (w : World) (h : rdXY w A ps) (hl : ps.length ≤ 2000) (hl2 : 50 < ps.length) :
    Calls Try.prog 7 #[.slice A ps.length cap] w fun e w' => e = .returned (.bool true) ∧ Below w.heap.size w w' := by
  have hd : decide (2147483647 < (ps.length : Int)) = false := by simp; omega
  have hd2 : decide (50 < (ps.length : Int)) = true := by simp; omega
  cases hf : ps.all finXY
  · exact steps_inf A cap ps w h hl hf
  · have HF := Lib.hid hf
    clear hf
    go_enter Try.func7, Try.ntmps7
    go_wp2_with fail; refine (eList_A _ _ _ _ h hl).mono ?_; rintro e w1 ⟨rfl, hb1⟩
    rw [HF.out]
    go_wp2
    go_ret
    exact ⟨rfl, hb1⟩
set_option maxRecDepth 100000 in
set_option maxHeartbeats 800000 in
theorem steps_few (A : Option Addr) (cap : Nat) (ps : List (Nat × Nat)) (w : World) (h : rdXY w A ps) (hl : ps.length ≤ 50) (hf : ps.all finXY = true) :
    Calls Try.prog 7 #[.slice A ps.length cap] w fun e w' => e = .returned (.bool true) ∧ Below w.heap.size w w' := by
  have hd : decide (2147483647 < (ps.length : Int)) = false := by simp; omega
  have hd2 : decide (50 < (ps.length : Int)) = false := by simp; omega
  obtain ⟨hS, hF⟩ := steps_same ps hf
  have HS := Lib.hid hS
  have HB := Lib.hid hF
  have HF := Lib.hid hf
  clear hf hS hF
  go_enter Try.func7, Try.ntmps7
  go_wp2_with fail; refine (eList_A _ _ _ _ h (by omega)).mono ?_; rintro e w1 ⟨rfl, hb1⟩
  rw [HF.out]
  have h1 := rdXY_tr h hb1
  go_wp2
  go_loopw [19, 5] (fun i _ wr => ∃ k : Nat, k ≤ ps.length ∧ i = .int .i64 k ∧ Below w1.heap.size w1 wr ∧ wr.heap.size > w1.heap.size ∧ Blk wr w1.heap.size 48 #[.bool (stepsOf (ps.take k)).f, .float .f64 (stepsOf (ps.take k)).a, .float .f64 (stepsOf (ps.take k)).b, .float .f64 (stepsOf (ps.take k)).c, .float .f64 (stepsOf (ps.take k)).d]) (fun i _ _ => ps.length - (intOf i).toNat)
  case atStart =>
    refine ⟨0, Nat.zero_le _, rfl, ?_, by simp, blk_at _ _ _ rfl⟩
    exact bl_al (bl_refl _) _
  case round =>
    obtain ⟨k, hk, rfl, hbw, hsz, hB⟩ := hrel
    by_cases hlt : k < ps.length
    · obtain ⟨p, hp⟩ : ∃ p, ps[k]? = some p := ⟨_, List.getElem?_eq_getElem hlt⟩
      obtain ⟨b, off, rfl, hb, hx⟩ := h1 (by omega)
      obtain ⟨hx, hy⟩ := hx k p hp
      have hx' := (hbw.cell (p := ⟨b, off + k * 2, none⟩) hb).trans hx
      have hy' := (hbw.cell (p := ⟨b, off + k * 2 + 1, none⟩) hb).trans hy
      have HE := Lib.hid (stepsOf_snoc hp)
      clear hp hx hy h h1
      generalize stepsOf (ps.take k) = ev at *
      have c0 := blk_cell hB 0
      have c1 := blk_cell hB 1
      have c2 := blk_cell hB 2
      have c3 := blk_cell hB 3
      have c4 := blk_cell hB 4
      simp at c0 c1 c2 c3 c4
      go_wp2_with fail; refine (envExpandXY_any _ _ _ _ _ _ _).mono ?_; rintro e w2 ⟨rfl, hb2⟩
      have hB1 := blk_tr (blk_al hB (.cells #[.float .f64 p.1, .float .f64 p.2] 24)) hb2
      have e0 := blk_cell hB1 0
      have e1 := blk_cell hB1 1
      have e2 := blk_cell hB1 2
      have e3 := blk_cell hB1 3
      have e4 := blk_cell hB1 4
      simp at e0 e1 e2 e3 e4
      have hff := fun i => blk_frozen hB1 i
      have hz := hb2.size
      simp only [World.size_alloc] at hz
      obtain ⟨eo, heo⟩ : ∃ eo, stepE ev p = eo := ⟨_, rfl⟩
      rw [show ((envC ev.f ev.a ev.b ev.c ev.d).ex p).z = eo from heo]
      have HO := Lib.hid heo
      clear heo
      go_wp2
      go_roundw
      case rel =>
        refine ⟨k + 1, by omega, by go_num, ?_, ?_, ?_⟩
        · repeat' (first | (with_reducible exact bl_refl _) | (with_reducible assumption) | (with_reducible apply bl_al) | (with_reducible apply bl_dr) | (with_reducible refine bl_st ?_ ?_ _) | (with_reducible refine bl_tr ?_ (by with_reducible assumption)) | (first | (with_reducible exact Nat.le_refl _) | (with_reducible assumption) | omega | (simp; omega) | (simp; done)))
        · simp; omega
        · rw [HE.out, HO.out]
          have := blk_set (blk_set (blk_set (blk_set (blk_set hB1 0 (.bool eo.f)) 1 (.float .f64 eo.a)) 2 (.float .f64 eo.b)) 3 (.float .f64 eo.c)) 4 (.float .f64 eo.d)
          simpa using this
      case measure => simp [intOf]; omega
    · obtain rfl : k = ps.length := by omega
      rw [List.take_length] at hB
      have hr : rdXY wr A ps := rdXY_tr h1 hbw
      have HS1 : Hid ((evOf ps).z.same (stepsOf ps) = true) := HS
      obtain ⟨ev, hev⟩ : ∃ ev, stepsOf ps = ev := ⟨_, rfl⟩
      rw [hev] at hB
      have hS := HS.out
      have hF := HB.out
      rw [hev] at hS hF
      have HS2 := Lib.hid hS
      clear HS HS1 HB hS hev h h1
      obtain ⟨a, b, c, d, f⟩ := ev
      simp only at hF hB
      subst hF
      have c0 := blk_cell hB 0
      have c1 := blk_cell hB 1
      have c2 := blk_cell hB 2
      have c3 := blk_cell hB 3
      have c4 := blk_cell hB 4
      simp only [List.getElem?_toArray, List.getElem?_cons_zero, List.getElem?_cons_succ] at c0 c1 c2 c3 c4
      rcases Nat.eq_zero_or_pos ps.length with h0 | h0
      · have hp0 : decide (0 < ps.length) = false := by simp [h0]
        have hq0 : decide (0 < (ps.length : Int)) = false := by simp [h0]
        rw [hp0] at c0
        have hS2 := HS2.out
        rw [hp0] at hS2
        have HQ := Lib.hid (fun W => eEqual_any (evOf ps).z ⟨a, b, c, d, false⟩ W)
        simp only [hS2] at HQ
        have hl2 : ps.length ≤ 65536 := by omega
        clear hq0 hS2 HS2 h0
        go_wp2_with fail
        refine wp_region_calm (by kernel_rfl) (by kernel_rfl) ?_
        repeat (go_big_quiet_step ((first | (go_at_call 21; with_reducible exact calm_of (newEnvI_any _ _ _ _ (rdXY_tr hr (later_below _ _)) hl2)) | (go_at_call 20; with_reducible exact calm_of (HQ.out _)))))
        refine wpQuiet_nil ?_; intro w2 hb2
        go_wp2
        go_ret
        refine ⟨rfl, ?_⟩
        repeat' (first | (with_reducible exact bl_refl _) | (with_reducible assumption) | (with_reducible apply bl_al) | (with_reducible apply bl_dr) | (with_reducible refine bl_st ?_ ?_ _) | (with_reducible refine bl_tr ?_ (by with_reducible assumption)) | (first | (with_reducible exact Nat.le_refl _) | (with_reducible assumption) | omega | (simp; omega) | (simp; done)))
      · have hp0 : decide (0 < ps.length) = true := by simp [h0]
        have hq0 : decide (0 < (ps.length : Int)) = true := by simp; omega
        rw [hp0] at c0
        have hS2 := HS2.out
        rw [hp0] at hS2
        have HQ := Lib.hid (fun W => eEqual_any (evOf ps).z ⟨a, b, c, d, true⟩ W)
        simp only [hS2] at HQ
        have hl2 : ps.length ≤ 65536 := by omega
        clear hq0 hS2 HS2 h0
        go_wp2_with fail
        refine wp_region_calm (by kernel_rfl) (by kernel_rfl) ?_
        repeat (go_big_quiet_step ((first | (go_at_call 21; with_reducible exact calm_of (newEnvI_any _ _ _ _ (rdXY_tr hr (later_below _ _)) hl2)) | (go_at_call 20; with_reducible exact calm_of (HQ.out _)))))
        refine wpQuiet_nil ?_; intro w2 hb2
        go_wp2
        go_ret
        refine ⟨rfl, ?_⟩
        repeat' (first | (with_reducible exact bl_refl _) | (with_reducible assumption) | (with_reducible apply bl_al) | (with_reducible apply bl_dr) | (with_reducible refine bl_st ?_ ?_ _) | (with_reducible refine bl_tr ?_ (by with_reducible assumption)) | (first | (with_reducible exact Nat.le_refl _) | (with_reducible assumption) | omega | (simp; omega) | (simp; done)))

set_option maxRecDepth 100000 in
theorem fnNewEnvelopeSteps_walk {H : Type} {enc : TypeId × Value → H} {b0 : Nat} (W : World) {v0 : Value} {d0 : DataW H} {p0 : List MemPlace}
    (k0 : Value.okWide Try.prog W .any b0 26 v0) (h0 : DataW.Trod enc Try.prog W 0 (fun _ => true) true 26 v0 d0 p0) (l0 : ∀ x ∈ p0, x.block < W.heap.size) :
    Calls Try.prog 7 #[v0] W fun e w' => e = .returned (.bool true) ∧ Below W.heap.size W w' := by
  obtain ⟨A, ps, cap, rfl, hr, _⟩ := open_XYs k0 h0 l0
  rcases Nat.lt_or_ge 2147483647 ps.length with h1 | h1
  · exact steps_long A _ cap W h1
  rcases Nat.lt_or_ge 2000 ps.length with h2 | h2
  · exact steps_mid A _ cap W h1 h2
  rcases Nat.lt_or_ge 50 ps.length with h3 | h3
  · exact steps_many A cap ps W hr h2 h3
  cases hf : ps.all finXY
  · exact steps_inf A cap ps W hr h2 hf
  · exact steps_few A cap ps W hr h3 hf
end Go.Proofs.Ytomhegagdpaieaa
