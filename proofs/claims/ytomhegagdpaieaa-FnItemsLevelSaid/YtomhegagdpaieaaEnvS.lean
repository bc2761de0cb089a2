/-
  Contracts: lists of places copied (xys), impl.NewEnvelope, eList whatever the slice.
-/
import Derived.Test.YtomhegagdpaieaaEnvE
namespace Go.Proofs.Ytomhegagdpaieaa
open Go.RowKit Fl

/-- The cells of a list of places. -/
def xysIn (cs : Array Value) (ps : List (Nat × Nat)) : Prop := ∀ i p, ps[i]? = some p → cs[i * 2]? = some (.float .f64 p.1) ∧ cs[i * 2 + 1]? = some (.float .f64 p.2)
theorem blk_xys {w : World} {g : Nat} {t : TypeId} {cs : Array Value} {ps : List (Nat × Nat)} (h : Blk w g t cs) (hi : xysIn cs ps) : xysAt w g 0 ps := fun i p hp => by
  obtain ⟨h1, h2⟩ := hi i p hp
  exact ⟨by rw [Nat.zero_add, blk_cell h]; exact h1, by rw [Nat.zero_add, blk_cell h]; exact h2⟩
theorem xysIn_snoc {cs : Array Value} {ps : List (Nat × Nat)} {k : Nat} {p : Nat × Nat} (hp : ps[k]? = some p) (hs : k * 2 + 1 < cs.size) (h : xysIn cs (ps.take k)) :
    xysIn ((cs.setIfInBounds (k * 2) (.float .f64 p.1)).setIfInBounds (k * 2 + 1) (.float .f64 p.2)) (ps.take (k + 1)) := by
  intro i q hq
  have hi : i < k + 1 := by
    have := (List.getElem?_eq_some_iff.1 hq).1
    simp at this; omega
  by_cases e : i = k
  · subst e
    have : q = p := by
      rw [List.getElem?_take_of_lt (by omega), hp] at hq; exact (Option.some.inj hq).symm
    subst this
    constructor
    · rw [Array.getElem?_setIfInBounds_ne (by omega), Array.getElem?_setIfInBounds_self_of_lt (by omega)]
    · rw [Array.getElem?_setIfInBounds_self_of_lt (by simp; omega)]
  · have hq' : (ps.take k)[i]? = some q := by
      rw [List.getElem?_take_of_lt (by omega)] at hq ⊢; exact hq
    obtain ⟨h1, h2⟩ := h i q hq'
    constructor
    · rw [Array.getElem?_setIfInBounds_ne (by omega), Array.getElem?_setIfInBounds_ne (by omega)]; exact h1
    · rw [Array.getElem?_setIfInBounds_ne (by omega), Array.getElem?_setIfInBounds_ne (by omega)]; exact h2

theorem info_gXY : (Try.prog.info? 56).map (fun i => (i.zero, i.size, i.bytes)) = some (some (.agg #[.float .f64 0, .float .f64 0]), 2, 16) := by kernel_rfl
theorem make_gXY (n : Nat) (hn : n ≤ 65536) (W : World) :
    (Instr.makeSlice 85 (.int .i64 (n : Int)) (.int .i64 (n : Int))).run Try.prog W = .ok (.slice (some ⟨W.heap.size, 0, none⟩) n n) (W.alloc (.cells (madeCells #[.float .f64 0, .float .f64 0] (n * 2)) 56)) := by
  obtain ⟨i0, hi, hz0, hz1, hz2⟩ := info_parts info_gXY
  have := run_make W 85 56 i0 _ Try.underlying85 hi hz0 .i64 .i64 (n : Int) (n : Int) (by omega) (by omega) (by rw [hz2]; omega) (by omega)
  rw [hz1] at this
  simp only [Int.toNat_natCast] at this
  exact this

set_option maxHeartbeats 400000 in
theorem xys_any (A : Option Addr) (cap : Nat) (ps : List (Nat × Nat)) (w : World) (h : rdXY w A ps) (hl : ps.length ≤ 65536) :
    Calls Try.prog 44 #[.slice A ps.length cap] w fun e w' => ∃ g, e = .returned (.slice (some ⟨g, 0, none⟩) ps.length ps.length) ∧ g < w'.heap.size ∧ xysAt w' g 0 ps ∧ Below w.heap.size w w' := by
  have hmk := make_gXY ps.length hl
  go_enter Try.func44, Try.ntmps44
  go_wp2
  clear hmk
  go_loopw [11, 4, 5] (fun i _ _ wr => ∃ k : Nat, k ≤ ps.length ∧ i = .int .i64 k ∧ Below w.heap.size w wr ∧ ∃ cs, Blk wr w.heap.size 56 cs ∧ cs.size = ps.length * 2 ∧ xysIn cs (ps.take k)) (fun i _ _ _ => ps.length - (intOf i).toNat)
  case atStart =>
    refine ⟨0, Nat.zero_le _, rfl, ?_, _, blk_new _ _ _, size_madeCells _ _, ?_⟩
    · repeat' (first | (with_reducible exact bl_refl _) | (with_reducible assumption) | (with_reducible apply bl_al) | (with_reducible apply bl_dr) | (with_reducible refine bl_st ?_ ?_ _) | (with_reducible refine bl_tr ?_ (by with_reducible assumption)) | (first | (with_reducible exact Nat.le_refl _) | (with_reducible assumption) | omega | (simp; omega) | (simp; done)))
    · intro i p hp; simp at hp
  case round =>
    obtain ⟨k, hk, rfl, hbw, cs, hB, hcs, hin⟩ := hrel
    by_cases hlt : k < ps.length
    · obtain ⟨p, hp⟩ : ∃ p, ps[k]? = some p := ⟨_, List.getElem?_eq_getElem hlt⟩
      obtain ⟨b, off, rfl, hb, hx⟩ := h (by omega)
      obtain ⟨hx, hy⟩ := hx k p hp
      have hx' := (hbw.cell (p := ⟨b, off + k * 2, none⟩) hb).trans hx
      have hy' := (hbw.cell (p := ⟨b, off + k * 2 + 1, none⟩) hb).trans hy
      have HS := Lib.hid (xysIn_snoc hp (by omega) hin)
      have HC := Lib.hid hcs
      have hlc : k * 2 + 1 < cs.size := by omega
      clear hp hx hy hin hcs
      go_wp2_with fail; refine (xy_any _ _).mono ?_; rintro e w1 ⟨rfl, hb1⟩
      have hB1 := blk_tr (blk_al hB (.cells #[.float .f64 p.1, .float .f64 p.2] 24)) hb1
      have hf := fun i => blk_frozen hB1 i
      have hc0 : w1.cell? ⟨w.heap.size, k * 2, none⟩ = some (cs[k * 2]'(by omega)) := by rw [blk_cell hB1]; exact Array.getElem?_eq_getElem _
      have hc1 : w1.cell? ⟨w.heap.size, k * 2 + 1, none⟩ = some (cs[k * 2 + 1]'(by omega)) := by rw [blk_cell hB1]; exact Array.getElem?_eq_getElem _
      go_wp2
      go_roundw
      case rel =>
        refine ⟨k + 1, by omega, by go_num, ?_, _, blk_set (blk_set hB1 _ _) _ _, ?_, HS.out⟩
        · repeat' (first | (with_reducible exact bl_refl _) | (with_reducible assumption) | (with_reducible apply bl_al) | (with_reducible apply bl_dr) | (with_reducible refine bl_st ?_ ?_ _) | (with_reducible refine bl_tr ?_ (by with_reducible assumption)) | (first | (with_reducible exact Nat.le_refl _) | (with_reducible assumption) | omega | (simp; omega) | (simp; done)))
        · simp; exact HC.out
      case measure => simp [intOf]; omega
    · obtain rfl : k = ps.length := by omega
      rw [List.take_length] at hin
      go_wp2
      go_ret
      exact ⟨_, rfl, blk_lt hB, blk_xys hB hin, hbw⟩

theorem newEnvI_any (A : Option Addr) (cap : Nat) (ps : List (Nat × Nat)) (w : World) (h : rdXY w A ps) (hl : ps.length ≤ 65536) :
    Calls Try.prog 21 #[.slice A ps.length cap] w fun r w' => r = .returned (.agg #[.bool (evOf ps).z.f, .float .f64 (evOf ps).z.a, .float .f64 (evOf ps).z.b, .float .f64 (evOf ps).z.c, .float .f64 (evOf ps).z.d]) ∧ Below w.heap.size w w' := by
  go_enter Try.func21, Try.ntmps21
  go_wp2_with fail
  refine (xys_any A cap ps _ ?_ hl).mono ?_
  · exact rdXY_tr h (bl_al (bl_refl _) _)
  rintro e w1 ⟨g, rfl, hg, hx, hb1⟩
  have hz_w1 := hb1.size; (try simp at hz_w1); have z_w1_0 : w.heap.size < w1.heap.size := (by omega); have rc_w1_0 := bl_rc hb1 (b := w.heap.size) (by (first | (with_reducible exact Nat.le_refl _) | (with_reducible assumption) | omega | (simp; omega) | (simp; done))); have rf_w1_0 := bl_rf hb1 (b := w.heap.size) (by (first | (with_reducible exact Nat.le_refl _) | (with_reducible assumption) | omega | (simp; omega) | (simp; done)))
  go_wp2_with fail
  refine (newEnv_any (some ⟨g, 0, none⟩) ps.length ps _ (fun _ => ⟨g, 0, rfl, hg, hx⟩) (by unfold maxLen; omega)).mono ?_
  rintro e w2 ⟨rfl, hb2⟩
  have hz_w2 := hb2.size; (try simp at hz_w2); have z_w2_0 : w.heap.size < w2.heap.size := (by omega); have rc_w2_0 := bl_rc hb2 (b := w.heap.size) (by (first | (with_reducible exact Nat.le_refl _) | (with_reducible assumption) | omega | (simp; omega) | (simp; done))); have rf_w2_0 := bl_rf hb2 (b := w.heap.size) (by (first | (with_reducible exact Nat.le_refl _) | (with_reducible assumption) | omega | (simp; omega) | (simp; done)))
  go_wp2_with fail; refine (plainEnv_ev _ _).mono ?_; rintro e w3 ⟨rfl, hb3⟩; have hz_w3 := hb3.size; (try simp at hz_w3); have z_w3_0 : w.heap.size < w3.heap.size := (by omega); have rc_w3_0 := bl_rc hb3 (b := w.heap.size) (by (first | (with_reducible exact Nat.le_refl _) | (with_reducible assumption) | omega | (simp; omega) | (simp; done))); have rf_w3_0 := bl_rf hb3 (b := w.heap.size) (by (first | (with_reducible exact Nat.le_refl _) | (with_reducible assumption) | omega | (simp; omega) | (simp; done)))
  obtain ⟨ev, hev⟩ : ∃ ev, (evOf ps).z = ev := ⟨_, rfl⟩
  rw [hev]
  have HE := Lib.hid hev
  clear hev
  go_wp2
  refine bodyPost_ret (v := .agg #[.bool ev.f, .float .f64 ev.a, .float .f64 ev.b, .float .f64 ev.c, .float .f64 ev.d]) (by simp [results, Try.results21, go_sem, *]) rfl ⟨by rw [HE.out], ?_⟩
  repeat' (first | (with_reducible exact bl_refl _) | (with_reducible assumption) | (with_reducible apply bl_al) | (with_reducible apply bl_dr) | (with_reducible refine bl_st ?_ ?_ _) | (with_reducible refine bl_tr ?_ (by with_reducible assumption)) | (first | (with_reducible exact Nat.le_refl _) | (with_reducible assumption) | omega | (simp; omega) | (simp; done)))

theorem eList_A (A : Option Addr) (cap : Nat) (ps : List (Nat × Nat)) (w : World) (h : rdXY w A ps) (hl : ps.length ≤ 2000) :
    Calls Try.prog 9 #[.slice A ps.length cap] w fun e w' => e = .returned (.bool (ps.all finXY)) ∧ Below w.heap.size w w' := by
  cases ps with
  | nil =>
    go_enter Try.func9, Try.ntmps9
    go_wp2
    refine wp_loop_rounds 1 ?_
    rw [rounds_succ]
    go_wp2
    go_ret
    exact ⟨rfl, bl_refl _⟩
  | cons p r =>
    obtain ⟨b, off, rfl, hb, hx⟩ := h (by simp)
    exact eList_any b off cap (p :: r) w hx hb hl
theorem eList_long (A : Option Addr) (n cap : Nat) (w : World) (hl : 2000 < n) :
    Calls Try.prog 9 #[.slice A n cap] w fun e w' => e = .returned (.bool false) ∧ Below w.heap.size w w' := by
  have hd : decide (2000 < (n : Int)) = true := by simp; omega
  go_enter Try.func9, Try.ntmps9
  go_wp2
  go_ret
  exact ⟨rfl, bl_refl _⟩
end Go.Proofs.Ytomhegagdpaieaa
