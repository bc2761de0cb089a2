/-
  Contracts of the envelopes of lists of places: NewEnvelope, envelope, EnvExpand, EnvExpandXY, eFinite, eFits, eCorners, eOf, eEqual.
-/
import Derived.Test.YtomhegagdpaieaaList
import Derived.Test.YtomhegagdpaieaaEnv
namespace Go.Proofs.Ytomhegagdpaieaa
open Go.RowKit Fl

/-- A list of places behind a slice's address (nil, if there are none). -/
def rdXY (w : World) (A : Option Addr) (ps : List (Nat × Nat)) : Prop := 0 < ps.length → ∃ b off, A = some ⟨b, off, none⟩ ∧ b < w.heap.size ∧ xysAt w b off ps
theorem rdXY_tr {W w1 : World} {A : Option Addr} {ps : List (Nat × Nat)} (h : rdXY W A ps) (hb : Below W.heap.size W w1) : rdXY w1 A ps := fun hp => by
  obtain ⟨b, off, e, hlt, hx⟩ := h hp
  refine ⟨b, off, e, Nat.lt_of_lt_of_le hlt hb.size, fun i p hi => ?_⟩
  obtain ⟨h1, h2⟩ := hx i p hi
  exact ⟨(hb.cell (p := ⟨b, _, none⟩) hlt).trans h1, (hb.cell (p := ⟨b, _, none⟩) hlt).trans h2⟩

structure Ev where
  a : Nat
  b : Nat
  c : Nat
  d : Nat
  f : Bool
/-- What an envelope and a place become. -/
def Ev.ex (e : Ev) (p : Nat × Nat) : Ev := ⟨emin e.f e.a p.1, emin e.f e.b p.2, emax e.f e.c p.1, emax e.f e.d p.2, true⟩
def Ev.no : Ev := ⟨0, 0, 0, 0, false⟩
def evOf (ps : List (Nat × Nat)) : Ev := ps.foldl Ev.ex Ev.no
theorem evOf_snoc {ps : List (Nat × Nat)} {k : Nat} {p : Nat × Nat} (h : ps[k]? = some p) : evOf (ps.take (k + 1)) = (evOf (ps.take k)).ex p := by
  have hk : k < ps.length := (List.getElem?_eq_some_iff.1 h).1
  have hp : ps[k] = p := by
    have := List.getElem?_eq_getElem hk
    rw [h] at this; exact (Option.some.inj this).symm
  rw [List.take_succ_eq_append_getElem hk, evOf, List.foldl_append, hp]; rfl

set_option maxHeartbeats 400000 in
theorem newEnv_any (A : Option Addr) (cap : Nat) (ps : List (Nat × Nat)) (w : World) (h : rdXY w A ps) (hl : ps.length ≤ maxLen) :
    Calls Try.prog 43 #[.slice A ps.length cap] w fun e w' => e = .returned (.agg #[.float .f64 (evOf ps).a, .float .f64 (evOf ps).b, .float .f64 (evOf ps).c, .float .f64 (evOf ps).d, .bool (evOf ps).f]) ∧ Below w.heap.size w w' := by
  unfold maxLen at hl
  go_enter Try.func43, Try.ntmps43
  go_wp2
  go_loopw [8, 5] (fun i _ wr => ∃ k : Nat, k ≤ ps.length ∧ i = .int .i64 k ∧ Below w.heap.size w wr ∧ wr.heap.size > w.heap.size + 1 ∧ Blk wr w.heap.size 81 #[.float .f64 0, .float .f64 0, .float .f64 0, .float .f64 0, .bool false] ∧ Blk wr (w.heap.size + 1) 81 #[.float .f64 (evOf (ps.take k)).a, .float .f64 (evOf (ps.take k)).b, .float .f64 (evOf (ps.take k)).c, .float .f64 (evOf (ps.take k)).d, .bool (evOf (ps.take k)).f]) (fun i _ _ => ps.length - (intOf i).toNat)
  case atStart =>
    refine ⟨0, Nat.zero_le _, rfl, ?_, by simp, ?_, ?_⟩
    · repeat' (first | (with_reducible exact bl_refl _) | (with_reducible assumption) | (with_reducible apply bl_al) | (with_reducible apply bl_dr) | (with_reducible refine bl_st ?_ ?_ _) | (with_reducible refine bl_tr ?_ (by with_reducible assumption)) | (first | (with_reducible exact Nat.le_refl _) | (with_reducible assumption) | omega | (simp; omega) | (simp; done)))
    · exact blk_al (blk_new _ _ _) _
    · exact blk_at _ _ _ (by simp)
  case round =>
    obtain ⟨k, hk, rfl, hbw, hsz, hB0, hB1⟩ := hrel
    by_cases hlt : k < ps.length
    · obtain ⟨p, hp⟩ : ∃ p, ps[k]? = some p := ⟨_, List.getElem?_eq_getElem hlt⟩
      obtain ⟨b, off, rfl, hb, hx⟩ := h (by omega)
      obtain ⟨hx, hy⟩ := hx k p hp
      have hx' := (hbw.cell (p := ⟨b, off + k * 2, none⟩) hb).trans hx
      have hy' := (hbw.cell (p := ⟨b, off + k * 2 + 1, none⟩) hb).trans hy
      have HS := Lib.hid (evOf_snoc hp)
      clear hp hx hy
      generalize evOf (ps.take k) = ev at *
      have c0 := blk_cell hB1 0
      have c1 := blk_cell hB1 1
      have c2 := blk_cell hB1 2
      have c3 := blk_cell hB1 3
      have c4 := blk_cell hB1 4
      simp at c0 c1 c2 c3 c4
      go_wp2_with fail; refine (expandXY_any _ _ _ _ _ _ _ _).mono ?_; rintro e w1 ⟨rfl, hb1⟩
      have hB1' := blk_tr (blk_al hB1 (.cells #[.float .f64 p.1, .float .f64 p.2] 56)) hb1
      have hB0' := blk_tr (blk_al hB0 (.cells #[.float .f64 p.1, .float .f64 p.2] 56)) hb1
      have e0 := blk_cell hB1' 0
      have e1 := blk_cell hB1' 1
      have e2 := blk_cell hB1' 2
      have e3 := blk_cell hB1' 3
      have e4 := blk_cell hB1' 4
      simp at e0 e1 e2 e3 e4
      have hf := fun i => blk_frozen hB1' i
      have hz := hb1.size
      simp only [World.size_alloc] at hz
      go_wp2
      go_roundw
      case rel =>
        refine ⟨k + 1, by omega, by go_num, ?_, ?_, ?_, ?_⟩
        · repeat' (first | (with_reducible exact bl_refl _) | (with_reducible assumption) | (with_reducible apply bl_al) | (with_reducible apply bl_dr) | (with_reducible refine bl_st ?_ ?_ _) | (with_reducible refine bl_tr ?_ (by with_reducible assumption)) | (first | (with_reducible exact Nat.le_refl _) | (with_reducible assumption) | omega | (simp; omega) | (simp; done)))
        · simp; omega
        · repeat (refine blk_far ?_ (by simp) _)
          exact hB0'
        · rw [HS.out]
          have := blk_set (blk_set (blk_set (blk_set (blk_set hB1' 0 (.float .f64 (emin ev.f ev.a p.1))) 1 (.float .f64 (emin ev.f ev.b p.2))) 2 (.float .f64 (emax ev.f ev.c p.1))) 3 (.float .f64 (emax ev.f ev.d p.2))) 4 (.bool true)
          simpa [Ev.ex] using this
      case measure => simp [intOf]; omega
    · obtain rfl : k = ps.length := by omega
      rw [List.take_length] at hB1
      obtain ⟨ev, hev⟩ : ∃ ev, evOf ps = ev := ⟨_, rfl⟩
      rw [hev] at hB1
      have HE := Lib.hid hev
      clear hev
      have c0 := blk_cell hB1 0
      have c1 := blk_cell hB1 1
      have c2 := blk_cell hB1 2
      have c3 := blk_cell hB1 3
      have c4 := blk_cell hB1 4
      have d0 := blk_cell hB0 0
      have d1 := blk_cell hB0 1
      have d2 := blk_cell hB0 2
      have d3 := blk_cell hB0 3
      have d4 := blk_cell hB0 4
      simp at c0 c1 c2 c3 c4 d0 d1 d2 d3 d4
      have hf := fun i => blk_frozen hB0 i
      go_wp2
      refine bodyPost_ret (v := .agg #[.float .f64 ev.a, .float .f64 ev.b, .float .f64 ev.c, .float .f64 ev.d, .bool ev.f]) (by simp [results, Try.results43, go_sem, d0, d1, d2, d3, d4]) rfl ⟨by rw [HE.out], ?_⟩
      repeat' (first | (with_reducible exact bl_refl _) | (with_reducible assumption) | (with_reducible apply bl_al) | (with_reducible apply bl_dr) | (with_reducible refine bl_st ?_ ?_ _) | (with_reducible refine bl_tr ?_ (by with_reducible assumption)) | (first | (with_reducible exact Nat.le_refl _) | (with_reducible assumption) | omega | (simp; omega) | (simp; done)))

/-- The box of two corners. -/
theorem envelope_none (a b c d : Nat) (w : World) :
    Calls Try.prog 41 #[.agg #[.bool false, .float .f64 a, .float .f64 b, .float .f64 c, .float .f64 d]] w fun e w' => e = .returned (.agg #[.float .f64 0, .float .f64 0, .float .f64 0, .float .f64 0, .bool false]) ∧ Below w.heap.size w w' := by
  go_enter Try.func41, Try.ntmps41
  go_wp2
  refine bodyPost_ret (v := .agg #[.float .f64 0, .float .f64 0, .float .f64 0, .float .f64 0, .bool false]) (by simp [results, Try.results41, go_sem]) rfl ⟨rfl, ?_⟩
  repeat' (first | (with_reducible exact bl_refl _) | (with_reducible assumption) | (with_reducible apply bl_al) | (with_reducible apply bl_dr) | (with_reducible refine bl_st ?_ ?_ _) | (with_reducible refine bl_tr ?_ (by with_reducible assumption)) | (first | (with_reducible exact Nat.le_refl _) | (with_reducible assumption) | omega | (simp; omega) | (simp; done)))
theorem newEnv_two (p q : Nat × Nat) (b : Nat) (w : World) (h : xysAt w b 0 [p, q]) (hb : b < w.heap.size) :
    Calls Try.prog 43 #[.slice (some ⟨b, 0, none⟩) 2 2] w fun e w' => e = .returned (.agg #[.float .f64 (fmin p.1 q.1), .float .f64 (fmin p.2 q.2), .float .f64 (fmax p.1 q.1), .float .f64 (fmax p.2 q.2), .bool true]) ∧ Below w.heap.size w w' :=
  newEnv_any (some ⟨b, 0, none⟩) 2 [p, q] w (fun _ => ⟨b, 0, rfl, hb, h⟩) (by simp [maxLen])
theorem two_at (p q : Nat × Nat) (W : World) (t : TypeId) (b : Nat) (hb : b = W.heap.size) : xysAt (W.alloc (.cells #[.float .f64 p.1, .float .f64 p.2, .float .f64 q.1, .float .f64 q.2] t)) b 0 [p, q] := by
  subst hb
  intro i r hr
  match i, hr with
  | 0, hr => obtain rfl : p = r := by simpa using hr
             simp [go_sem]
  | 1, hr => obtain rfl : q = r := by simpa using hr
             simp [go_sem]
set_option maxHeartbeats 400000 in
theorem envelope_full (a b c d : Nat) (w : World) :
    Calls Try.prog 41 #[.agg #[.bool true, .float .f64 a, .float .f64 b, .float .f64 c, .float .f64 d]] w fun e w' => e = .returned (.agg #[.float .f64 (fmin a c), .float .f64 (fmin b d), .float .f64 (fmax a c), .float .f64 (fmax b d), .bool true]) ∧ Below w.heap.size w w' := by
  go_enter Try.func41, Try.ntmps41
  go_wp2_with fail
  refine (newEnv_two (a, b) (c, d) _ _ ?_ ?_).mono ?_
  · exact two_at (a, b) (c, d) _ _ _ (by simp)
  · simp
  rintro e w1 ⟨rfl, hb1⟩
  have hz_w1 := hb1.size; (try simp at hz_w1); have z_w1_0 : w.heap.size < w1.heap.size := (by omega); have rc_w1_0 := bl_rc hb1 (b := w.heap.size) (by (first | (with_reducible exact Nat.le_refl _) | (with_reducible assumption) | omega | (simp; omega) | (simp; done))); have rf_w1_0 := bl_rf hb1 (b := w.heap.size) (by (first | (with_reducible exact Nat.le_refl _) | (with_reducible assumption) | omega | (simp; omega) | (simp; done))); have z_w1_1 : w.heap.size + 1 < w1.heap.size := (by omega); have rc_w1_1 := bl_rc hb1 (b := w.heap.size + 1) (by (first | (with_reducible exact Nat.le_refl _) | (with_reducible assumption) | omega | (simp; omega) | (simp; done))); have rf_w1_1 := bl_rf hb1 (b := w.heap.size + 1) (by (first | (with_reducible exact Nat.le_refl _) | (with_reducible assumption) | omega | (simp; omega) | (simp; done)))
  go_wp2
  refine bodyPost_ret (v := .agg #[.float .f64 (fmin a c), .float .f64 (fmin b d), .float .f64 (fmax a c), .float .f64 (fmax b d), .bool true]) (by simp [results, Try.results41, go_sem, *]) rfl ⟨rfl, ?_⟩
  repeat' (first | (with_reducible exact bl_refl _) | (with_reducible assumption) | (with_reducible apply bl_al) | (with_reducible apply bl_dr) | (with_reducible refine bl_st ?_ ?_ _) | (with_reducible refine bl_tr ?_ (by with_reducible assumption)) | (first | (with_reducible exact Nat.le_refl _) | (with_reducible assumption) | omega | (simp; omega) | (simp; done)))
end Go.Proofs.Ytomhegagdpaieaa
