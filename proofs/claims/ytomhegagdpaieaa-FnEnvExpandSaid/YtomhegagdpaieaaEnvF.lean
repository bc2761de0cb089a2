/-
  eFits; the law FnEnvExpand.
-/
import Derived.Test.YtomhegagdpaieaaEnvO
import Derived.Test.YtomhegagdpaieaaEnvPlain
import Derived.Test.YtomhegagdpaieaaSeq
namespace Go.Proofs.Ytomhegagdpaieaa
open Go.RowKit Fl

def evsOn (w : World) (b : Nat) (es : List Ev) : Prop := ∀ i e, es[i]? = some e →
  w.cell? ⟨b, i * 5, none⟩ = some (.bool e.f) ∧ w.cell? ⟨b, i * 5 + 1, none⟩ = some (.float .f64 e.a) ∧ w.cell? ⟨b, i * 5 + 1 + 1, none⟩ = some (.float .f64 e.b) ∧ w.cell? ⟨b, i * 5 + 1 + 2, none⟩ = some (.float .f64 e.c) ∧ w.cell? ⟨b, i * 5 + 1 + 3, none⟩ = some (.float .f64 e.d)
theorem fit_snoc {es : List Ev} {k : Nat} {e : Ev} (h : es[k]? = some e) (ha : (es.take k).all Ev.fit = true) : (es.take (k + 1)).all Ev.fit = e.fit := by
  have hk : k < es.length := (List.getElem?_eq_some_iff.1 h).1
  have hp : es[k] = e := by
    have := List.getElem?_eq_getElem hk
    rw [h] at this; exact (Option.some.inj this).symm
  rw [List.take_succ_eq_append_getElem hk, List.all_append, ha, hp]; simp
theorem fit_false {es : List Ev} {k : Nat} {e : Ev} (h : es[k]? = some e) (hf : e.fit = false) : es.all Ev.fit = false := by
  cases ha : es.all Ev.fit
  · rfl
  · have := List.all_eq_true.1 ha e (List.mem_of_getElem? h); rw [hf] at this; cases this
set_option maxHeartbeats 400000 in
theorem eFits_any (b cap : Nat) (es : List Ev) (w : World) (h : evsOn w b es) (hb : b < w.heap.size) (hl : es.length ≤ 2000) :
    Calls Try.prog 22 #[.slice (some ⟨b, 0, none⟩) es.length cap] w fun e w' => e = .returned (.bool (es.all Ev.fit)) ∧ Below w.heap.size w w' := by
  go_enter Try.func22, Try.ntmps22
  go_wp2
  go_loopw [7, 2, 4] (fun i _ _ wr => ∃ k : Nat, k ≤ es.length ∧ i = .int .i64 k ∧ (es.take k).all Ev.fit = true ∧ Below w.heap.size w wr) (fun i _ _ _ => es.length - (intOf i).toNat)
  case atStart => exact ⟨0, Nat.zero_le _, rfl, rfl, Below.refl _ _⟩
  case round =>
    obtain ⟨k, hk, rfl, hall, hbw⟩ := hrel
    by_cases hlt : k < es.length
    · obtain ⟨e, he⟩ : ∃ e, es[k]? = some e := ⟨_, List.getElem?_eq_getElem hlt⟩
      obtain ⟨h0, h1, h2, h3, h4⟩ := h k e he
      have c0 := (hbw.cell (p := ⟨b, k * 5, none⟩) hb).trans h0
      have c1 := (hbw.cell (p := ⟨b, k * 5 + 1, none⟩) hb).trans h1
      have c2 := (hbw.cell (p := ⟨b, k * 5 + 1 + 1, none⟩) hb).trans h2
      have c3 := (hbw.cell (p := ⟨b, k * 5 + 1 + 2, none⟩) hb).trans h3
      have c4 := (hbw.cell (p := ⟨b, k * 5 + 1 + 3, none⟩) hb).trans h4
      have HP := Lib.hid he
      have HA := Lib.hid hall
      have hsz := hbw.size
      clear he hall h0 h1 h2 h3 h4
      obtain ⟨a, b', c, d, f⟩ := e
      simp only at c0 c1 c2 c3 c4
      cases f
      · have HF := Lib.hid (show Ev.fit ⟨a, b', c, d, false⟩ = true from rfl)
        go_wp2
        go_roundw
        case rel => exact ⟨k + 1, by omega, by go_num, by rw [fit_snoc HP.out HA.out, HF.out], hbw.alloc hsz _⟩
        case measure => simp [intOf]; omega
      · cases hf : fin4 a b' c d
        · have HF := Lib.hid (show Ev.fit ⟨a, b', c, d, true⟩ = false from by simp [Ev.fit, hf])
          have HX := Lib.hid (fun W => eFinite_any a b' c d W)
          simp only [hf] at HX
          clear hf
          go_wp2_with fail; refine (HX.out _).mono ?_; rintro e w1 ⟨rfl, hb1⟩
          go_wp2
          go_ret
          refine ⟨by rw [fit_false HP.out HF.out]; rfl, ?_⟩
          repeat' (first | (with_reducible exact bl_refl _) | (with_reducible assumption) | (with_reducible apply bl_al) | (with_reducible apply bl_dr) | (with_reducible refine bl_st ?_ ?_ _) | (with_reducible refine bl_tr ?_ (by with_reducible assumption)) | (first | (with_reducible exact Nat.le_refl _) | (with_reducible assumption) | omega | (simp; omega) | (simp; done)))
        · have HF := Lib.hid (show Ev.fit ⟨a, b', c, d, true⟩ = true from by simp [Ev.fit, hf])
          have HX := Lib.hid (fun W => eFinite_any a b' c d W)
          simp only [hf] at HX
          clear hf
          go_wp2_with fail; refine (HX.out _).mono ?_; rintro e w1 ⟨rfl, hb1⟩
          go_wp2
          go_roundw
          case rel =>
            refine ⟨k + 1, by omega, by go_num, by rw [fit_snoc HP.out HA.out, HF.out], ?_⟩
            repeat' (first | (with_reducible exact bl_refl _) | (with_reducible assumption) | (with_reducible apply bl_al) | (with_reducible apply bl_dr) | (with_reducible refine bl_st ?_ ?_ _) | (with_reducible refine bl_tr ?_ (by with_reducible assumption)) | (first | (with_reducible exact Nat.le_refl _) | (with_reducible assumption) | omega | (simp; omega) | (simp; done)))
          case measure => simp [intOf]; omega
    · obtain rfl : k = es.length := by omega
      have HA : Hid (es.all Ev.fit = true) := by show es.all Ev.fit = true; rw [← hall, List.take_length]
      clear hall
      go_wp2
      go_ret
      exact ⟨by rw [HA.out]; rfl, hbw⟩
theorem eFits_two (e o : Ev) (b : Nat) (w : World) (h : evsOn w b [e, o]) (hb : b < w.heap.size) :
    Calls Try.prog 22 #[.slice (some ⟨b, 0, none⟩) 2 2] w fun r w' => r = .returned (.bool ([e, o].all Ev.fit)) ∧ Below w.heap.size w w' := eFits_any b 2 [e, o] w h hb (by simp)
theorem eFits_val {v : Bool} (e o : Ev) (hv : [e, o].all Ev.fit = v) (b : Nat) (w : World) (h : evsOn w b [e, o]) (hb : b < w.heap.size) :
    Calls Try.prog 22 #[.slice (some ⟨b, 0, none⟩) 2 2] w fun r w' => r = .returned (.bool v) ∧ Below w.heap.size w w' := hv ▸ eFits_two e o b w h hb
theorem evs_mk (e o : Ev) (W : World) (b : Nat)
    (h : (W.cell? ⟨b, 0, none⟩ = some (.bool e.f) ∧ W.cell? ⟨b, 1, none⟩ = some (.float .f64 e.a) ∧ W.cell? ⟨b, 2, none⟩ = some (.float .f64 e.b) ∧ W.cell? ⟨b, 3, none⟩ = some (.float .f64 e.c) ∧ W.cell? ⟨b, 4, none⟩ = some (.float .f64 e.d)) ∧
      (W.cell? ⟨b, 5, none⟩ = some (.bool o.f) ∧ W.cell? ⟨b, 6, none⟩ = some (.float .f64 o.a) ∧ W.cell? ⟨b, 7, none⟩ = some (.float .f64 o.b) ∧ W.cell? ⟨b, 8, none⟩ = some (.float .f64 o.c) ∧ W.cell? ⟨b, 9, none⟩ = some (.float .f64 o.d))) : evsOn W b [e, o] := by
  intro i r hr
  match i, hr with
  | 0, hr => obtain rfl : e = r := by simpa using hr
             exact h.1
  | 1, hr => obtain rfl : o = r := by simpa using hr
             exact h.2

set_option maxHeartbeats 4000000 in
set_option maxRecDepth 100000 in
/-- Not both fit: nothing is asked. -/
theorem expand_inf (e o : Ev) (w : World) (hf : [e, o].all Ev.fit = false) :
    Calls Try.prog 8 #[.agg #[.bool e.f, .float .f64 e.a, .float .f64 e.b, .float .f64 e.c, .float .f64 e.d], .agg #[.bool o.f, .float .f64 o.a, .float .f64 o.b, .float .f64 o.c, .float .f64 o.d]] w fun r w' => r = .returned (.bool true) ∧ Below w.heap.size w w' := by
  have HF := Lib.hid hf
  clear hf
  go_enter Try.func8, Try.ntmps8
  go_wp2_with fail
  refine wp_region_seq [2, 3, 8, 10, 12, 13, 14, 15] (by kernel_rfl) (by kernel_rfl) ?_
  repeat (refine sq_soft (fun K hK => ?_); go_simp; refine hK _ ?_; clear hK K)
  refine sq_heavy rfl rfl (fun K hK => ?_); go_simp; refine hK _ _ (Below.mono (bl_al (bl_refl _) _) ?_) ?_; (focus (first | (with_reducible exact Nat.le_refl _) | (with_reducible assumption) | omega | (simp; omega) | (simp; done))); clear hK K; (try simp only [Act.put, List.setIfInBounds_toArray, List.set_cons_zero, List.set_cons_succ])

  refine sq_heavy rfl rfl (fun K hK => ?_); go_simp
  refine (eFits_val e o HF.out _ _ ?_ ?_).mono ?_
  · refine evs_mk _ _ _ _ ?_; simp [go_sem]
  · simp
  rintro r w1 ⟨rfl, hb1⟩
  have hz_w1 := hb1.size; (try simp at hz_w1); have z_w1_0 : w.heap.size < w1.heap.size := (by omega); have rc_w1_0 := bl_rc hb1 (b := w.heap.size) (by (first | (with_reducible exact Nat.le_refl _) | (with_reducible assumption) | omega | (simp; omega) | (simp; done))); have rf_w1_0 := bl_rf hb1 (b := w.heap.size) (by (first | (with_reducible exact Nat.le_refl _) | (with_reducible assumption) | omega | (simp; omega) | (simp; done))); have z_w1_1 : w.heap.size + 1 < w1.heap.size := (by omega); have rc_w1_1 := bl_rc hb1 (b := w.heap.size + 1) (by (first | (with_reducible exact Nat.le_refl _) | (with_reducible assumption) | omega | (simp; omega) | (simp; done))); have rf_w1_1 := bl_rf hb1 (b := w.heap.size + 1) (by (first | (with_reducible exact Nat.le_refl _) | (with_reducible assumption) | omega | (simp; omega) | (simp; done)))
  refine ⟨_, rfl, ?_⟩; refine hK _ _ (Below.mono hb1 (by (first | (with_reducible exact Nat.le_refl _) | (with_reducible assumption) | omega | (simp; omega) | (simp; done)))) ?_; clear hK K; (try simp only [Act.put, List.setIfInBounds_toArray, List.set_cons_zero, List.set_cons_succ])
  repeat (refine sq_soft (fun K hK => ?_); go_simp; refine hK _ ?_; clear hK K)
  refine sq_nil ?_
  go_wp2
  go_ret
  refine ⟨rfl, ?_⟩
  repeat' (first | (with_reducible exact bl_refl _) | (with_reducible assumption) | (with_reducible apply bl_al) | (with_reducible apply bl_dr) | (with_reducible refine bl_st ?_ ?_ _) | (with_reducible refine bl_tr ?_ (by with_reducible assumption)) | (first | (with_reducible exact Nat.le_refl _) | (with_reducible assumption) | omega | (simp; omega) | (simp; done)))

theorem info_iXY : (Try.prog.info? 24).map (fun i => (i.zero, i.size, i.bytes)) = some (some (.agg #[.float .f64 0, .float .f64 0]), 2, 16) := by kernel_rfl
theorem one_cells : ∀ ps : List (Nat × Nat), ∀ u ∈ xyCells ps, u.oneCell' = true
  | [], u, h => by simp [xyCells] at h
  | p :: ps, u, h => by
    simp only [xyCells, List.mem_cons] at h
    rcases h with rfl | rfl | h
    · rfl
    · rfl
    · exact one_cells ps u h
theorem xyCells_append : ∀ ps qs : List (Nat × Nat), xyCells (ps ++ qs) = xyCells ps ++ xyCells qs
  | [], qs => rfl
  | p :: ps, qs => by simp [xyCells, xyCells_append ps qs]
/-- 'append(x, y...)' of two lists of the call's own. -/
theorem app_own {w : World} {base base' : Nat} {A B : Option Addr} {c c' : Nat} {ps qs : List (Nat × Nat)} (h1 : w.ownsRow base 24 2 (.slice A ps.length c) ps.length (xyCells ps)) (h2 : w.ownsRow base' 24 2 (.slice B qs.length c') qs.length (xyCells qs))
    (hb : base ≤ w.heap.size) (hn : ps.length + qs.length ≤ 65536) :
    ∃ D d w', (Builtin.append_ #[26, 26] 26 #[.slice A ps.length c, .slice B qs.length c']).run Try.prog w = .ok (.slice D (ps ++ qs).length d) w' ∧
      w'.ownsRow base 24 2 (.slice D (ps ++ qs).length d) (ps ++ qs).length (xyCells (ps ++ qs)) ∧ Below base w w' := by
  obtain ⟨i0, hi, hz0, hz1, hz2⟩ := info_parts info_iXY
  rw [xyCells_append, List.length_append]
  rcases h2.2 with ⟨hv, hm⟩ | ⟨g, cap, cur, hv, _⟩
  · obtain ⟨rfl, _, rfl⟩ : B = none ∧ qs.length = 0 ∧ c' = 0 := by simpa using hv
    have hq : qs = [] := List.eq_nil_of_length_eq_zero hm
    subst hq
    refine ⟨A, c, w, ?_, by simpa [xyCells] using h1, Below.refl _ _⟩
    rcases h1.2 with ⟨hv1, hm1⟩ | ⟨g, cap, cur, hv1, _, _, hnc, _⟩
    · obtain ⟨rfl, _, rfl⟩ : A = none ∧ ps.length = 0 ∧ c = 0 := by simpa using hv1
      rw [hm1]
      simp [Builtin.append_, run_underlying Try.underlying26, sizeOf, typeInfo, hi, Builtin.lenOf, Builtin.firstCells]
    · obtain ⟨rfl, rfl⟩ : A = some ⟨g, 0, none⟩ ∧ c = cap := by simpa using hv1
      simp [Builtin.append_, run_underlying Try.underlying26, sizeOf, typeInfo, hi, Builtin.lenOf, Builtin.firstCells, hnc, storeCells]
  · obtain ⟨rfl, rfl⟩ : B = some ⟨g, 0, none⟩ ∧ c' = cap := by simpa using hv
    obtain ⟨v', w', hr, hown, hg, hnil, _⟩ := run_append_own_at (P := Try.prog) w base 26 26 24 i0 _ 2 16 Try.underlying26 hi hz0 hz1 hz2 rfl (by omega) (.slice A ps.length c) ps.length (xyCells ps) h1
      ⟨g, 0, none⟩ qs.length c' (xyCells qs) h2.1 (h2.cells (g := g) rfl) (one_cells qs) (by unfold maxLen; omega) (by omega) hb
    have hf : ∃ D d, v' = .slice D (ps.length + qs.length) d := by
      rcases hown.2 with ⟨rfl, h0⟩ | ⟨g2, c2, cu, rfl, _⟩
      · exact ⟨none, 0, by rw [h0]⟩
      · exact ⟨_, _, rfl⟩
    obtain ⟨D, d, rfl⟩ := hf
    refine ⟨D, d, w', hr, hown, (Below.refl _ _).grown hg hb (fun k hk => ?_)⟩
    exact (h1.lt k hk).1
end Go.Proofs.Ytomhegagdpaieaa
