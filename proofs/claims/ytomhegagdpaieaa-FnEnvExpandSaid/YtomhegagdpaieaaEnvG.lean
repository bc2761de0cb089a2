/-
  The law FnEnvExpand: where both envelopes have finite ends.
-/
import Derived.Test.YtomhegagdpaieaaEnvF
import Derived.Test.YtomhegagdpaieaaOpen
import Derived.Lib.SmallJoins
import Derived.Deep.Slices
import Derived.Deep.Fields
namespace Go.Proofs.Ytomhegagdpaieaa
open Go.RowKit Fl

theorem sel_lt {x y : Nat} (hx : fin x = true) (hy : fin y = true) : fin (if flt x y then x else y) = true ∧ key (if flt x y then x else y) = if key x < key y then key x else key y := by
  rw [flt_fin hx hy]
  by_cases h : key x < key y <;> simp [h, hx, hy]
theorem sel_gt {x y : Nat} (hx : fin x = true) (hy : fin y = true) : fin (if fgt x y then x else y) = true ∧ key (if fgt x y then x else y) = if key y < key x then key x else key y := by
  rw [fgt_fin hx hy]
  by_cases h : key y < key x <;> simp [h, hx, hy]
theorem feq_of {x y : Nat} (hx : fin x = true) (hy : fin y = true) (h : key x = key y) : feq x y = true := by rw [feq_fin hx hy]; simp [h]
theorem same_two {a b c d : Nat} (ha : fin a = true) (hb : fin b = true) (hc : fin c = true) (hd : fin d = true) :
    Ev.same ⟨fmin a c, fmin b d, fmax a c, fmax b d, true⟩ (stOf [(a, b), (c, d)]) = true := by
  have m1 := fmin_key ha hc
  have m2 := fmin_key hb hd
  have m3 := fmax_key ha hc
  have m4 := fmax_key hb hd
  have s1 := sel_lt hc ha
  have s2 := sel_lt hd hb
  have s3 := sel_gt hc ha
  have s4 := sel_gt hd hb
  simp only [stOf, List.foldl_cons, List.foldl_nil, Ev.st, Ev.no, Ev.same, Bool.false_eq_true, if_false, if_true, Bool.and_true, Bool.true_and]
  rw [feq_of m1.1 s1.1 (by rw [m1.2, s1.2]; split <;> split <;> omega), feq_of m2.1 s2.1 (by rw [m2.2, s2.2]; split <;> split <;> omega),
    feq_of m3.1 s3.1 (by rw [m3.2, s3.2]; split <;> split <;> omega), feq_of m4.1 s4.1 (by rw [m4.2, s4.2]; split <;> split <;> omega)]
  rfl
theorem same_four {a b c d a' b' c' d' : Nat} (ha : fin a = true) (hb : fin b = true) (hc : fin c = true) (hd : fin d = true) (ha' : fin a' = true) (hb' : fin b' = true) (hc' : fin c' = true) (hd' : fin d' = true) :
    Ev.same ⟨fmin (fmin a c) (fmin a' c'), fmin (fmin b d) (fmin b' d'), fmax (fmax a c) (fmax a' c'), fmax (fmax b d) (fmax b' d'), true⟩ (stOf [(a, b), (c, d), (a', b'), (c', d')]) = true := by
  have m1 := fmin_key ha hc
  have m2 := fmin_key hb hd
  have m3 := fmax_key ha hc
  have m4 := fmax_key hb hd
  have m1' := fmin_key ha' hc'
  have m2' := fmin_key hb' hd'
  have m3' := fmax_key ha' hc'
  have m4' := fmax_key hb' hd'
  have n1 := fmin_key m1.1 m1'.1
  have n2 := fmin_key m2.1 m2'.1
  have n3 := fmax_key m3.1 m3'.1
  have n4 := fmax_key m4.1 m4'.1
  have s1 := sel_lt hc ha
  have s2 := sel_lt hd hb
  have s3 := sel_gt hc ha
  have s4 := sel_gt hd hb
  have t1 := sel_lt ha' s1.1
  have t2 := sel_lt hb' s2.1
  have t3 := sel_gt ha' s3.1
  have t4 := sel_gt hb' s4.1
  have u1 := sel_lt hc' t1.1
  have u2 := sel_lt hd' t2.1
  have u3 := sel_gt hc' t3.1
  have u4 := sel_gt hd' t4.1
  simp only [stOf, List.foldl_cons, List.foldl_nil, Ev.st, Ev.no, Ev.same, Bool.false_eq_true, if_false, if_true, Bool.and_true, Bool.true_and]
  have e1 := feq_of n1.1 u1.1 (by rw [n1.2, m1.2, m1'.2, u1.2, t1.2, s1.2]; repeat' split
                                  all_goals omega)
  have e2 := feq_of n2.1 u2.1 (by rw [n2.2, m2.2, m2'.2, u2.2, t2.2, s2.2]; repeat' split
                                  all_goals omega)
  have e3 := feq_of n3.1 u3.1 (by rw [n3.2, m3.2, m3'.2, u3.2, t3.2, s3.2]; repeat' split
                                  all_goals omega)
  have e4 := feq_of n4.1 u4.1 (by rw [n4.2, m4.2, m4'.2, u4.2, t4.2, s4.2]; repeat' split
                                  all_goals omega)
  rw [e1, e2, e3, e4]
  rfl
theorem fit_true {e : Ev} (h : e.fit = true) (hf : e.f = true) : fin e.a = true ∧ fin e.b = true ∧ fin e.c = true ∧ fin e.d = true := by
  simp only [Ev.fit, hf, fin4, Bool.not_true, Bool.false_or, Bool.and_eq_true] at h
  exact ⟨h.1.1.1, h.1.1.2, h.1.2, h.2⟩
theorem expand_same (e o : Ev) (he : e.fit = true) (ho : o.fit = true) :
    ((envC e.f e.a e.b e.c e.d).join (envC o.f o.a o.b o.c o.d)).z.same (stOf (corners e.f e.a e.b e.c e.d ++ corners o.f o.a o.b o.c o.d)) = true := by
  obtain ⟨a, b, c, d, f⟩ := e
  obtain ⟨a', b', c', d', f'⟩ := o
  cases f <;> cases f'
  · rfl
  · obtain ⟨h1, h2, h3, h4⟩ := fit_true ho rfl
    exact same_two h1 h2 h3 h4
  · obtain ⟨h1, h2, h3, h4⟩ := fit_true he rfl
    exact same_two h1 h2 h3 h4
  · obtain ⟨h1, h2, h3, h4⟩ := fit_true he rfl
    obtain ⟨g1, g2, g3, g4⟩ := fit_true ho rfl
    exact same_four h1 h2 h3 h4 g1 g2 g3 g4

theorem eEqual_val {v : Bool} {e o : Ev} (h : e.same o = v) (w : World) :
    Calls Try.prog 20 #[.agg #[.bool e.f, .float .f64 e.a, .float .f64 e.b, .float .f64 e.c, .float .f64 e.d], .agg #[.bool o.f, .float .f64 o.a, .float .f64 o.b, .float .f64 o.c, .float .f64 o.d]] w fun r w' => r = .returned (.bool v) ∧ Below w.heap.size w w' := h ▸ eEqual_any e o w
theorem own_tr {w w1 : World} {base n : Nat} {t : TypeId} {sz : Nat} {v : Value} {xs : List Value} (h : w.ownsRow base t sz v n xs) (hb : Below w.heap.size w w1) : w1.ownsRow base t sz v n xs :=
  h.kept (row := none) ⟨hb.os, hb.tape, hb.output, hb.size, fun i hi _ => hb.block i hi⟩ (by cases v.ownBlock <;> simp)
theorem corners_le (f : Bool) (a b c d : Nat) : (corners f a b c d).length ≤ 2 := by cases f <;> simp [corners]
set_option maxHeartbeats 2000000 in
set_option maxRecDepth 100000 in
theorem expand_fit (e o : Ev) (w : World) (hf : [e, o].all Ev.fit = true) :
    Calls Try.prog 8 #[.agg #[.bool e.f, .float .f64 e.a, .float .f64 e.b, .float .f64 e.c, .float .f64 e.d], .agg #[.bool o.f, .float .f64 o.a, .float .f64 o.b, .float .f64 o.c, .float .f64 o.d]] w fun r w' => r = .returned (.bool true) ∧ Below w.heap.size w w' := by
  have hfe : e.fit = true ∧ o.fit = true := by simpa using hf
  have HS := Lib.hid (expand_same e o hfe.1 hfe.2)
  have HF := Lib.hid hf
  clear hf hfe
  go_enter Try.func8, Try.ntmps8
  go_wp2_with fail
  refine wp_region_seq [2, 3, 8, 10, 12, 13, 14, 15] (by kernel_rfl) (by kernel_rfl) ?_
  repeat (refine sq_soft (fun K hK => ?_); go_simp; refine hK _ ?_; clear hK K)
  refine sq_heavy rfl rfl (fun K hK => ?_); go_simp; refine hK _ _ (Below.mono (bl_al (bl_refl _) _) ?_) ?_; (focus (first | (with_reducible exact Nat.le_refl _) | (with_reducible assumption) | omega | (simp; omega) | (simp; done))); clear hK K; (try simp only [Act.put, List.setIfInBounds_toArray, List.set_cons_zero, List.set_cons_succ])
  refine sq_heavy rfl rfl (fun K hK => ?_); go_simp
  refine (eFits_val e o HF.out _ _ ?_ ?_).mono ?_
  · refine evs_mk _ _ _ _ ?_; simp [go_sem]
  · simp
  rintro r w1 ⟨rfl, hb1⟩
  have hz_w1 := hb1.size; (try simp at hz_w1); have z_w1_0 : w.heap.size < w1.heap.size := (by omega); have rc_w1_0 := bl_rc hb1 (b := w.heap.size) (by (first | (with_reducible exact Nat.le_refl _) | (with_reducible assumption) | omega | (simp; omega) | (simp; done))); have rf_w1_0 := bl_rf hb1 (b := w.heap.size) (by (first | (with_reducible exact Nat.le_refl _) | (with_reducible assumption) | omega | (simp; omega) | (simp; done))); have z_w1_1 : w.heap.size + 1 < w1.heap.size := (by omega); have rc_w1_1 := bl_rc hb1 (b := w.heap.size + 1) (by (first | (with_reducible exact Nat.le_refl _) | (with_reducible assumption) | omega | (simp; omega) | (simp; done))); have rf_w1_1 := bl_rf hb1 (b := w.heap.size + 1) (by (first | (with_reducible exact Nat.le_refl _) | (with_reducible assumption) | omega | (simp; omega) | (simp; done)))
  refine ⟨_, rfl, ?_⟩; refine hK _ _ (Below.mono hb1 (by (first | (with_reducible exact Nat.le_refl _) | (with_reducible assumption) | omega | (simp; omega) | (simp; done)))) ?_; clear hK K; (try simp only [Act.put, List.setIfInBounds_toArray, List.set_cons_zero, List.set_cons_succ])
  repeat (refine sq_soft (fun K hK => ?_); go_simp; refine hK _ ?_; clear hK K)
  refine sq_heavy rfl rfl (fun K hK => ?_); go_simp; refine (envExpand_any _ _ _ _ _ _ _ _ _ _ _).mono ?_; rintro e w2 ⟨rfl, hb2⟩; have hz_w2 := hb2.size; (try simp at hz_w2); have z_w2_0 : w.heap.size < w2.heap.size := (by omega); have rc_w2_0 := bl_rc hb2 (b := w.heap.size) (by (first | (with_reducible exact Nat.le_refl _) | (with_reducible assumption) | omega | (simp; omega) | (simp; done))); have rf_w2_0 := bl_rf hb2 (b := w.heap.size) (by (first | (with_reducible exact Nat.le_refl _) | (with_reducible assumption) | omega | (simp; omega) | (simp; done))); have z_w2_1 : w.heap.size + 1 < w2.heap.size := (by omega); have rc_w2_1 := bl_rc hb2 (b := w.heap.size + 1) (by (first | (with_reducible exact Nat.le_refl _) | (with_reducible assumption) | omega | (simp; omega) | (simp; done))); have rf_w2_1 := bl_rf hb2 (b := w.heap.size + 1) (by (first | (with_reducible exact Nat.le_refl _) | (with_reducible assumption) | omega | (simp; omega) | (simp; done))); refine ⟨_, rfl, ?_⟩; refine hK _ _ (Below.mono hb2 (by (first | (with_reducible exact Nat.le_refl _) | (with_reducible assumption) | omega | (simp; omega) | (simp; done)))) ?_; clear hK K; (try simp only [Act.put, List.setIfInBounds_toArray, List.set_cons_zero, List.set_cons_succ])
  repeat (refine sq_soft (fun K hK => ?_); go_simp; refine hK _ ?_; clear hK K)
  refine sq_heavy rfl rfl (fun K hK => ?_); go_simp
  refine (eCorners_any _ _ _ _ _ _).mono ?_
  rintro r w3 ⟨A, c, rfl, hA, hb3⟩
  have hz_w3 := hb3.size; (try simp at hz_w3); have z_w3_0 : w.heap.size < w3.heap.size := (by omega); have rc_w3_0 := bl_rc hb3 (b := w.heap.size) (by (first | (with_reducible exact Nat.le_refl _) | (with_reducible assumption) | omega | (simp; omega) | (simp; done))); have rf_w3_0 := bl_rf hb3 (b := w.heap.size) (by (first | (with_reducible exact Nat.le_refl _) | (with_reducible assumption) | omega | (simp; omega) | (simp; done))); have z_w3_1 : w.heap.size + 1 < w3.heap.size := (by omega); have rc_w3_1 := bl_rc hb3 (b := w.heap.size + 1) (by (first | (with_reducible exact Nat.le_refl _) | (with_reducible assumption) | omega | (simp; omega) | (simp; done))); have rf_w3_1 := bl_rf hb3 (b := w.heap.size + 1) (by (first | (with_reducible exact Nat.le_refl _) | (with_reducible assumption) | omega | (simp; omega) | (simp; done)))
  refine ⟨_, rfl, ?_⟩; refine hK _ _ (Below.mono hb3 (by (first | (with_reducible exact Nat.le_refl _) | (with_reducible assumption) | omega | (simp; omega) | (simp; done)))) ?_; clear hK K; (try simp only [Act.put, List.setIfInBounds_toArray, List.set_cons_zero, List.set_cons_succ])
  repeat (refine sq_soft (fun K hK => ?_); go_simp; refine hK _ ?_; clear hK K)
  refine sq_heavy rfl rfl (fun K hK => ?_); go_simp
  refine (eCorners_any _ _ _ _ _ _).mono ?_
  rintro r w4 ⟨B, c', rfl, hB, hb4⟩
  have hz_w4 := hb4.size; (try simp at hz_w4); have z_w4_0 : w.heap.size < w4.heap.size := (by omega); have rc_w4_0 := bl_rc hb4 (b := w.heap.size) (by (first | (with_reducible exact Nat.le_refl _) | (with_reducible assumption) | omega | (simp; omega) | (simp; done))); have rf_w4_0 := bl_rf hb4 (b := w.heap.size) (by (first | (with_reducible exact Nat.le_refl _) | (with_reducible assumption) | omega | (simp; omega) | (simp; done))); have z_w4_1 : w.heap.size + 1 < w4.heap.size := (by omega); have rc_w4_1 := bl_rc hb4 (b := w.heap.size + 1) (by (first | (with_reducible exact Nat.le_refl _) | (with_reducible assumption) | omega | (simp; omega) | (simp; done))); have rf_w4_1 := bl_rf hb4 (b := w.heap.size + 1) (by (first | (with_reducible exact Nat.le_refl _) | (with_reducible assumption) | omega | (simp; omega) | (simp; done)))
  refine ⟨_, rfl, ?_⟩; refine hK _ _ (Below.mono hb4 (by (first | (with_reducible exact Nat.le_refl _) | (with_reducible assumption) | omega | (simp; omega) | (simp; done)))) ?_; clear hK K; (try simp only [Act.put, List.setIfInBounds_toArray, List.set_cons_zero, List.set_cons_succ])
  have hl1 := corners_le e.f e.a e.b e.c e.d
  have hl2 := corners_le o.f o.a o.b o.c o.d
  obtain ⟨D, d, w5, hr, hD, hb5⟩ := app_own (own_tr hA hb4) hB (by omega) (by omega)
  have hLD : (corners e.f e.a e.b e.c e.d ++ corners o.f o.a o.b o.c o.d).length ≤ maxLen := by rw [List.length_append]; unfold maxLen; omega
  have hS := HS.out
  obtain ⟨ps, hps⟩ : ∃ ps, corners e.f e.a e.b e.c e.d ++ corners o.f o.a o.b o.c o.d = ps := ⟨_, rfl⟩
  rw [hps] at hr hD hLD hS
  have HS2 := Lib.hid hS
  clear hps hS HS hl1 hl2
  refine sq_heavy rfl rfl (fun K hK => ?_)
  refine heavy_append _ _ _ rfl rfl rfl hr ?_
  refine hK _ _ (Below.mono hb5 (by (first | (with_reducible exact Nat.le_refl _) | (with_reducible assumption) | omega | (simp; omega) | (simp; done)))) ?_; clear hK K hr; (try simp only [Act.put, List.setIfInBounds_toArray, List.set_cons_zero, List.set_cons_succ])
  have hz_w5 := hb5.size
  repeat (refine sq_soft (fun K hK => ?_); go_simp; refine hK _ ?_; clear hK K)
  have hRD := own_rdXY hD
  refine sq_heavy rfl rfl (fun K hK => ?_); go_simp; refine (eOf_any _ _ _ _ hRD hLD).mono ?_; rintro e w6 ⟨rfl, hb6⟩; refine ⟨_, rfl, ?_⟩; refine hK _ _ (Below.mono hb6 (by (first | (with_reducible exact Nat.le_refl _) | (with_reducible assumption) | omega | (simp; omega) | (simp; done)))) ?_; clear hK K; (try simp only [Act.put, List.setIfInBounds_toArray, List.set_cons_zero, List.set_cons_succ])
  repeat (refine sq_soft (fun K hK => ?_); go_simp; refine hK _ ?_; clear hK K)
  refine sq_heavy rfl rfl (fun K hK => ?_); go_simp
  refine (eEqual_val HS2.out _).mono ?_
  rintro r w7 ⟨rfl, hb7⟩
  refine ⟨_, rfl, ?_⟩; refine hK _ _ (Below.mono hb7 (by have := hb6.size; (first | (with_reducible exact Nat.le_refl _) | (with_reducible assumption) | omega | (simp; omega) | (simp; done)))) ?_; clear hK K; (try simp only [Act.put, List.setIfInBounds_toArray, List.set_cons_zero, List.set_cons_succ])
  repeat (refine sq_soft (fun K hK => ?_); go_simp; refine hK _ ?_; clear hK K)
  refine sq_nil ?_
  go_wp2
  go_ret
  refine ⟨rfl, ?_⟩
  have h4 : Below w.heap.size w w4 := by
    repeat' (first | (with_reducible exact bl_refl _) | (with_reducible assumption) | (with_reducible apply bl_al) | (with_reducible apply bl_dr) | (with_reducible refine bl_st ?_ ?_ _) | (with_reducible refine bl_tr ?_ (by with_reducible assumption)) | (first | (with_reducible exact Nat.le_refl _) | (with_reducible assumption) | omega | (simp; omega) | (simp; done)))
  have h5 := h4.trans (hb5.mono (by omega))
  repeat' (first | (with_reducible exact bl_refl _) | (with_reducible assumption) | (with_reducible apply bl_al) | (with_reducible apply bl_dr) | (with_reducible refine bl_st ?_ ?_ _) | (with_reducible refine bl_tr ?_ (by with_reducible assumption)) | (first | (with_reducible exact Nat.le_refl _) | (with_reducible assumption) | omega | (simp; omega) | (simp; done)))
theorem trod_bool {H : Type} {enc : TypeId × Value → H} {w : World} {base : Nat} {spare : Nat → Bool} {held : Bool} {n : Nat} {v : Value} {y : DataW H × List MemPlace} (h : DataW.trod enc Try.prog w base spare held n 4 [v] = some y) : ∃ b, v = .bool b := by
  cases n with
  | zero => simp [DataW.trod] at h
  | succ n =>
    simp only [DataW.trod, Try.underlying4] at h
    cases v <;> simp_all
section
open Go.ChangeShapes Go.WideShapes Go.Joins Go.Deep
variable {H : Type} {enc : TypeId × Value → H} {w : World} {base : Nat} {spare : Nat → Bool} {held : Bool}
theorem trod_four {P : Program} {t : TypeId} {f0 f1 f2 f3 : Field} {fuel : Nat} {cs : List Value} {x : DataW H × List MemPlace} (hs : P.underlying t = some (.struct #[f0, f1, f2, f3])) (hone : oneCellFields P #[f0, f1, f2, f3] = true) (hC : P.cellsOf t = 4)
    (h : DataW.trod enc P w base spare held fuel t cs = some x) :
    ∃ c0 c1 c2 c3 y0 y1 y2 y3 m, cs = [c0, c1, c2, c3] ∧ DataW.trod enc P w base spare held m f0.type [c0] = some y0 ∧ DataW.trod enc P w base spare held m f1.type [c1] = some y1 ∧ DataW.trod enc P w base spare held m f2.type [c2] = some y2 ∧ DataW.trod enc P w base spare held m f3.type [c3] = some y3 := by
  obtain ⟨xs, m, _, _, hc, hx, hf⟩ := DataW.trod_struct hs h
  have hc2 : cs.length = 4 := hc.trans hC
  have h0 := hf 0 f0 rfl
  have h1 := hf 1 f1 rfl
  have h2 := hf 2 f2 rfl
  have h3 := hf 3 f3 rfl
  obtain ⟨o0, k0⟩ := hone_of hone 0 f0 rfl
  obtain ⟨o1, k1⟩ := hone_of hone 1 f1 rfl
  obtain ⟨o2, k2⟩ := hone_of hone 2 f2 rfl
  obtain ⟨o3, k3⟩ := hone_of hone 3 f3 rfl
  match cs, hc2 with
  | [c0, c1, c2, c3], _ =>
    match xs, hx with
    | [y0, y1, y2, y3], _ => exact ⟨c0, c1, c2, c3, y0, y1, y2, y3, m, rfl, by simpa [o0, k0] using h0, by simpa [o1, k1] using h1, by simpa [o2, k2] using h2, by simpa [o3, k3] using h3⟩
set_option maxRecDepth 100000 in
theorem trod_Box {n : Nat} {cs : List Value} {y : DataW H × List MemPlace} (h : DataW.trod enc Try.prog w base spare held n 46 cs = some y) :
    ∃ a b c d, cs = [.float .f64 a, .float .f64 b, .float .f64 c, .float .f64 d] := by
  obtain ⟨c0, c1, c2, c3, y0, y1, y2, y3, m, rfl, h0, h1, h2, h3⟩ := trod_four Try.underlying46 (by kernel_rfl) (by kernel_rfl) h
  obtain ⟨a, rfl⟩ := trod_float h0
  obtain ⟨b, rfl⟩ := trod_float h1
  obtain ⟨c, rfl⟩ := trod_float h2
  obtain ⟨d, rfl⟩ := trod_float h3
  exact ⟨a, b, c, d, rfl⟩
/-- A struct of a field of one cell and one of four. -/
theorem trod_onefour {P : Program} {t : TypeId} {f0 f1 : Field} {fuel : Nat} {cs : List Value} {x : DataW H × List MemPlace} (hs : P.underlying t = some (.struct #[f0, f1])) (ho : f0.offset = 0 ∧ f1.offset = 1 ∧ P.cellsOf f0.type = 1 ∧ P.cellsOf f1.type = 4) (hC : P.cellsOf t = 5)
    (h : DataW.trod enc P w base spare held fuel t cs = some x) :
    ∃ c0 cs' y0 y1 m, cs = c0 :: cs' ∧ DataW.trod enc P w base spare held m f0.type [c0] = some y0 ∧ DataW.trod enc P w base spare held m f1.type cs' = some y1 := by
  obtain ⟨xs, m, _, _, hc, hx, hf⟩ := DataW.trod_struct hs h
  have hc2 : cs.length = 5 := hc.trans hC
  have h0 := hf 0 f0 rfl
  have h1 := hf 1 f1 rfl
  obtain ⟨o0, o1, k0, k1⟩ := ho
  match cs, hc2 with
  | [c0, c1, c2, c3, c4], _ =>
    match xs, hx with
    | [y0, y1], _ => exact ⟨c0, [c1, c2, c3, c4], y0, y1, m, rfl, by simpa [o0, k0] using h0, by simpa [o1, k1] using h1⟩
set_option maxRecDepth 100000 in
theorem trod_Env {n : Nat} {cs : List Value} {y : DataW H × List MemPlace} (h : DataW.trod enc Try.prog w base spare held n 48 cs = some y) :
    ∃ f a b c d, cs = [.bool f, .float .f64 a, .float .f64 b, .float .f64 c, .float .f64 d] := by
  obtain ⟨c0, cs', y0, y1, m, rfl, h0, h1⟩ := trod_onefour Try.underlying48 ⟨rfl, rfl, by kernel_rfl, by kernel_rfl⟩ (by kernel_rfl) h
  obtain ⟨f, rfl⟩ := trod_bool h0
  obtain ⟨a, b, c, d, rfl⟩ := trod_Box h1
  exact ⟨f, a, b, c, d, rfl⟩
set_option maxRecDepth 100000 in
theorem open_Env {r : Reach} {b0 : Nat} {v : Value} {d : DataW H} {p : List MemPlace} (hv : Value.okWide Try.prog w r b0 48 v) (h : DataW.Trod enc Try.prog w base spare held 48 v d p) : ∃ e : Ev, v = .agg #[.bool e.f, .float .f64 e.a, .float .f64 e.b, .float .f64 e.c, .float .f64 e.d] := by
  obtain ⟨cs, rfl, _⟩ := okWide_struct Try.underlying48 hv
  obtain ⟨fuel, hf⟩ := h
  obtain ⟨f, a, b, c, d, hc⟩ := trod_Env hf
  obtain ⟨l⟩ := cs
  simp only [Value.cells] at hc
  subst hc
  exact ⟨⟨a, b, c, d, f⟩, rfl⟩
end
set_option maxRecDepth 100000 in
theorem fnEnvExpand_walk {H : Type} {enc : TypeId × Value → H} {b0 : Nat} (W : World) {v0 v1 : Value} {d0 d1 : DataW H} {p0 p1 : List MemPlace}
    (k0 : Value.okWide Try.prog W .any b0 48 v0) (h0 : DataW.Trod enc Try.prog W 0 (fun _ => true) true 48 v0 d0 p0) (_ : ∀ x ∈ p0, x.block < W.heap.size)
    (k1 : Value.okWide Try.prog W .any b0 48 v1) (h1 : DataW.Trod enc Try.prog W 0 (fun _ => true) true 48 v1 d1 p1) (_ : ∀ x ∈ p1, x.block < W.heap.size) :
    Calls Try.prog 8 #[v0, v1] W fun e w' => e = .returned (.bool true) ∧ Below W.heap.size W w' := by
  obtain ⟨e, rfl⟩ := open_Env k0 h0
  obtain ⟨o, rfl⟩ := open_Env k1 h1
  cases hf : [e, o].all Ev.fit
  · exact expand_inf e o W hf
  · exact expand_fit e o W hf
end Go.Proofs.Ytomhegagdpaieaa
