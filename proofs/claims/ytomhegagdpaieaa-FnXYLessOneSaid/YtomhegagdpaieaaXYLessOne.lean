import Derived.Test.YtomhegagdpaieaaList
import Derived.Test.YtomhegagdpaieaaCalm
import Derived.Test.YtomhegagdpaieaaOpen
namespace Go.Proofs.Ytomhegagdpaieaa
open Go.RowKit Fl Go.ChangeShapes Go.WideShapes
theorem xy_any (p : Nat × Nat) (w : World) :
    Calls Try.prog 27 #[.agg #[.float .f64 p.1, .float .f64 p.2]] w fun e w' => e = .returned (.agg #[.float .f64 p.1, .float .f64 p.2]) ∧ Below w.heap.size w w' := by
  go_enter Try.func27, Try.ntmps27
  go_wp2
  refine bodyPost_ret (v := .agg #[.float .f64 p.1, .float .f64 p.2]) (by simp [results, Try.results27, go_sem]) rfl ⟨rfl, ?_⟩
  repeat (first | exact bl_refl _ | assumption | apply bl_al | apply bl_dr | refine bl_tr ?_ (by assumption))
def lessXY (p q : Nat × Nat) : Bool := if fne p.1 q.1 then flt p.1 q.1 else flt p.2 q.2
theorem less_any (p q : Nat × Nat) (w : World) :
    Calls Try.prog 28 #[.agg #[.float .f64 p.1, .float .f64 p.2], .agg #[.float .f64 q.1, .float .f64 q.2]] w fun e w' => e = .returned (.bool (lessXY p q)) ∧ Below w.heap.size w w' := by
  go_enter Try.func28, Try.ntmps28
  go_wp2
  all_goals (go_ret; refine ⟨by simp [lessXY, *], ?_⟩)
  all_goals repeat (first | exact bl_refl _ | assumption | apply bl_al | apply bl_dr | refine bl_tr ?_ (by assumption))
theorem xyLess_any (p q : Nat × Nat) (w : World) :
    Calls Try.prog 10 #[.agg #[.float .f64 p.1, .float .f64 p.2], .agg #[.float .f64 q.1, .float .f64 q.2]] w fun e w' => e = .returned (.bool (lessXY p q)) ∧ Below w.heap.size w w' := by
  go_enter Try.func10, Try.ntmps10
  go_wp2
  refine wp_region_calm (by kernel_rfl) (by kernel_rfl) ?_
  repeat (go_big_quiet_step ((first | (go_at_call 27; exact calm_of (xy_any _ _)) | (go_at_call 28; exact calm_of (less_any _ _ _)))))
  refine wpQuiet_nil ?_
  intro w1 hb1
  go_wp2
  go_ret
  refine ⟨rfl, ?_⟩
  repeat (first | exact bl_refl _ | assumption | apply bl_al | apply bl_dr | refine bl_tr ?_ (by assumption))

theorem less_one (p q : Nat × Nat) (hp : finXY p = true) (hq : finXY q = true) :
    (!(lessXY p q && lessXY q p)) = true ∧ ((lessXY p q || lessXY q p) == !(feq p.1 q.1 && feq p.2 q.2)) = true := by
  simp only [finXY, Bool.and_eq_true] at hp hq
  unfold lessXY
  rw [fne_fin hp.1 hq.1, fne_fin hq.1 hp.1, flt_fin hp.1 hq.1, flt_fin hq.1 hp.1, flt_fin hp.2 hq.2, flt_fin hq.2 hp.2, feq_fin hp.1 hq.1, feq_fin hp.2 hq.2]
  rcases Int.lt_trichotomy (key p.1) (key q.1) with h | h | h
  · have h1 : key p.1 ≠ key q.1 := by omega
    have h2 : key q.1 ≠ key p.1 := by omega
    have h3 : ¬ key q.1 < key p.1 := by omega
    simp [h, h1, h2, h3]
  · rcases Int.lt_trichotomy (key p.2) (key q.2) with g | g | g
    · have g1 : key p.2 ≠ key q.2 := by omega
      have g3 : ¬ key q.2 < key p.2 := by omega
      simp [h, g, g1, g3]
    · simp [h, g]
    · have g1 : key p.2 ≠ key q.2 := by omega
      have g3 : ¬ key p.2 < key q.2 := by omega
      simp [h, g, g1, g3]
  · have h1 : key p.1 ≠ key q.1 := by omega
    have h2 : key q.1 ≠ key p.1 := by omega
    have h3 : ¬ key p.1 < key q.1 := by omega
    simp [h, h1, h2, h3]

theorem two_at (p q : Nat × Nat) (W : World) (t : TypeId) (b : Nat) (hb : b = W.heap.size) : xysAt (W.alloc (.cells #[.float .f64 p.1, .float .f64 p.2, .float .f64 q.1, .float .f64 q.2] t)) b 0 [p, q] := by
  subst hb
  intro i r hr
  match i, hr with
  | 0, hr => obtain rfl : p = r := by simpa using hr
             simp [go_sem]
  | 1, hr => obtain rfl : q = r := by simpa using hr
             simp [go_sem]

theorem eqF (d : Nat) (a b : Nat) (w : World) : (Op.equalIn (d + 1) 22 (.float .f64 a) (.float .f64 b)).run Try.prog w = .ok (feq a b) w := by
  simp [Op.equalIn, run_underlying Try.underlying22, Op.floatEq, ← feq_def]
theorem eqXY_d (d : Nat) (a b a' b' : Nat) (w : World) : (Op.equalIn (d + 2) 24 (.agg #[.float .f64 a, .float .f64 b]) (.agg #[.float .f64 a', .float .f64 b'])).run Try.prog w = .ok (feq a a' && feq b b') w := by
  have hS : Try.prog.underlying 24 = some (.struct (Try.prog.fieldsOf 24)) := by kernel_rfl
  rw [run_equalIn_agg w (d + 1) 24 _ _ hS (by kernel_rfl)]
  have e := eqF d
  have a3 := Try.isAgg22
  have z3 := Try.sizeOf22
  simp only [Program.fieldsOf, Try.underlying24]
  go_simp
  cases feq a a' <;> cases feq b b' <;> simp
theorem neqXY (a b a' b' : Nat) (w : World) : (binOp .neq 24 (.agg #[.float .f64 a, .float .f64 b]) (.agg #[.float .f64 a', .float .f64 b'])).run Try.prog w = .ok (.bool (!(feq a a' && feq b b'))) w := by
  rw [run_neq_struct, eqXY_d 9998 a b a' b' w]; rfl
theorem eqlXY (a b a' b' : Nat) (w : World) : (binOp .eql 24 (.agg #[.float .f64 a, .float .f64 b]) (.agg #[.float .f64 a', .float .f64 b'])).run Try.prog w = .ok (.bool (feq a a' && feq b b')) w := by
  rw [run_eql_struct, eqXY_d 9998 a b a' b' w]; rfl

attribute [local go_sem ↓] neqXY eqlXY

theorem eList_two (p q : Nat × Nat) (b : Nat) (w : World) (h : xysAt w b 0 [p, q]) (hb : b < w.heap.size) :
    Calls Try.prog 9 #[.slice (some ⟨b, 0, none⟩) 2 2] w fun e w' => e = .returned (.bool ([p, q].all finXY)) ∧ Below w.heap.size w w' :=
  eList_any b 0 2 [p, q] w h hb (by simp)

set_option maxRecDepth 100000 in
set_option maxHeartbeats 400000 in
theorem xyLessOne_core (p q : Nat × Nat) (w : World) :
    Calls Try.prog 3 #[.agg #[.float .f64 p.1, .float .f64 p.2], .agg #[.float .f64 q.1, .float .f64 q.2]] w fun e w' => e = .returned (.bool true) ∧ Below w.heap.size w w' := by
  by_cases hf : [p, q].all finXY = true
  · have H1 : finXY p = true ∧ finXY q = true := by simpa using hf
    obtain ⟨L1, L2⟩ := less_one p q H1.1 H1.2
    have hx1 := xyLess_any p q
    have hx2 := xyLess_any q p
    generalize lessXY p q = l1 at *
    generalize lessXY q p = l2 at *
    have HX1 := Lib.hid hx1
    have HX2 := Lib.hid hx2
    have HL2 := Lib.hid L2
    have HF := Lib.hid hf
    have hc : (l1 = true ∧ l2 = false) ∨ (l1 = false ∧ l2 = true) ∨ (l1 = false ∧ l2 = false) := by cases l1 <;> cases l2 <;> simp_all
    clear hf L1 L2 H1 hx1 hx2
    rcases hc with ⟨rfl, rfl⟩ | ⟨rfl, rfl⟩ | ⟨rfl, rfl⟩
    all_goals
      go_enter Try.func3, Try.ntmps3
      go_wp2_with fail
      refine (eList_two p q _ _ ?_ ?_).mono ?_
      · exact two_at p q _ _ _ (by simp)
      · simp
      rintro e w1 ⟨rfl, hb1⟩
      have hz := hb1.size
      simp only [World.size_alloc] at hz
      have z1 : w.heap.size < w1.heap.size := by omega
      have z2 : w.heap.size + 1 < w1.heap.size := by omega
      have c1 := bl_cell hb1 (b := w.heap.size) (o := 0) (v := .float .f64 p.1) (by simp [go_sem])
      have c2 := bl_cell hb1 (b := w.heap.size) (o := 1) (v := .float .f64 p.2) (by simp [go_sem])
      have c3 := bl_cell hb1 (b := w.heap.size + 1) (o := 0) (v := .float .f64 q.1) (by simp [go_sem])
      have c4 := bl_cell hb1 (b := w.heap.size + 1) (o := 1) (v := .float .f64 q.2) (by simp [go_sem])
      rw [HF.out]
      go_wp2_with fail
      refine wp_region_calm (by kernel_rfl) (by kernel_rfl) ?_
      repeat (go_big_quiet_step ((go_at_call 10; first | (with_reducible exact calm_of (HX1.out _)) | (with_reducible exact calm_of (HX2.out _)))))
      refine wpQuiet_nil ?_
      intro w2 hb2
      have d1 := bl_cell hb2 c1
      have d2 := bl_cell hb2 c2
      have d3 := bl_cell hb2 c3
      have d4 := bl_cell hb2 c4
      go_wp2
      go_ret
      refine ⟨by have := HL2.out; simpa using this, ?_⟩
      repeat (first | exact bl_refl _ | assumption | apply bl_al | apply bl_dr | refine bl_tr ?_ (by assumption))
  · have hf' : [p, q].all finXY = false := by simpa using hf
    have HF := Lib.hid hf'
    clear hf hf'
    go_enter Try.func3, Try.ntmps3
    go_wp2_with fail
    refine (eList_two p q _ _ ?_ ?_).mono ?_
    · exact two_at p q _ _ _ (by simp)
    · simp
    rintro e w1 ⟨rfl, hb1⟩
    rw [HF.out]
    go_wp2
    go_ret
    refine ⟨rfl, ?_⟩
    repeat (first | exact bl_refl _ | assumption | apply bl_al | apply bl_dr | refine bl_tr ?_ (by assumption))
set_option maxRecDepth 100000 in
theorem fnXYLessOne_walk {H : Type} {enc : TypeId × Value → H} {b0 : Nat} (W : World) {v0 v1 : Value} {d0 d1 : DataW H} {p0 p1 : List MemPlace}
    (k0 : Value.okWide Try.prog W .any b0 24 v0) (h0 : DataW.Trod enc Try.prog W 0 (fun _ => true) true 24 v0 d0 p0) (_ : ∀ x ∈ p0, x.block < W.heap.size)
    (k1 : Value.okWide Try.prog W .any b0 24 v1) (h1 : DataW.Trod enc Try.prog W 0 (fun _ => true) true 24 v1 d1 p1) (_ : ∀ x ∈ p1, x.block < W.heap.size) :
    Calls Try.prog 3 #[v0, v1] W fun e w' => e = .returned (.bool true) ∧ Below W.heap.size W w' := by
  obtain ⟨a, b, rfl⟩ := open_XY k0 h0
  obtain ⟨a', b', rfl⟩ := open_XY k1 h1
  exact xyLessOne_core (a, b) (a', b') W
end Go.Proofs.Ytomhegagdpaieaa
