/-
  Contracts: EnvExpand, EnvExpandXY, eFinite, eFits, eEqual.
-/
import Derived.Test.YtomhegagdpaieaaEnvL
namespace Go.Proofs.Ytomhegagdpaieaa
open Go.RowKit Fl

/-- The envelope that a given one stands for. -/
def envC (f : Bool) (a b c d : Nat) : Ev := if f then ⟨fmin a c, fmin b d, fmax a c, fmax b d, true⟩ else Ev.no
def Ev.join (e o : Ev) : Ev := if e.f then (if o.f then ⟨fmin e.a o.a, fmin e.b o.b, fmax e.c o.c, fmax e.d o.d, true⟩ else e) else o
def Ev.z (e : Ev) : Ev := if e.f then e else Ev.no

theorem envelope_any (a b c d : Nat) (f : Bool) (w : World) :
    Calls Try.prog 41 #[.agg #[.bool f, .float .f64 a, .float .f64 b, .float .f64 c, .float .f64 d]] w fun e w' => e = .returned (.agg #[.float .f64 (envC f a b c d).a, .float .f64 (envC f a b c d).b, .float .f64 (envC f a b c d).c, .float .f64 (envC f a b c d).d, .bool (envC f a b c d).f]) ∧ Below w.heap.size w w' := by
  cases f
  · exact envelope_none a b c d w
  · exact envelope_full a b c d w
theorem expandEnv_any (e o : Ev) (w : World) :
    Calls Try.prog 46 #[.agg #[.float .f64 e.a, .float .f64 e.b, .float .f64 e.c, .float .f64 e.d, .bool e.f], .agg #[.float .f64 o.a, .float .f64 o.b, .float .f64 o.c, .float .f64 o.d, .bool o.f]] w fun r w' =>
      r = .returned (.agg #[.float .f64 (e.join o).a, .float .f64 (e.join o).b, .float .f64 (e.join o).c, .float .f64 (e.join o).d, .bool (e.join o).f]) ∧ Below w.heap.size w w' := by
  obtain ⟨a, b, c, d, f⟩ := e
  obtain ⟨a', b', c', d', f'⟩ := o
  cases f
  · exact expandEnv_left a b c d a' b' c' d' f' w
  · cases f'
    · exact expandEnv_right a b c d a' b' c' d' w
    · exact expandEnv_true a b c d a' b' c' d' w
theorem plainEnv_ev (e : Ev) (w : World) :
    Calls Try.prog 40 #[.agg #[.float .f64 e.a, .float .f64 e.b, .float .f64 e.c, .float .f64 e.d, .bool e.f]] w fun r w' => r = .returned (.agg #[.bool e.z.f, .float .f64 e.z.a, .float .f64 e.z.b, .float .f64 e.z.c, .float .f64 e.z.d]) ∧ Below w.heap.size w w' := by
  obtain ⟨a, b, c, d, f⟩ := e
  cases f
  · exact plainEnv_none a b c d w
  · exact plainEnv_any a b c d w
theorem expandXY_ev (e : Ev) (p : Nat × Nat) (w : World) :
    Calls Try.prog 42 #[.agg #[.float .f64 e.a, .float .f64 e.b, .float .f64 e.c, .float .f64 e.d, .bool e.f], .agg #[.float .f64 p.1, .float .f64 p.2]] w fun r w' => r = .returned (.agg #[.float .f64 (e.ex p).a, .float .f64 (e.ex p).b, .float .f64 (e.ex p).c, .float .f64 (e.ex p).d, .bool (e.ex p).f]) ∧ Below w.heap.size w w' :=
  expandXY_any e.a e.b e.c e.d p.1 p.2 e.f w

theorem envExpand_any (a b c d a' b' c' d' : Nat) (f f' : Bool) (w : World) :
    Calls Try.prog 23 #[.agg #[.bool f, .float .f64 a, .float .f64 b, .float .f64 c, .float .f64 d], .agg #[.bool f', .float .f64 a', .float .f64 b', .float .f64 c', .float .f64 d']] w fun r w' =>
      r = .returned (.agg #[.bool ((envC f a b c d).join (envC f' a' b' c' d')).z.f, .float .f64 ((envC f a b c d).join (envC f' a' b' c' d')).z.a, .float .f64 ((envC f a b c d).join (envC f' a' b' c' d')).z.b, .float .f64 ((envC f a b c d).join (envC f' a' b' c' d')).z.c, .float .f64 ((envC f a b c d).join (envC f' a' b' c' d')).z.d]) ∧ Below w.heap.size w w' := by
  go_enter Try.func23, Try.ntmps23
  go_wp2_with fail
  refine wp_region_calm_tail 6 (by kernel_rfl) (by kernel_rfl) ?_; simp only [List.take_succ_cons, List.take_zero, List.drop_succ_cons, List.drop_zero]
  repeat (go_big_quiet_step ((first | (go_at_call 41; with_reducible exact calm_of (envelope_any _ _ _ _ _ _)) | (go_at_call 46; with_reducible exact calm_of (expandEnv_any _ _ _)) | (go_at_call 40; with_reducible exact calm_of (plainEnv_ev _ _)))))
  refine wpQuiet_nil ?_; intro w1 hb1
  have hz_w1 := hb1.size; (try simp at hz_w1); have z_w1_0 : w.heap.size < w1.heap.size := (by omega); have rc_w1_0 := bl_rc hb1 (b := w.heap.size) (by (first | (with_reducible exact Nat.le_refl _) | (with_reducible assumption) | omega | (simp; omega) | (simp; done))); have rf_w1_0 := bl_rf hb1 (b := w.heap.size) (by (first | (with_reducible exact Nat.le_refl _) | (with_reducible assumption) | omega | (simp; omega) | (simp; done))); have z_w1_1 : w.heap.size + 1 < w1.heap.size := (by omega); have rc_w1_1 := bl_rc hb1 (b := w.heap.size + 1) (by (first | (with_reducible exact Nat.le_refl _) | (with_reducible assumption) | omega | (simp; omega) | (simp; done))); have rf_w1_1 := bl_rf hb1 (b := w.heap.size + 1) (by (first | (with_reducible exact Nat.le_refl _) | (with_reducible assumption) | omega | (simp; omega) | (simp; done))); have z_w1_2 : w.heap.size + 1 + 1 < w1.heap.size := (by omega); have rc_w1_2 := bl_rc hb1 (b := w.heap.size + 1 + 1) (by (first | (with_reducible exact Nat.le_refl _) | (with_reducible assumption) | omega | (simp; omega) | (simp; done))); have rf_w1_2 := bl_rf hb1 (b := w.heap.size + 1 + 1) (by (first | (with_reducible exact Nat.le_refl _) | (with_reducible assumption) | omega | (simp; omega) | (simp; done)))
  obtain ⟨ev, hev⟩ : ∃ ev, ((envC f a b c d).join (envC f' a' b' c' d')).z = ev := ⟨_, rfl⟩
  rw [hev]
  have HE := Lib.hid hev
  clear hev
  go_wp2
  refine bodyPost_ret (v := .agg #[.bool ev.f, .float .f64 ev.a, .float .f64 ev.b, .float .f64 ev.c, .float .f64 ev.d]) (by simp [results, Try.results23, go_sem, *]) rfl ⟨by rw [HE.out], ?_⟩
  repeat' (first | (with_reducible exact bl_refl _) | (with_reducible assumption) | (with_reducible apply bl_al) | (with_reducible apply bl_dr) | (with_reducible refine bl_st ?_ ?_ _) | (with_reducible refine bl_tr ?_ (by with_reducible assumption)) | (first | (with_reducible exact Nat.le_refl _) | (with_reducible assumption) | omega | (simp; omega) | (simp; done)))
theorem xy_any (p : Nat × Nat) (w : World) :
    Calls Try.prog 27 #[.agg #[.float .f64 p.1, .float .f64 p.2]] w fun e w' => e = .returned (.agg #[.float .f64 p.1, .float .f64 p.2]) ∧ Below w.heap.size w w' := by
  go_enter Try.func27, Try.ntmps27
  go_wp2
  refine bodyPost_ret (v := .agg #[.float .f64 p.1, .float .f64 p.2]) (by simp [results, Try.results27, go_sem]) rfl ⟨rfl, ?_⟩
  repeat' (first | (with_reducible exact bl_refl _) | (with_reducible assumption) | (with_reducible apply bl_al) | (with_reducible apply bl_dr) | (with_reducible refine bl_st ?_ ?_ _) | (with_reducible refine bl_tr ?_ (by with_reducible assumption)) | (first | (with_reducible exact Nat.le_refl _) | (with_reducible assumption) | omega | (simp; omega) | (simp; done)))
theorem envExpandXY_any (a b c d : Nat) (f : Bool) (p : Nat × Nat) (w : World) :
    Calls Try.prog 19 #[.agg #[.bool f, .float .f64 a, .float .f64 b, .float .f64 c, .float .f64 d], .agg #[.float .f64 p.1, .float .f64 p.2]] w fun r w' =>
      r = .returned (.agg #[.bool ((envC f a b c d).ex p).z.f, .float .f64 ((envC f a b c d).ex p).z.a, .float .f64 ((envC f a b c d).ex p).z.b, .float .f64 ((envC f a b c d).ex p).z.c, .float .f64 ((envC f a b c d).ex p).z.d]) ∧ Below w.heap.size w w' := by
  go_enter Try.func19, Try.ntmps19
  go_wp2_with fail
  refine wp_region_calm_tail 6 (by kernel_rfl) (by kernel_rfl) ?_; simp only [List.take_succ_cons, List.take_zero, List.drop_succ_cons, List.drop_zero]
  repeat (go_big_quiet_step ((first | (go_at_call 41; with_reducible exact calm_of (envelope_any _ _ _ _ _ _)) | (go_at_call 27; with_reducible exact calm_of (xy_any _ _)) | (go_at_call 42; with_reducible exact calm_of (expandXY_ev _ _ _)) | (go_at_call 40; with_reducible exact calm_of (plainEnv_ev _ _)))))
  refine wpQuiet_nil ?_; intro w1 hb1
  have hz_w1 := hb1.size; (try simp at hz_w1); have z_w1_0 : w.heap.size < w1.heap.size := (by omega); have rc_w1_0 := bl_rc hb1 (b := w.heap.size) (by (first | (with_reducible exact Nat.le_refl _) | (with_reducible assumption) | omega | (simp; omega) | (simp; done))); have rf_w1_0 := bl_rf hb1 (b := w.heap.size) (by (first | (with_reducible exact Nat.le_refl _) | (with_reducible assumption) | omega | (simp; omega) | (simp; done))); have z_w1_1 : w.heap.size + 1 < w1.heap.size := (by omega); have rc_w1_1 := bl_rc hb1 (b := w.heap.size + 1) (by (first | (with_reducible exact Nat.le_refl _) | (with_reducible assumption) | omega | (simp; omega) | (simp; done))); have rf_w1_1 := bl_rf hb1 (b := w.heap.size + 1) (by (first | (with_reducible exact Nat.le_refl _) | (with_reducible assumption) | omega | (simp; omega) | (simp; done))); have z_w1_2 : w.heap.size + 1 + 1 < w1.heap.size := (by omega); have rc_w1_2 := bl_rc hb1 (b := w.heap.size + 1 + 1) (by (first | (with_reducible exact Nat.le_refl _) | (with_reducible assumption) | omega | (simp; omega) | (simp; done))); have rf_w1_2 := bl_rf hb1 (b := w.heap.size + 1 + 1) (by (first | (with_reducible exact Nat.le_refl _) | (with_reducible assumption) | omega | (simp; omega) | (simp; done)))
  obtain ⟨ev, hev⟩ : ∃ ev, ((envC f a b c d).ex p).z = ev := ⟨_, rfl⟩
  rw [hev]
  have HE := Lib.hid hev
  clear hev
  go_wp2
  refine bodyPost_ret (v := .agg #[.bool ev.f, .float .f64 ev.a, .float .f64 ev.b, .float .f64 ev.c, .float .f64 ev.d]) (by simp [results, Try.results19, go_sem, *]) rfl ⟨by rw [HE.out], ?_⟩
  repeat' (first | (with_reducible exact bl_refl _) | (with_reducible assumption) | (with_reducible apply bl_al) | (with_reducible apply bl_dr) | (with_reducible refine bl_st ?_ ?_ _) | (with_reducible refine bl_tr ?_ (by with_reducible assumption)) | (first | (with_reducible exact Nat.le_refl _) | (with_reducible assumption) | omega | (simp; omega) | (simp; done)))
def fin4 (a b c d : Nat) : Bool := fin a && fin b && fin c && fin d
theorem eFinite_any (a b c d : Nat) (w : World) :
    Calls Try.prog 45 #[.agg #[.float .f64 a, .float .f64 b, .float .f64 c, .float .f64 d]] w fun e w' => e = .returned (.bool (fin4 a b c d)) ∧ Below w.heap.size w w' := by
  by_cases h1 : fin a = true
  · by_cases h2 : fin b = true
    · by_cases h3 : fin c = true
      · by_cases h4 : fin d = true
        · go_enter Try.func45, Try.ntmps45
          go_wp2_with (first | (go_at_call 26; ((with_reducible refine (gFinite_any _ _).mono ?_); rintro e w' ⟨rfl, rfl⟩)))
          go_ret
          refine ⟨by simp [fin4, *], ?_⟩
          repeat' (first | (with_reducible exact bl_refl _) | (with_reducible assumption) | (with_reducible apply bl_al) | (with_reducible apply bl_dr) | (with_reducible refine bl_st ?_ ?_ _) | (with_reducible refine bl_tr ?_ (by with_reducible assumption)) | (first | (with_reducible exact Nat.le_refl _) | (with_reducible assumption) | omega | (simp; omega) | (simp; done)))
        · have h4 : fin d = false := by simpa using h4
          go_enter Try.func45, Try.ntmps45
          go_wp2_with (first | (go_at_call 26; ((with_reducible refine (gFinite_any _ _).mono ?_); rintro e w' ⟨rfl, rfl⟩)))
          go_ret
          refine ⟨by simp [fin4, *], ?_⟩
          repeat' (first | (with_reducible exact bl_refl _) | (with_reducible assumption) | (with_reducible apply bl_al) | (with_reducible apply bl_dr) | (with_reducible refine bl_st ?_ ?_ _) | (with_reducible refine bl_tr ?_ (by with_reducible assumption)) | (first | (with_reducible exact Nat.le_refl _) | (with_reducible assumption) | omega | (simp; omega) | (simp; done)))
      · have h3 : fin c = false := by simpa using h3
        go_enter Try.func45, Try.ntmps45
        go_wp2_with (first | (go_at_call 26; ((with_reducible refine (gFinite_any _ _).mono ?_); rintro e w' ⟨rfl, rfl⟩)))
        go_ret
        refine ⟨by simp [fin4, *], ?_⟩
        repeat' (first | (with_reducible exact bl_refl _) | (with_reducible assumption) | (with_reducible apply bl_al) | (with_reducible apply bl_dr) | (with_reducible refine bl_st ?_ ?_ _) | (with_reducible refine bl_tr ?_ (by with_reducible assumption)) | (first | (with_reducible exact Nat.le_refl _) | (with_reducible assumption) | omega | (simp; omega) | (simp; done)))
    · have h2 : fin b = false := by simpa using h2
      go_enter Try.func45, Try.ntmps45
      go_wp2_with (first | (go_at_call 26; ((with_reducible refine (gFinite_any _ _).mono ?_); rintro e w' ⟨rfl, rfl⟩)))
      go_ret
      refine ⟨by simp [fin4, *], ?_⟩
      repeat' (first | (with_reducible exact bl_refl _) | (with_reducible assumption) | (with_reducible apply bl_al) | (with_reducible apply bl_dr) | (with_reducible refine bl_st ?_ ?_ _) | (with_reducible refine bl_tr ?_ (by with_reducible assumption)) | (first | (with_reducible exact Nat.le_refl _) | (with_reducible assumption) | omega | (simp; omega) | (simp; done)))
  · have h1 : fin a = false := by simpa using h1
    go_enter Try.func45, Try.ntmps45
    go_wp2_with (first | (go_at_call 26; ((with_reducible refine (gFinite_any _ _).mono ?_); rintro e w' ⟨rfl, rfl⟩)))
    go_ret
    refine ⟨by simp [fin4, *], ?_⟩
    repeat' (first | (with_reducible exact bl_refl _) | (with_reducible assumption) | (with_reducible apply bl_al) | (with_reducible apply bl_dr) | (with_reducible refine bl_st ?_ ?_ _) | (with_reducible refine bl_tr ?_ (by with_reducible assumption)) | (first | (with_reducible exact Nat.le_refl _) | (with_reducible assumption) | omega | (simp; omega) | (simp; done)))

theorem eqF (d : Nat) (a b : Nat) (w : World) : (Op.equalIn (d + 1) 22 (.float .f64 a) (.float .f64 b)).run Try.prog w = .ok (feq a b) w := by
  simp [Op.equalIn, run_underlying Try.underlying22, Op.floatEq, ← feq_def]
theorem eqBox_d (k : Nat) (a b c d a' b' c' d' : Nat) (w : World) : (Op.equalIn (k + 2) 46 (.agg #[.float .f64 a, .float .f64 b, .float .f64 c, .float .f64 d]) (.agg #[.float .f64 a', .float .f64 b', .float .f64 c', .float .f64 d'])).run Try.prog w = .ok (feq a a' && feq b b' && feq c c' && feq d d') w := by
  have hS : Try.prog.underlying 46 = some (.struct (Try.prog.fieldsOf 46)) := by kernel_rfl
  rw [run_equalIn_agg w (k + 1) 46 _ _ hS (by kernel_rfl)]
  have e := eqF k
  have a3 := Try.isAgg22
  have z3 := Try.sizeOf22
  simp only [Program.fieldsOf, Try.underlying46]
  go_simp
  cases feq a a' <;> cases feq b b' <;> cases feq c c' <;> cases feq d d' <;> simp
theorem eqlBox (a b c d a' b' c' d' : Nat) (w : World) : (binOp .eql 46 (.agg #[.float .f64 a, .float .f64 b, .float .f64 c, .float .f64 d]) (.agg #[.float .f64 a', .float .f64 b', .float .f64 c', .float .f64 d'])).run Try.prog w = .ok (.bool (feq a a' && feq b b' && feq c c' && feq d d')) w := by
  rw [run_eql_struct, eqBox_d 9998 a b c d a' b' c' d' w]; rfl
attribute [local go_sem ↓] eqlBox
/-- Both empty, or equal ends. -/
def Ev.same (e o : Ev) : Bool := if e.f && o.f then feq e.a o.a && feq e.b o.b && feq e.c o.c && feq e.d o.d else (e.f == o.f)
theorem eEqual_any (e o : Ev) (w : World) :
    Calls Try.prog 20 #[.agg #[.bool e.f, .float .f64 e.a, .float .f64 e.b, .float .f64 e.c, .float .f64 e.d], .agg #[.bool o.f, .float .f64 o.a, .float .f64 o.b, .float .f64 o.c, .float .f64 o.d]] w fun r w' => r = .returned (.bool (e.same o)) ∧ Below w.heap.size w w' := by
  obtain ⟨a, b, c, d, f⟩ := e
  obtain ⟨a', b', c', d', f'⟩ := o
  cases f <;> cases f'
  all_goals
    go_enter Try.func20, Try.ntmps20
    go_wp2
    go_ret
    refine ⟨by simp [Ev.same], ?_⟩
    repeat' (first | (with_reducible exact bl_refl _) | (with_reducible assumption) | (with_reducible apply bl_al) | (with_reducible apply bl_dr) | (with_reducible refine bl_st ?_ ?_ _) | (with_reducible refine bl_tr ?_ (by with_reducible assumption)) | (first | (with_reducible exact Nat.le_refl _) | (with_reducible assumption) | omega | (simp; omega) | (simp; done)))
end Go.Proofs.Ytomhegagdpaieaa
