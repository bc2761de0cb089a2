/-
  The plain law of the boxes around items: both stand for the same whole numbers.
-/
import Derived.Test.YtomhegagdpaieaaRt
import Derived.Test.YtomhegagdpaieaaEnvO
namespace Go.Proofs.Ytomhegagdpaieaa
open Go.RowKit Fl
/-- The box around items, as the index joins them. -/
def jn (p : Nat × Nat × Nat × Nat) (t : It) : Nat × Nat × Nat × Nat := (rmin p.1 t.a, rmin p.2.1 t.b, rmax p.2.2.1 t.c, rmax p.2.2.2 t.d)
/-- The places of items' corners. -/
def pts : List It → List (Nat × Nat)
  | [] => []
  | t :: l => (t.a, t.b) :: (t.c, t.d) :: pts l
theorem pts_length : ∀ l, (pts l).length = l.length * 2
  | [] => rfl
  | t :: l => by simp [pts, pts_length l]; omega
theorem pts_append : ∀ l m, pts (l ++ m) = pts l ++ pts m
  | [], m => rfl
  | t :: l, m => by simp [pts, pts_append l m]
/-- Four words that stand for four whole numbers. -/
structure BZ (a b c d : Nat) (x y z t : Int) : Prop where
  ha : isZ a x
  hb : isZ b y
  hc : isZ c z
  hd : isZ d t
  x0 : -1048576 ≤ x
  x1 : x ≤ z
  x2 : z ≤ 1048576
  y0 : -1048576 ≤ y
  y1 : y ≤ t
  y2 : t ≤ 1048576
theorem bz_of {t : It} (h : It.ok t = true) : ∃ x y z u, BZ t.a t.b t.c t.d x y z u := by
  obtain ⟨x, y, z, u, h1, h2, h3, h4, h5, h6, h7, h8, h9, h10⟩ := tB_whole h
  exact ⟨x, y, z, u, h1, h2, h3, h4, h5, h6, h7, h8, h9, h10⟩
theorem flt_whole {a b : Nat} {x y : Int} (ha : isZ a x) (hb : isZ b y) : flt a b = decide (x < y) := by
  rw [flt_fin ha.1 hb.1]; exact decide_eq_decide.2 (key_whole_lt ha hb)
theorem fgt_whole {a b : Nat} {x y : Int} (ha : isZ a x) (hb : isZ b y) : fgt a b = decide (y < x) := by
  rw [fgt_fin ha.1 hb.1]; exact decide_eq_decide.2 (key_whole_lt hb ha)
theorem min_whole {a b : Nat} {x y : Int} (ha : isZ a x) (hb : isZ b y) : isZ (if flt a b then a else b) (min x y) := by
  rw [flt_whole ha hb]
  by_cases h : x < y
  · simp only [h, decide_true, if_true]; rw [Int.min_eq_left (by omega)]; exact ha
  · simp only [h, decide_false, Bool.false_eq_true, if_false]; rw [Int.min_eq_right (by omega)]; exact hb
theorem max_whole {a b : Nat} {x y : Int} (ha : isZ a x) (hb : isZ b y) : isZ (if fgt a b then a else b) (max x y) := by
  rw [fgt_whole ha hb]
  by_cases h : y < x
  · simp only [h, decide_true, if_true]; rw [Int.max_eq_left (by omega)]; exact ha
  · simp only [h, decide_false, Bool.false_eq_true, if_false]; rw [Int.max_eq_right (by omega)]; exact hb
theorem bz_jn {a b c d : Nat} {x y z u : Int} {t : It} {x' y' z' u' : Int} (h : BZ a b c d x y z u) (k : BZ t.a t.b t.c t.d x' y' z' u') :
    BZ (rmin a t.a) (rmin b t.b) (rmax c t.c) (rmax d t.d) (min x x') (min y y') (max z z') (max u u') := by
  obtain ⟨h1, h2, h3, h4, h5, h6, h7, h8, h9, h10⟩ := h
  obtain ⟨k1, k2, k3, k4, k5, k6, k7, k8, k9, k10⟩ := k
  exact ⟨min_whole h1 k1, min_whole h2 k2, max_whole h3 k3, max_whole h4 k4, by omega, by omega, by omega, by omega, by omega, by omega⟩
theorem isZ_cast {a : Nat} {x y : Int} (h : isZ a x) (e : x = y) : isZ a y := e ▸ h
theorem bz_st {e : Ev} {x y z u : Int} {t : It} {x' y' z' u' : Int} (hf : e.f = true) (h : BZ e.a e.b e.c e.d x y z u) (k : BZ t.a t.b t.c t.d x' y' z' u') :
    ((e.st (t.a, t.b)).st (t.c, t.d)).f = true ∧ BZ ((e.st (t.a, t.b)).st (t.c, t.d)).a ((e.st (t.a, t.b)).st (t.c, t.d)).b ((e.st (t.a, t.b)).st (t.c, t.d)).c ((e.st (t.a, t.b)).st (t.c, t.d)).d (min x x') (min y y') (max z z') (max u u') := by
  obtain ⟨h1, h2, h3, h4, h5, h6, h7, h8, h9, h10⟩ := h
  obtain ⟨k1, k2, k3, k4, k5, k6, k7, k8, k9, k10⟩ := k
  have e1 : (e.st (t.a, t.b)) = ⟨if flt t.a e.a then t.a else e.a, if flt t.b e.b then t.b else e.b, if fgt t.a e.c then t.a else e.c, if fgt t.b e.d then t.b else e.d, true⟩ := by unfold Ev.st; rw [if_pos hf]
  rw [e1]
  have a1 := min_whole k1 h1
  have a2 := min_whole k2 h2
  have a3 := max_whole k1 h3
  have a4 := max_whole k2 h4
  generalize (if flt t.a e.a then t.a else e.a) = p1 at *
  generalize (if flt t.b e.b then t.b else e.b) = p2 at *
  generalize (if fgt t.a e.c then t.a else e.c) = p3 at *
  generalize (if fgt t.b e.d then t.b else e.d) = p4 at *
  unfold Ev.st
  simp only [if_true]
  refine ⟨trivial, isZ_cast (min_whole k3 a1) (by omega), isZ_cast (min_whole k4 a2) (by omega), isZ_cast (max_whole k3 a3) (by omega), isZ_cast (max_whole k4 a4) (by omega), by omega, by omega, by omega, by omega, by omega, by omega⟩
theorem bz_fold : ∀ (l : List It), l.all It.ok = true → ∀ (a b c d : Nat) (x y z u : Int) (e : Ev), BZ a b c d x y z u → e.f = true → BZ e.a e.b e.c e.d x y z u →
    ∃ x' y' z' u', BZ (l.foldl jn (a, b, c, d)).1 (l.foldl jn (a, b, c, d)).2.1 (l.foldl jn (a, b, c, d)).2.2.1 (l.foldl jn (a, b, c, d)).2.2.2 x' y' z' u' ∧
      ((pts l).foldl Ev.st e).f = true ∧ BZ ((pts l).foldl Ev.st e).a ((pts l).foldl Ev.st e).b ((pts l).foldl Ev.st e).c ((pts l).foldl Ev.st e).d x' y' z' u'
  | [], _, a, b, c, d, x, y, z, u, e, h, hf, k => ⟨x, y, z, u, h, hf, k⟩
  | t :: l, hl, a, b, c, d, x, y, z, u, e, h, hf, k => by
    simp only [List.all_cons, Bool.and_eq_true] at hl
    obtain ⟨x', y', z', u', ht⟩ := bz_of hl.1
    obtain ⟨f1, b1⟩ := bz_st hf k ht
    exact bz_fold l hl.2 _ _ _ _ _ _ _ _ _ (bz_jn h ht) f1 b1
/-- Both boxes tell the same. -/
theorem level_same (t : It) (l : List It) (h : (t :: l).all It.ok = true) : ∃ x y x' y',
    Ieee.double.sub (l.foldl jn (t.a, t.b, t.c, t.d)).2.2.1 (l.foldl jn (t.a, t.b, t.c, t.d)).1 = some x ∧ Ieee.double.sub (l.foldl jn (t.a, t.b, t.c, t.d)).2.2.2 (l.foldl jn (t.a, t.b, t.c, t.d)).2.1 = some y ∧
    Ieee.double.sub (stOf (pts (t :: l))).c (stOf (pts (t :: l))).a = some x' ∧ Ieee.double.sub (stOf (pts (t :: l))).d (stOf (pts (t :: l))).b = some y' ∧ fgt x y = fgt x' y' := by
  simp only [List.all_cons, Bool.and_eq_true] at h
  obtain ⟨x, y, z, u, ht⟩ := bz_of h.1
  have e0 : Ev.no.st (t.a, t.b) = ⟨t.a, t.b, t.a, t.b, true⟩ := rfl
  have hb : (Ev.no.st (t.a, t.b)).f = true ∧ BZ (Ev.no.st (t.a, t.b)).a (Ev.no.st (t.a, t.b)).b (Ev.no.st (t.a, t.b)).c (Ev.no.st (t.a, t.b)).d x y x y := by
    rw [e0]
    obtain ⟨h1, h2, h3, h4, h5, h6, h7, h8, h9, h10⟩ := ht
    exact ⟨rfl, h1, h2, h1, h2, by omega, by omega, by omega, by omega, by omega, by omega⟩
  have hs : ((Ev.no.st (t.a, t.b)).st (t.c, t.d)).f = true ∧ BZ ((Ev.no.st (t.a, t.b)).st (t.c, t.d)).a ((Ev.no.st (t.a, t.b)).st (t.c, t.d)).b ((Ev.no.st (t.a, t.b)).st (t.c, t.d)).c ((Ev.no.st (t.a, t.b)).st (t.c, t.d)).d x y z u := by
    rw [e0]
    obtain ⟨h1, h2, h3, h4, h5, h6, h7, h8, h9, h10⟩ := ht
    unfold Ev.st
    simp only [if_true]
    exact ⟨trivial, isZ_cast (min_whole h3 h1) (by omega), isZ_cast (min_whole h4 h2) (by omega), isZ_cast (max_whole h3 h1) (by omega), isZ_cast (max_whole h4 h2) (by omega), by omega, by omega, by omega, by omega, by omega, by omega⟩
  obtain ⟨x', y', z', u', k1, kf, k2⟩ := bz_fold l h.2 t.a t.b t.c t.d x y z u _ ht hs.1 hs.2
  have e2 : (pts l).foldl Ev.st ((Ev.no.st (t.a, t.b)).st (t.c, t.d)) = stOf (pts (t :: l)) := rfl
  rw [e2] at kf k2
  generalize l.foldl jn (t.a, t.b, t.c, t.d) = p at *
  generalize stOf (pts (t :: l)) = e at *
  obtain ⟨r1, q1, z1⟩ := sub_whole k1.hc k1.ha (by have := k1.x0; have := k1.x1; have := k1.x2; omega)
  obtain ⟨r2, q2, z2⟩ := sub_whole k1.hd k1.hb (by have := k1.y0; have := k1.y1; have := k1.y2; omega)
  obtain ⟨r3, q3, z3⟩ := sub_whole k2.hc k2.ha (by have := k1.x0; have := k1.x1; have := k1.x2; omega)
  obtain ⟨r4, q4, z4⟩ := sub_whole k2.hd k2.hb (by have := k1.y0; have := k1.y1; have := k1.y2; omega)
  exact ⟨r1, r2, r3, r4, q1, q2, q3, q4, by rw [fgt_whole z1 z2, fgt_whole z3 z4]⟩
end Go.Proofs.Ytomhegagdpaieaa
