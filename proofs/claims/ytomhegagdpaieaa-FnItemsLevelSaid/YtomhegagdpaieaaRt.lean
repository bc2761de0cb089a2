/-
  Contracts: the index's boxes: rtree.fastMin, fastMax, combine; impl.box.
-/
import Derived.Test.YtomhegagdpaieaaTi
namespace Go.Proofs.Ytomhegagdpaieaa
open Go.RowKit Fl
def rmin (a b : Nat) : Nat := if flt a b then a else b
def rmax (a b : Nat) : Nat := if fgt a b then a else b
theorem rmin_any (a b : Nat) (w : World) :
    Calls Try.prog 73 #[.float .f64 a, .float .f64 b] w fun e w' => e = .returned (.float .f64 (rmin a b)) ∧ w = w' := by
  go_enter Try.func73, Try.ntmps73
  go_wp2
  all_goals go_ret
  all_goals (refine ⟨?_, rfl⟩; unfold rmin; simp_all)
theorem rmax_any (a b : Nat) (w : World) :
    Calls Try.prog 74 #[.float .f64 a, .float .f64 b] w fun e w' => e = .returned (.float .f64 (rmax a b)) ∧ w = w' := by
  go_enter Try.func74, Try.ntmps74
  go_wp2
  all_goals go_ret
  all_goals (refine ⟨?_, rfl⟩; unfold rmax; simp_all)
set_option maxRecDepth 100000 in
theorem combine_any (a b c d a' b' c' d' : Nat) (w : World) :
    Calls Try.prog 70 #[.agg #[.float .f64 a, .float .f64 b, .float .f64 c, .float .f64 d], .agg #[.float .f64 a', .float .f64 b', .float .f64 c', .float .f64 d']] w fun e w' => e = .returned (.agg #[.float .f64 (rmin a a'), .float .f64 (rmin b b'), .float .f64 (rmax c c'), .float .f64 (rmax d d')]) ∧ Below w.heap.size w w' := by
  have z0 : w.heap.size < w.heap.size + 1 + 1 + 1 := by omega
  have z1 : w.heap.size + 1 < w.heap.size + 1 + 1 + 1 := by omega
  go_enter Try.func70, Try.ntmps70
  go_wp2_with fail
  refine wp_region_calm_tail 21 (by kernel_rfl) (by kernel_rfl) ?_; simp only [List.take_succ_cons, List.take_zero, List.drop_succ_cons, List.drop_zero]
  repeat (go_big_quiet_step ((first | (go_at_call 73; with_reducible exact calm_of_same (rmin_any _ _ _)) | (go_at_call 74; with_reducible exact calm_of_same (rmax_any _ _ _)))))
  refine wpQuiet_nil ?_; intro w1 hb1
  have hz_w1 := hb1.size; (try simp at hz_w1); have z_w1_0 : w.heap.size < w1.heap.size := (by omega); have rc_w1_0 := bl_rc hb1 (b := w.heap.size) (by (first | (with_reducible exact Nat.le_refl _) | (with_reducible assumption) | omega | (simp; omega) | (simp; done))); have rf_w1_0 := bl_rf hb1 (b := w.heap.size) (by (first | (with_reducible exact Nat.le_refl _) | (with_reducible assumption) | omega | (simp; omega) | (simp; done))); have z_w1_1 : w.heap.size + 1 < w1.heap.size := (by omega); have rc_w1_1 := bl_rc hb1 (b := w.heap.size + 1) (by (first | (with_reducible exact Nat.le_refl _) | (with_reducible assumption) | omega | (simp; omega) | (simp; done))); have rf_w1_1 := bl_rf hb1 (b := w.heap.size + 1) (by (first | (with_reducible exact Nat.le_refl _) | (with_reducible assumption) | omega | (simp; omega) | (simp; done))); have z_w1_2 : w.heap.size + 1 + 1 < w1.heap.size := (by omega); have rc_w1_2 := bl_rc hb1 (b := w.heap.size + 1 + 1) (by (first | (with_reducible exact Nat.le_refl _) | (with_reducible assumption) | omega | (simp; omega) | (simp; done))); have rf_w1_2 := bl_rf hb1 (b := w.heap.size + 1 + 1) (by (first | (with_reducible exact Nat.le_refl _) | (with_reducible assumption) | omega | (simp; omega) | (simp; done)))
  go_wp2
  refine bodyPost_ret (v := .agg #[.float .f64 (rmin a a'), .float .f64 (rmin b b'), .float .f64 (rmax c c'), .float .f64 (rmax d d')]) (by simp [results, Try.results70, go_sem, *]) rfl ⟨rfl, ?_⟩
  repeat' (first | (with_reducible exact bl_refl _) | (with_reducible assumption) | (with_reducible apply bl_al) | (with_reducible apply bl_dr) | (with_reducible refine bl_st ?_ ?_ _) | (with_reducible refine bl_tr ?_ (by with_reducible assumption)) | (first | (with_reducible exact Nat.le_refl _) | (with_reducible assumption) | omega | (simp; omega) | (simp; done)))
theorem box_any (a b c d : Nat) (w : World) :
    Calls Try.prog 60 #[.agg #[.float .f64 a, .float .f64 b, .float .f64 c, .float .f64 d]] w fun e w' => e = .returned (.agg #[.float .f64 a, .float .f64 b, .float .f64 c, .float .f64 d]) ∧ Below w.heap.size w w' := by
  go_enter Try.func60, Try.ntmps60
  go_wp2
  refine bodyPost_ret (v := .agg #[.float .f64 a, .float .f64 b, .float .f64 c, .float .f64 d]) (by simp [results, Try.results60, go_sem, ]) rfl ⟨rfl, ?_⟩
  repeat' (first | (with_reducible exact bl_refl _) | (with_reducible assumption) | (with_reducible apply bl_al) | (with_reducible apply bl_dr) | (with_reducible refine bl_st ?_ ?_ _) | (with_reducible refine bl_tr ?_ (by with_reducible assumption)) | (first | (with_reducible exact Nat.le_refl _) | (with_reducible assumption) | omega | (simp; omega) | (simp; done)))
end Go.Proofs.Ytomhegagdpaieaa
