/-
  Contracts: sequences (type of coordinates, widths, length, a place).
-/
import Derived.Test.YtbigadbnijpcjaaRd
import Derived.Test.YtbigadbnijpcjaaNum
import Derived.Test.YtbigadbnijpcjaaSeq
import Derived.Deep.QuietTactic
import Derived.BigQuiet
import Derived.Deep.WholeRow
import Derived.Deep.MidRow
import Derived.OwnWalk
namespace Go.Proofs.Ytbigadbnijpcjaa
open Go.RowKit
theorem bl_two {n : Nat} {w A B : World} (hA : Below n w A) (hB : Below n w B) (hs : A.heap.size ≤ B.heap.size) : Below n A B :=
  ⟨hB.os.trans hA.os.symm, hB.tape.trans hA.tape.symm, hB.output.trans hA.output.symm, hs, fun i hi => (hB.block i hi).trans (hA.block i hi).symm⟩
theorem ctype_any (k : Nat) (A : Option Addr) (n c : Nat) (w : World) :
    Calls Try.prog 132 #[.agg #[.int .u8 k, .slice A n c]] w fun e w' => e = .returned (.int .u8 k) ∧ Below w.heap.size w w' := by
  go_enter Try.func132, Try.ntmps132
  go_wp2
  refine bodyPost_ret (v := .int .u8 k) (by simp [results, Try.results132, go_sem, ]) rfl ⟨rfl, ?_⟩
  repeat' (first | (with_reducible exact bl_refl _) | (with_reducible assumption) | (with_reducible apply bl_al) | (with_reducible apply bl_dr) | (with_reducible refine bl_st ?_ ?_ _) | (with_reducible refine bl_tr ?_ (by with_reducible assumption)) | (first | (with_reducible exact Nat.le_refl _) | (with_reducible assumption) | omega | (simp; omega) | (simp; done)))
theorem is3D_any (k : Nat) (hk : k < 4) (w : World) :
    Calls Try.prog 108 #[.int .u8 k] w fun e w' => e = .returned (.bool (k % 2 == 1)) ∧ w = w' := by
  match k, hk with
  | 0, _ | 1, _ | 2, _ | 3, _ =>
    go_enter Try.func108, Try.ntmps108
    go_wp2
    go_ret
    exact ⟨rfl, rfl⟩
theorem isM_any (k : Nat) (hk : k < 4) (w : World) :
    Calls Try.prog 109 #[.int .u8 k] w fun e w' => e = .returned (.bool (decide (2 ≤ k))) ∧ w = w' := by
  match k, hk with
  | 0, _ | 1, _ | 2, _ | 3, _ =>
    go_enter Try.func109, Try.ntmps109
    go_wp2
    go_ret
    exact ⟨rfl, rfl⟩
/-- How many numbers a place has. -/
def wid (k : Nat) : Nat := 2 + k % 2 + k / 2 % 2
theorem dim_any (k : Nat) (hk : k < 4) (w : World) :
    Calls Try.prog 138 #[.int .u8 k] w fun e w' => e = .returned (.int .i64 (wid k)) ∧ w = w' := by
  match k, hk with
  | 0, _ =>
    have hx : ∀ (w : World), (Instr.index 238 (.agg #[.int .i64 2, .int .i64 3, .int .i64 3, .int .i64 4]) (.int .u8 0)).run Try.prog w = .ok (.int .i64 2) w := fun _ => by kernel_rfl
    go_enter Try.func138, Try.ntmps138
    go_wp2
    go_ret
    exact ⟨rfl, rfl⟩
  | 1, _ =>
    have hx : ∀ (w : World), (Instr.index 238 (.agg #[.int .i64 2, .int .i64 3, .int .i64 3, .int .i64 4]) (.int .u8 1)).run Try.prog w = .ok (.int .i64 3) w := fun _ => by kernel_rfl
    go_enter Try.func138, Try.ntmps138
    go_wp2
    go_ret
    exact ⟨rfl, rfl⟩
  | 2, _ =>
    have hx : ∀ (w : World), (Instr.index 238 (.agg #[.int .i64 2, .int .i64 3, .int .i64 3, .int .i64 4]) (.int .u8 2)).run Try.prog w = .ok (.int .i64 3) w := fun _ => by kernel_rfl
    go_enter Try.func138, Try.ntmps138
    go_wp2
    go_ret
    exact ⟨rfl, rfl⟩
  | 3, _ =>
    have hx : ∀ (w : World), (Instr.index 238 (.agg #[.int .i64 2, .int .i64 3, .int .i64 3, .int .i64 4]) (.int .u8 3)).run Try.prog w = .ok (.int .i64 4) w := fun _ => by kernel_rfl
    go_enter Try.func138, Try.ntmps138
    go_wp2
    go_ret
    exact ⟨rfl, rfl⟩
theorem width_any (k : Nat) (hk : k < 4) (w : World) :
    Calls Try.prog 17 #[.int .i64 k] w fun e w' => e = .returned (.int .i64 (wid k)) ∧ w = w' := by
  match k, hk with
  | 0, _ | 1, _ | 2, _ | 3, _ =>
    go_enter Try.func17, Try.ntmps17
    go_wp2
    go_ret
    exact ⟨by kernel_rfl, rfl⟩
theorem dimOf_any (k : Nat) (hk : k < 4) (w : World) :
    Calls Try.prog 71 #[.int .i64 k] w fun e w' => e = .returned (.int .u8 k) ∧ w = w' := by
  match k, hk with
  | 0, _ | 1, _ | 2, _ | 3, _ =>
    go_enter Try.func71, Try.ntmps71
    go_wp2
    go_ret
    exact ⟨by kernel_rfl, rfl⟩
theorem length_any (k : Nat) (hk : k < 4) (A : Option Addr) (n c m : Nat) (hn : n = m * wid k) (hm : n ≤ maxLen) (w : World) :
    Calls Try.prog 117 #[.agg #[.int .u8 k, .slice A n c]] w fun e w' => e = .returned (.int .i64 m) ∧ Below w.heap.size w w' := by
  have HD := Lib.hid fun W => dim_any k hk W
  have hd : 0 < wid k := by unfold wid; omega
  have hd4 : wid k ≤ 4 := by unfold wid; omega
  have hq := Lib.hid (show n / wid k = m by rw [hn]; exact Nat.mul_div_cancel _ hd)
  generalize wid k = d at *
  clear hn
  go_enter Try.func117, Try.ntmps117
  go_wp2
  refine wp_region_calm (by kernel_rfl) (by kernel_rfl) ?_
  repeat (go_big_quiet_step ((first | (go_at_call 138; with_reducible exact calm_of_same (HD.out _)))))
  refine wpQuiet_nil ?_; intro w1 hb1
  have hw : wrap64 ((n : Int) / (d : Int)) = (m : Int) := by
    rw [← Int.natCast_ediv, hq.out]
    have : m ≤ n := by rw [← hq.out]; exact Nat.div_le_self _ _
    unfold maxLen at hm
    exact IntWalk.wrap64_in _ (by omega)
  go_wp2
  refine bodyPost_ret (v := .int .i64 m) (by simp [results, Try.results117, go_sem, hw]) rfl ⟨rfl, ?_⟩
  repeat' (first | (with_reducible exact bl_refl _) | (with_reducible assumption) | (with_reducible apply bl_al) | (with_reducible apply bl_dr) | (with_reducible refine bl_st ?_ ?_ _) | (with_reducible refine bl_tr ?_ (by with_reducible assumption)) | (first | (with_reducible exact Nat.le_refl _) | (with_reducible assumption) | omega | (simp; omega) | (simp; done)))
set_option maxRecDepth 100000 in
theorem get0_any (b off cap n i : Nat) (x0 x1 : Nat) (w : World) (hi : i * 2 + 1 < n) (hn : n ≤ maxLen) (hb : b < w.heap.size)
    (h0 : w.cell? ⟨b, off + i * 2, none⟩ = some (.float .f64 x0)) (h1 : w.cell? ⟨b, off + (i * 2 + 1), none⟩ = some (.float .f64 x1)) :
    Calls Try.prog 115 #[.agg #[.int .u8 0, .slice (some ⟨b, off, none⟩) n cap], .int .i64 i] w fun e w' => e = .returned (.agg #[.float .f64 x0, .float .f64 x1, .float .f64 0, .float .f64 0, .int .u8 0]) ∧ Below w.heap.size w w' := by
  have HD : Hid (∀ W, Calls Try.prog 138 #[.int .u8 0] W fun e w' => e = .returned (.int .i64 2) ∧ W = w') := Lib.hid fun W => dim_any 0 (by decide) W
  unfold maxLen at hn
  have hb2 : b < w.heap.size + 1 + 1 := by omega
  have hn2 : ¬ b = w.heap.size := by omega
  have hn3 : ¬ b = w.heap.size + 1 := by omega
  go_enter Try.func115, Try.ntmps115
  go_wp2_with fail
  refine (HD.out _).mono ?_
  rintro e w1 ⟨rfl, rfl⟩
  go_wp2
  refine wp_region_seq [19, 20] (by kernel_rfl) (by kernel_rfl) ?_
  repeat (refine sq_soft (fun K hK => ?_); go_simp; (try (go_ints; (try simp (disch := omega) only [if_pos]); (try go_simp))); refine hK _ ?_; clear hK K)
  refine sq_heavy rfl rfl (fun K hK => ?_); go_simp; refine hK _ _ (Below.mono (bl_al (bl_refl _) _) ?_) ?_; (focus (first | (with_reducible exact Nat.le_refl _) | (with_reducible assumption) | omega | (simp; omega) | (simp; done))); clear hK K; (try simp only [Act.put, List.setIfInBounds_toArray, List.set_cons_zero, List.set_cons_succ])
  refine sq_heavy rfl rfl (fun K hK => ?_); go_simp; (first | refine hK _ _ (bl_two (bl_dr (bl_al (bl_refl _) _)) (bl_dr (bl_al (bl_refl _) _)) (by simp)) ?_ | refine hK _ _ (bl_two (bl_al (bl_refl _) _) (bl_al (bl_refl _) _) (by simp)) ?_); clear hK K; (try simp only [Act.put, List.setIfInBounds_toArray, List.set_cons_zero, List.set_cons_succ])
  refine sq_nil ?_
  go_wp2
  refine bodyPost_ret (v := .agg #[.float .f64 x0, .float .f64 x1, .float .f64 0, .float .f64 0, .int .u8 0]) (by simp [results, Try.results115, go_sem, ]) rfl ⟨rfl, ?_⟩
  repeat' (first | (with_reducible exact bl_refl _) | (with_reducible assumption) | (with_reducible apply bl_al) | (with_reducible apply bl_dr) | (with_reducible refine bl_st ?_ ?_ _) | (with_reducible refine bl_tr ?_ (by with_reducible assumption)) | (first | (with_reducible exact Nat.le_refl _) | (with_reducible assumption) | omega | (simp; omega) | (simp; done)))
set_option maxRecDepth 100000 in
theorem get1_any (b off cap n i : Nat) (x0 x1 x2 : Nat) (w : World) (hi : i * 3 + 2 < n) (hn : n ≤ maxLen) (hb : b < w.heap.size)
    (h0 : w.cell? ⟨b, off + i * 3, none⟩ = some (.float .f64 x0)) (h1 : w.cell? ⟨b, off + (i * 3 + 1), none⟩ = some (.float .f64 x1)) (h2 : w.cell? ⟨b, off + (i * 3 + 2), none⟩ = some (.float .f64 x2)) :
    Calls Try.prog 115 #[.agg #[.int .u8 1, .slice (some ⟨b, off, none⟩) n cap], .int .i64 i] w fun e w' => e = .returned (.agg #[.float .f64 x0, .float .f64 x1, .float .f64 x2, .float .f64 0, .int .u8 1]) ∧ Below w.heap.size w w' := by
  have HD : Hid (∀ W, Calls Try.prog 138 #[.int .u8 1] W fun e w' => e = .returned (.int .i64 3) ∧ W = w') := Lib.hid fun W => dim_any 1 (by decide) W
  unfold maxLen at hn
  have hb2 : b < w.heap.size + 1 + 1 := by omega
  have hn2 : ¬ b = w.heap.size := by omega
  have hn3 : ¬ b = w.heap.size + 1 := by omega
  go_enter Try.func115, Try.ntmps115
  go_wp2_with fail
  refine (HD.out _).mono ?_
  rintro e w1 ⟨rfl, rfl⟩
  go_wp2
  refine wp_region_seq [19, 20] (by kernel_rfl) (by kernel_rfl) ?_
  repeat (refine sq_soft (fun K hK => ?_); go_simp; (try (go_ints; (try simp (disch := omega) only [if_pos]); (try go_simp))); refine hK _ ?_; clear hK K)
  refine sq_heavy rfl rfl (fun K hK => ?_); go_simp; refine hK _ _ (Below.mono (bl_al (bl_refl _) _) ?_) ?_; (focus (first | (with_reducible exact Nat.le_refl _) | (with_reducible assumption) | omega | (simp; omega) | (simp; done))); clear hK K; (try simp only [Act.put, List.setIfInBounds_toArray, List.set_cons_zero, List.set_cons_succ])
  refine sq_heavy rfl rfl (fun K hK => ?_); go_simp; (first | refine hK _ _ (bl_two (bl_dr (bl_al (bl_refl _) _)) (bl_dr (bl_al (bl_refl _) _)) (by simp)) ?_ | refine hK _ _ (bl_two (bl_al (bl_refl _) _) (bl_al (bl_refl _) _) (by simp)) ?_); clear hK K; (try simp only [Act.put, List.setIfInBounds_toArray, List.set_cons_zero, List.set_cons_succ])
  refine sq_nil ?_
  go_wp2
  refine bodyPost_ret (v := .agg #[.float .f64 x0, .float .f64 x1, .float .f64 x2, .float .f64 0, .int .u8 1]) (by simp [results, Try.results115, go_sem, ]) rfl ⟨rfl, ?_⟩
  repeat' (first | (with_reducible exact bl_refl _) | (with_reducible assumption) | (with_reducible apply bl_al) | (with_reducible apply bl_dr) | (with_reducible refine bl_st ?_ ?_ _) | (with_reducible refine bl_tr ?_ (by with_reducible assumption)) | (first | (with_reducible exact Nat.le_refl _) | (with_reducible assumption) | omega | (simp; omega) | (simp; done)))
set_option maxRecDepth 100000 in
theorem get2_any (b off cap n i : Nat) (x0 x1 x2 : Nat) (w : World) (hi : i * 3 + 2 < n) (hn : n ≤ maxLen) (hb : b < w.heap.size)
    (h0 : w.cell? ⟨b, off + i * 3, none⟩ = some (.float .f64 x0)) (h1 : w.cell? ⟨b, off + (i * 3 + 1), none⟩ = some (.float .f64 x1)) (h2 : w.cell? ⟨b, off + (i * 3 + 2), none⟩ = some (.float .f64 x2)) :
    Calls Try.prog 115 #[.agg #[.int .u8 2, .slice (some ⟨b, off, none⟩) n cap], .int .i64 i] w fun e w' => e = .returned (.agg #[.float .f64 x0, .float .f64 x1, .float .f64 0, .float .f64 x2, .int .u8 2]) ∧ Below w.heap.size w w' := by
  have HD : Hid (∀ W, Calls Try.prog 138 #[.int .u8 2] W fun e w' => e = .returned (.int .i64 3) ∧ W = w') := Lib.hid fun W => dim_any 2 (by decide) W
  unfold maxLen at hn
  have hb2 : b < w.heap.size + 1 + 1 := by omega
  have hn2 : ¬ b = w.heap.size := by omega
  have hn3 : ¬ b = w.heap.size + 1 := by omega
  go_enter Try.func115, Try.ntmps115
  go_wp2_with fail
  refine (HD.out _).mono ?_
  rintro e w1 ⟨rfl, rfl⟩
  go_wp2
  refine wp_region_seq [19, 20] (by kernel_rfl) (by kernel_rfl) ?_
  repeat (refine sq_soft (fun K hK => ?_); go_simp; (try (go_ints; (try simp (disch := omega) only [if_pos]); (try go_simp))); refine hK _ ?_; clear hK K)
  refine sq_heavy rfl rfl (fun K hK => ?_); go_simp; refine hK _ _ (Below.mono (bl_al (bl_refl _) _) ?_) ?_; (focus (first | (with_reducible exact Nat.le_refl _) | (with_reducible assumption) | omega | (simp; omega) | (simp; done))); clear hK K; (try simp only [Act.put, List.setIfInBounds_toArray, List.set_cons_zero, List.set_cons_succ])
  refine sq_heavy rfl rfl (fun K hK => ?_); go_simp; (first | refine hK _ _ (bl_two (bl_dr (bl_al (bl_refl _) _)) (bl_dr (bl_al (bl_refl _) _)) (by simp)) ?_ | refine hK _ _ (bl_two (bl_al (bl_refl _) _) (bl_al (bl_refl _) _) (by simp)) ?_); clear hK K; (try simp only [Act.put, List.setIfInBounds_toArray, List.set_cons_zero, List.set_cons_succ])
  refine sq_nil ?_
  go_wp2
  refine bodyPost_ret (v := .agg #[.float .f64 x0, .float .f64 x1, .float .f64 0, .float .f64 x2, .int .u8 2]) (by simp [results, Try.results115, go_sem, ]) rfl ⟨rfl, ?_⟩
  repeat' (first | (with_reducible exact bl_refl _) | (with_reducible assumption) | (with_reducible apply bl_al) | (with_reducible apply bl_dr) | (with_reducible refine bl_st ?_ ?_ _) | (with_reducible refine bl_tr ?_ (by with_reducible assumption)) | (first | (with_reducible exact Nat.le_refl _) | (with_reducible assumption) | omega | (simp; omega) | (simp; done)))
set_option maxRecDepth 100000 in
theorem get3_any (b off cap n i : Nat) (x0 x1 x2 x3 : Nat) (w : World) (hi : i * 4 + 3 < n) (hn : n ≤ maxLen) (hb : b < w.heap.size)
    (h0 : w.cell? ⟨b, off + i * 4, none⟩ = some (.float .f64 x0)) (h1 : w.cell? ⟨b, off + (i * 4 + 1), none⟩ = some (.float .f64 x1)) (h2 : w.cell? ⟨b, off + (i * 4 + 2), none⟩ = some (.float .f64 x2)) (h3 : w.cell? ⟨b, off + (i * 4 + 3), none⟩ = some (.float .f64 x3)) :
    Calls Try.prog 115 #[.agg #[.int .u8 3, .slice (some ⟨b, off, none⟩) n cap], .int .i64 i] w fun e w' => e = .returned (.agg #[.float .f64 x0, .float .f64 x1, .float .f64 x2, .float .f64 x3, .int .u8 3]) ∧ Below w.heap.size w w' := by
  have HD : Hid (∀ W, Calls Try.prog 138 #[.int .u8 3] W fun e w' => e = .returned (.int .i64 4) ∧ W = w') := Lib.hid fun W => dim_any 3 (by decide) W
  unfold maxLen at hn
  have hb2 : b < w.heap.size + 1 + 1 := by omega
  have hn2 : ¬ b = w.heap.size := by omega
  have hn3 : ¬ b = w.heap.size + 1 := by omega
  go_enter Try.func115, Try.ntmps115
  go_wp2_with fail
  refine (HD.out _).mono ?_
  rintro e w1 ⟨rfl, rfl⟩
  go_wp2
  refine wp_region_seq [19, 20] (by kernel_rfl) (by kernel_rfl) ?_
  repeat (refine sq_soft (fun K hK => ?_); go_simp; (try (go_ints; (try simp (disch := omega) only [if_pos]); (try go_simp))); refine hK _ ?_; clear hK K)
  refine sq_heavy rfl rfl (fun K hK => ?_); go_simp; refine hK _ _ (Below.mono (bl_al (bl_refl _) _) ?_) ?_; (focus (first | (with_reducible exact Nat.le_refl _) | (with_reducible assumption) | omega | (simp; omega) | (simp; done))); clear hK K; (try simp only [Act.put, List.setIfInBounds_toArray, List.set_cons_zero, List.set_cons_succ])
  refine sq_heavy rfl rfl (fun K hK => ?_); go_simp; (first | refine hK _ _ (bl_two (bl_dr (bl_al (bl_refl _) _)) (bl_dr (bl_al (bl_refl _) _)) (by simp)) ?_ | refine hK _ _ (bl_two (bl_al (bl_refl _) _) (bl_al (bl_refl _) _) (by simp)) ?_); clear hK K; (try simp only [Act.put, List.setIfInBounds_toArray, List.set_cons_zero, List.set_cons_succ])
  refine sq_nil ?_
  go_wp2
  refine bodyPost_ret (v := .agg #[.float .f64 x0, .float .f64 x1, .float .f64 x2, .float .f64 x3, .int .u8 3]) (by simp [results, Try.results115, go_sem, ]) rfl ⟨rfl, ?_⟩
  repeat' (first | (with_reducible exact bl_refl _) | (with_reducible assumption) | (with_reducible apply bl_al) | (with_reducible apply bl_dr) | (with_reducible refine bl_st ?_ ?_ _) | (with_reducible refine bl_tr ?_ (by with_reducible assumption)) | (first | (with_reducible exact Nat.le_refl _) | (with_reducible assumption) | omega | (simp; omega) | (simp; done)))
end Go.Proofs.Ytbigadbnijpcjaa
