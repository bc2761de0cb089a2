/-
  Contracts: spec.Leaf, spec.New of a leaf.
-/
import Derived.Test.YtbigadbnijpcjaaGeo
import Derived.Test.YtbigadbnijpcjaaSeqT
namespace Go.Proofs.Ytbigadbnijpcjaa
open Go.RowKit
theorem leaf_any (x : Int) (w : World) :
    Calls Try.prog 60 #[.int .i64 x] w fun e w' => e = .returned (.bool (decide (x = 1) || decide (x = 2))) ∧ w = w' := by
  by_cases h1 : x = 1
  · subst h1
    go_enter Try.func60, Try.ntmps60
    go_wp2
    go_ret
    exact ⟨rfl, rfl⟩
  · by_cases h2 : x = 2
    · subst h2
      go_enter Try.func60, Try.ntmps60
      go_wp2
      go_ret
      exact ⟨rfl, rfl⟩
    · go_enter Try.func60, Try.ntmps60
      go_wp2
      go_ret
      refine ⟨?_, rfl⟩
      simp [h1, h2, go_sem]
/-- How many places a leaf keeps. -/
def cnt (kd : Int) (x : Int) (n : Nat) : Nat := if kd = 1 then min (n / wid (d3 x)) 1 else n / wid (d3 x)
theorem cnt_le (kd x : Int) (n : Nat) : cnt kd x n * wid (d3 x) ≤ n := by
  unfold cnt
  have := Nat.div_mul_le_self n (wid (d3 x))
  split
  · refine Nat.le_trans (Nat.mul_le_mul_right _ (Nat.min_le_left _ _)) this
  · exact this
theorem rd1_take {α : Type} {f : α → Value} {w : World} {A : Option Addr} {l : List α} (h : rd1 f w A l) (k : Nat) : rd1 f w A (l.take k) := fun hl => by
  obtain ⟨b, off, e, hb, hc⟩ := h (by simp at hl; omega)
  refine ⟨b, off, e, hb, fun i x hx => hc i x ?_⟩
  rw [List.getElem?_take] at hx
  split at hx
  · exact hx
  · cases hx
set_option maxRecDepth 100000 in
set_option maxHeartbeats 800000 in
theorem newLine_any (A B : Option Addr) (X : List Nat) (n c m d : Nat) (x : Int) (w : World) (hn : X.length = n) (hr : rd1 (.float .f64) w A X) (hl : n ≤ 65536) (hc : n ≤ c) (hc2 : c ≤ maxLen) :
    Calls Try.prog 15 #[.agg #[.int .i64 2, .int .i64 x, .slice A n c, .slice B m d]] w fun e w' => ∃ D cd, e = .returned (.agg (gcells 2 (d3 x) D (cnt 2 x n * wid (d3 x)) cd)) ∧
      w'.ownsRow w.heap.size 33 1 (.slice D (cnt 2 x n * wid (d3 x)) cd) (cnt 2 x n * wid (d3 x)) (fls (X.take (cnt 2 x n * wid (d3 x)))) ∧ Below w.heap.size w w' := by
  have HF := Lib.hid fun W => leaf_any 2 W
  have ha := and3 x
  have HW := Lib.hid fun W => width_any (d3 x) (d3_lt x) W
  have hcn := cnt_le 2 x n
  have hwp := wid_pos (d3 x)
  have hw4 : wid (d3 x) ≤ 4 := by unfold wid; omega
  have hd4 := d3_lt x
  have e2 : cnt 2 x n = n / wid (d3 x) := by unfold cnt; rw [if_neg (by decide)]
  have hq : (n : Int) / (wid (d3 x) : Int) = (cnt 2 x n : Nat) := by rw [e2]; simp
  have HX : Hid (∀ W, Below w.heap.size w W → rdC W A (cnt 2 x n * wid (d3 x)) 1 (fls (X.take (cnt 2 x n * wid (d3 x))))) := fun W hb => by
    have := rd1_C (rd1_take (rd1_tr hr hb) (cnt 2 x n * wid (d3 x)))
    simp only [List.length_take, hn, Nat.min_eq_left hcn] at this
    exact this
  have HFL := Lib.hid (fls_one (X.take (cnt 2 x n * wid (d3 x))))
  unfold maxLen at hc2
  clear hr hn e2
  generalize fls (X.take (cnt 2 x n * wid (d3 x))) = ys at *
  generalize hk : cnt 2 x n = N at *
  generalize wid (d3 x) = dd at *
  generalize d3 x = k at *
  clear hk
  have z0 : w.heap.size < w.heap.size + 1 + 1 + 1 := by omega
  have z1 : w.heap.size + 1 < w.heap.size + 1 + 1 + 1 := by omega
  have z2 : w.heap.size + 1 + 1 < w.heap.size + 1 + 1 + 1 := by omega
  go_enter Try.func15, Try.ntmps15
  go_wp2_with fail
  refine (HF.out _).mono ?_
  rintro e W ⟨rfl, rfl⟩
  go_wp2_with fail
  refine wp_region_calm (by kernel_rfl) (by kernel_rfl) ?_
  repeat (go_big_quiet_step ((first | (go_at_call 17; with_reducible exact calm_of_same (HW.out _)))))
  refine wpQuiet_nil ?_; intro w1 hb1
  have B1 := blk_tr (blk_al (blk_al (blk_new w 25 #[.int .i64 2, .int .i64 x, .slice A n c, .slice B m d]) (.cells #[.int .i64 0, .int .i64 0, .slice none 0 0, .slice none 0 0] 25)) (.cells #[.int .i64 2, .int .i64 k, .slice none 0 0, .slice none 0 0] 25)) hb1
  have B2 := blk_tr (blk_al (blk_new (w.alloc (.cells #[.int .i64 2, .int .i64 x, .slice A n c, .slice B m d] 25)) 25 #[.int .i64 0, .int .i64 0, .slice none 0 0, .slice none 0 0]) (.cells #[.int .i64 2, .int .i64 k, .slice none 0 0, .slice none 0 0] 25)) hb1
  have B3 := blk_tr (blk_new ((w.alloc (.cells #[.int .i64 2, .int .i64 x, .slice A n c, .slice B m d] 25)).alloc (.cells #[.int .i64 0, .int .i64 0, .slice none 0 0, .slice none 0 0] 25)) 25 #[.int .i64 2, .int .i64 k, .slice none 0 0, .slice none 0 0]) hb1
  have hbw : Below w.heap.size w w1 := bl_tr (bl_al (bl_al (bl_al (bl_refl _) _) _) _) hb1
  have hsz := hb1.size
  simp only [World.size_alloc] at B2 B3 hsz
  clear hb1 HF ha hq z0 z1 z2
  have z0 : w.heap.size < w1.heap.size := by omega
  have z2 : w.heap.size + 1 + 1 < w1.heap.size := by omega
  have a2 := (blk_cell B1 2).trans (rfl : _ = some (Value.slice A n c))
  have d0 := (blk_cell B3 0).trans (rfl : _ = some (Value.int .i64 2))
  have d1 := (blk_cell B3 1).trans (rfl : _ = some (Value.int .i64 k))
  have d2 := (blk_cell B3 2).trans (rfl : _ = some (Value.slice none 0 0))
  have hNn : N ≤ n := by
    have := Nat.le_mul_of_pos_right N hwp
    omega
  rw [IntWalk.wrap64_in (N : Int) (by omega)]
  have hmul : (N : Int) * (dd : Int) = ((N * dd : Nat) : Int) := by simp
  have hM : N * dd ≤ 65536 := by omega
  have HX1 := Lib.hid (HX.out _ (bl_dr hbw))
  obtain ⟨D, cd, w2, hr2, hown, hb2⟩ := app_rd (P := Try.prog) (t := 22) (ty := 22) elem_f64 (c' := c) (own_nil w1.drew w1.heap.size 33 1) HX1.out HFL.out (by simp) (by unfold maxLen; omega) (by omega)
  clear HX HX1
  generalize hMM : N * dd = M at *
  have HMM := Lib.hid hMM
  clear hMM
  go_wp2
  refine wp_region_seq_tail [7, 10] 11 (by kernel_rfl) (by kernel_rfl) ?_; simp only [List.take_succ_cons, List.take_zero, List.drop_succ_cons, List.drop_zero]
  repeat (refine sq_soft (fun K hK => ?_); go_simp; refine hK _ ?_; clear hK K)
  refine sq_heavy rfl rfl (fun K hK => ?_); go_simp; refine (HW.out _).mono ?_; rintro e W ⟨rfl, rfl⟩; refine ⟨_, rfl, ?_⟩; refine hK _ _ (Below.refl _ _) ?_; clear hK K; (try simp only [Act.put, List.setIfInBounds_toArray, List.set_cons_zero, List.set_cons_succ])
  repeat (refine sq_soft (fun K hK => ?_); go_simp; (try (go_ints; (try simp (disch := omega) only [if_pos]); (try go_simp))); refine hK _ ?_; clear hK K)
  have hMc : M ≤ c := by omega
  refine sq_soft (fun K hK => ?_); go_simp; (try simp only [if_pos hMc]); (try go_simp); refine hK _ ?_; clear hK K; (try simp only [Act.put, List.setIfInBounds_toArray, List.set_cons_zero, List.set_cons_succ])
  refine sq_heavy rfl rfl (fun K hK => ?_); refine heavy_append _ _ _ rfl rfl rfl (hr2) ?_; refine hK _ _ (Below.mono hb2 (by (first | (with_reducible exact Nat.le_refl _) | (with_reducible assumption) | omega | (simp; omega) | (simp; done)))) ?_; clear hK K; (try simp only [Act.put, List.setIfInBounds_toArray, List.set_cons_zero, List.set_cons_succ])
  refine sq_nil ?_
  have C2 := blk_below (show Blk w1.drew _ _ _ from B2) hb2 (by omega)
  have C3 := blk_below (show Blk w1.drew _ _ _ from B3) hb2 (by omega)
  have hbw2 := (bl_dr hbw).trans (hb2.mono (by omega))
  have hs2 := hb2.size
  simp at hs2
  clear B1 B2 B3 a2 d0 d1 d2 hb2 hr2 HFL HW
  have z3 : w.heap.size + 1 < w2.heap.size := by omega
  have z4 : w.heap.size + 1 + 1 < w2.heap.size := by omega
  have r0 := (blk_cell C2 0).trans (rfl : _ = some (Value.int .i64 0))
  have r1 := (blk_cell C2 1).trans (rfl : _ = some (Value.int .i64 0))
  have r2 := (blk_cell C2 2).trans (rfl : _ = some (Value.slice none 0 0))
  have r3 := (blk_cell C2 3).trans (rfl : _ = some (Value.slice none 0 0))
  have fr := fun i => blk_frozen C2 i
  have d0 := (blk_cell C3 0).trans (rfl : _ = some (Value.int .i64 2))
  have d1 := (blk_cell C3 1).trans (rfl : _ = some (Value.int .i64 k))
  have d2 := (blk_cell C3 2).trans (rfl : _ = some (Value.slice none 0 0))
  have d3' := (blk_cell C3 3).trans (rfl : _ = some (Value.slice none 0 0))
  have fd := fun i => blk_frozen C3 i
  clear C2 C3
  have ho := own_base hown (b := w.heap.size) (by omega)
  have hnf : (Value.slice D (0 + M) cd).ownBlock ≠ some (w.heap.size + 1 + 1) := fun e => by have := (own_lt hown e).1; omega
  have hne : (Value.slice D (0 + M) cd).ownBlock ≠ some (w.heap.size + 1) := fun e => by have := (own_lt hown e).1; omega
  simp only [Nat.zero_add, List.nil_append] at ho hnf hne ⊢
  clear hown
  go_wp2
  rw [HMM.out]
  refine bodyPost_ret (v := .agg (gcells 2 k D M cd)) (by simp [results, Try.results15, gcells, go_sem, *]) rfl ⟨D, cd, rfl, ?_, ?_⟩
  · exact own_far (own_far (own_far (own_far (own_far ho hnf _) hne _) hne _) hne _) hne _
  · repeat' (first | (with_reducible exact bl_refl _) | (with_reducible assumption) | (with_reducible apply bl_al) | (with_reducible apply bl_dr) | (with_reducible refine bl_st ?_ ?_ _) | (with_reducible refine bl_tr ?_ (by with_reducible assumption)) | (first | (with_reducible exact Nat.le_refl _) | (with_reducible assumption) | omega | (simp; omega) | (simp; done)))
end Go.Proofs.Ytbigadbnijpcjaa
