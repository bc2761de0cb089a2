/-
  Contracts: hasAtLeast2DistinctPointsInSeq, LineString.Validate.
-/
import Derived.Test.YtbigadbnijpcjaaVl
namespace Go.Proofs.Ytbigadbnijpcjaa
open Go.RowKit Fl
theorem eqF (d : Nat) (a b : Nat) (w : World) : (Op.equalIn (d + 1) 33 (.float .f64 a) (.float .f64 b)).run Try.prog w = .ok (feq a b) w := by
  simp [Op.equalIn, run_underlying Try.underlying33, Op.floatEq, ← feq_def]
theorem eqGXY_d (d : Nat) (a b a' b' : Nat) (w : World) : (Op.equalIn (d + 2) 104 (.agg #[.float .f64 a, .float .f64 b]) (.agg #[.float .f64 a', .float .f64 b'])).run Try.prog w = .ok (feq a a' && feq b b') w := by
  have hS : Try.prog.underlying 104 = some (.struct (Try.prog.fieldsOf 104)) := by kernel_rfl
  rw [run_equalIn_agg w (d + 1) 104 _ _ hS (by kernel_rfl)]
  have e := eqF d
  have a3 := Try.isAgg33
  have z3 := Try.sizeOf33
  simp only [Program.fieldsOf, Try.underlying104]
  go_simp
  cases feq a a' <;> cases feq b b' <;> simp
theorem neqGXY (a b a' b' : Nat) (w : World) : (binOp .neq 104 (.agg #[.float .f64 a, .float .f64 b]) (.agg #[.float .f64 a', .float .f64 b'])).run Try.prog w = .ok (.bool (fne a a' || fne b b')) w := by
  rw [run_neq_struct, eqGXY_d 9998 a b a' b' w]
  have h : ∀ x y, fne x y = !(feq x y) := fun _ _ => rfl
  rw [h, h]
  cases feq a a' <;> cases feq b b' <;> rfl
attribute [local go_sem ↓] neqGXY
set_option maxRecDepth 100000 in
theorem hasTwo_any (k : Nat) (hk : k < 4) (A : Option Addr) (X : List Nat) (n cap m : Nat) (w : World) (hn : X.length = n) (hX : n = m * wid k) (hm0 : 0 < m) (hr : rd1 (.float .f64) w A X) (hL : n ≤ 100000000) (hall : (List.range m).all (okP k X) = true) :
    Calls Try.prog 175 #[.agg #[.int .u8 k, .slice A n cap]] w fun e w' => e = .returned (.bool ((List.range m).any (dfP k X))) ∧ Below w.heap.size w w' := by
  have HL := Lib.hid fun W => length_any k hk A n cap m hX (by unfold maxLen; omega) W
  have HG := Lib.hid fun j hj W h => getXY_any k hk A X n cap m j W hn hX hj h hL
  have HR : Hid (∀ W, Below w.heap.size w W → rd1 (.float .f64) W A X) := fun W hb => rd1_tr hr hb
  have hm : m ≤ 100000000 := by
    have := Nat.le_mul_of_pos_right m (wid_pos k); omega
  have h0 : dfP k X 0 = false := by
    have h1 := List.all_eq_true.1 hall 0 (List.mem_range.2 hm0)
    unfold okP at h1
    simp only [Bool.and_eq_true] at h1
    unfold dfP
    rw [fne_self, fne_self, num_of_fin h1.1, num_of_fin h1.2]; rfl
  have HD : Hid (∀ j, dfP k X j = (fne (px (plc k X j)) (px (plc k X 0)) || fne (py (plc k X j)) (py (plc k X 0)))) := fun _ => rfl
  have HG0 := Lib.hid fun W h => HG.out 0 hm0 W h
  have hF0 : (List.range 1).any (dfP k X) = false := by simp [h0]
  have HF0 := Lib.hid hF0
  clear hn hX hr hall h0 hF0
  generalize px (plc k X 0) = x0 at *
  generalize py (plc k X 0) = y0 at *
  go_enter Try.func175, Try.ntmps175
  go_wp2_with fail; refine (HL.out _).mono ?_; rintro e w1 ⟨rfl, hb1⟩
  have hB := blk_tr (blk_new w 111 #[.int .u8 k, .slice A n cap]) hb1
  have hbw := bl_tr (bl_al (bl_refl w) (.cells #[.int .u8 k, .slice A n cap] 111)) hb1
  have b0 := (blk_cell hB 0).trans (rfl : _ = some (Value.int .u8 k))
  have b1 := (blk_cell hB 1).trans (rfl : _ = some (Value.slice A n cap))
  clear hb1
  have hmz : ¬ (m : Int) = 0 := by omega
  go_wp2_with fail
  refine (HG0.out _ (HR.out _ hbw)).mono ?_
  rintro e w2 ⟨rfl, hb2⟩
  replace hB := blk_al (blk_tr hB hb2) (.cells #[.float .f64 x0, .float .f64 y0] 104)
  have hP := blk_new w2 104 #[.float .f64 x0, .float .f64 y0]
  replace hbw := bl_al (bl_tr hbw hb2) (.cells #[.float .f64 x0, .float .f64 y0] 104)
  clear hb2 b0 b1
  go_wp2
  go_loopw [5] (fun i wr => ∃ j : Nat, 1 ≤ j ∧ j ≤ m ∧ i = .int .i64 j ∧ (List.range j).any (dfP k X) = false ∧ Below w.heap.size w wr ∧ Blk wr w.heap.size 111 #[.int .u8 k, .slice A n cap] ∧ Blk wr w2.heap.size 104 #[.float .f64 x0, .float .f64 y0]) (fun i _ => m - (intOf i).toNat)
  case atStart => exact ⟨1, Nat.le_refl _, hm0, rfl, HF0.out, hbw, hB, hP⟩
  case round =>
    obtain ⟨j, hj1, hj, rfl, hany, hbr, hBr, hPr⟩ := hrel
    clear hB hbw hP
    have HA := Lib.hid hany
    clear hany
    have b0 := (blk_cell hBr 0).trans (rfl : _ = some (Value.int .u8 k))
    have b1 := (blk_cell hBr 1).trans (rfl : _ = some (Value.slice A n cap))
    have p0 := (blk_cell hPr 0).trans (rfl : _ = some (Value.float .f64 x0))
    have p1 := (blk_cell hPr 1).trans (rfl : _ = some (Value.float .f64 y0))
    have z0 := blk_lt hBr
    have z1 := blk_lt hPr
    by_cases hlt : j < m
    · have HGj := Lib.hid fun W h => HG.out j hlt W h
      have hdj := HD.out j
      cases hv : dfP k X j
      · have HF : Hid ((List.range (j + 1)).any (dfP k X) = false) := by
          show (List.range (j + 1)).any (dfP k X) = false
          rw [any_snoc, HA.out, hv]; rfl
        rw [hv] at hdj
        clear hv HD
        generalize px (plc k X j) = x at *
        generalize py (plc k X j) = y at *
        have hdj' := hdj.symm
        clear hdj
        go_wp2
        refine wp_region_calm (by kernel_rfl) (by kernel_rfl) ?_
        repeat (go_big_quiet_step ((first | (go_at_call 118; with_reducible exact calm_of (HGj.out _ (HR.out _ (bl_tr hbr (later_below _ _))))))))
        refine wpQuiet_nil ?_; intro w3 hb3
        go_wp2
        go_roundw
        case rel => exact ⟨j + 1, by omega, by omega, by go_num, HF.out, by repeat' (first | (with_reducible exact bl_refl _) | (with_reducible assumption) | (with_reducible apply bl_al) | (with_reducible apply bl_dr) | (with_reducible refine bl_st ?_ ?_ _) | (with_reducible refine bl_tr ?_ (by with_reducible assumption)) | (first | (with_reducible exact Nat.le_refl _) | (with_reducible assumption) | omega | (simp; omega) | (simp; done))), blk_tr hBr hb3, blk_tr hPr hb3⟩
        case measure => simp [intOf]; omega
      · have HF : Hid ((List.range m).any (dfP k X) = true) := any_stop hv hlt
        rw [hv] at hdj
        clear hv HD
        generalize px (plc k X j) = x at *
        generalize py (plc k X j) = y at *
        have hdj' := hdj.symm
        clear hdj
        go_wp2
        refine wp_region_calm (by kernel_rfl) (by kernel_rfl) ?_
        repeat (go_big_quiet_step ((first | (go_at_call 118; with_reducible exact calm_of (HGj.out _ (HR.out _ (bl_tr hbr (later_below _ _))))))))
        refine wpQuiet_nil ?_; intro w3 hb3
        go_wp2
        go_ret
        refine ⟨by rw [HF.out]; rfl, ?_⟩
        repeat' (first | (with_reducible exact bl_refl _) | (with_reducible assumption) | (with_reducible apply bl_al) | (with_reducible apply bl_dr) | (with_reducible refine bl_st ?_ ?_ _) | (with_reducible refine bl_tr ?_ (by with_reducible assumption)) | (first | (with_reducible exact Nat.le_refl _) | (with_reducible assumption) | omega | (simp; omega) | (simp; done)))
    · obtain rfl : j = m := by omega
      go_wp2
      go_ret
      refine ⟨by rw [HA.out]; rfl, hbr⟩
end Go.Proofs.Ytbigadbnijpcjaa
