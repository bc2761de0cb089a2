/-
  Contracts: spec.SameNums, SameGeoms and SameGeom without parts; geom.NewSequence.
-/
import Derived.Test.YtbigadbnijpcjaaPs
namespace Go.Proofs.Ytbigadbnijpcjaa
open Go.RowKit
set_option maxRecDepth 100000 in
theorem sameNums_any (A B : Option Addr) (X Y : List Nat) (ca cb : Nat) (w : World) (hA : rd1 (.float .f64) w A X) (hB : rd1 (.float .f64) w B Y) (hl : X.length ≤ 100000000) :
    Calls Try.prog 18 #[.slice A X.length ca, .slice B Y.length cb] w fun e w' => e = .returned (.bool (decide (X = Y))) ∧ Below w.heap.size w w' := by
  by_cases hn : X.length = Y.length
  · have HN := Lib.hid hn
    obtain ⟨n, hX⟩ : ∃ n, X.length = n := ⟨_, rfl⟩
    have HX := Lib.hid hX
    have HY : Hid (Y.length = n) := hn.symm.trans hX
    rw [← hn, hX]
    rw [hX] at hl
    clear hn hX
    go_enter Try.func18, Try.ntmps18
    go_wp2
    go_loopw [14] (fun i wr => ∃ j : Nat, j ≤ n ∧ i = .int .i64 j ∧ X.take j = Y.take j ∧ Below w.heap.size w wr) (fun i _ => n - (intOf i).toNat)
    case atStart => exact ⟨0, Nat.zero_le _, rfl, rfl, Below.refl _ _⟩
    case round =>
      obtain ⟨j, hj, rfl, ht, hbw⟩ := hrel
      have HT := Lib.hid ht
      clear ht
      by_cases hlt : j < n
      · obtain ⟨x, ex⟩ : ∃ x, X[j]? = some x := ⟨_, List.getElem?_eq_getElem (by have := HX.out; omega)⟩
        obtain ⟨y, ey⟩ : ∃ y, Y[j]? = some y := ⟨_, List.getElem?_eq_getElem (by have := HY.out; omega)⟩
        obtain ⟨b, off, rfl, hbl, hc⟩ := rd1_tr hA hbw (by have := HX.out; omega)
        obtain ⟨b', off', rfl, hbl', hc'⟩ := rd1_tr hB hbw (by have := HY.out; omega)
        have cx := hc j x ex
        have cy := hc' j y ey
        clear hc hc' hA hB
        by_cases hxy : x = y
        · subst hxy
          have HT' : Hid (X.take (j + 1) = Y.take (j + 1)) := by
            show X.take (j + 1) = Y.take (j + 1)
            rw [List.take_add_one, List.take_add_one, ex, ey, HT.out]
          clear ex ey HT
          go_wp2_with fail
          refine wp_region_calm (by kernel_rfl) (by kernel_rfl) ?_
          repeat (go_big_quiet_step ((first | fail)))
          refine wpQuiet_nil ?_; intro w1 hb1
          go_wp2
          go_roundw
          case rel =>
            refine ⟨j + 1, by omega, by go_num, HT'.out, ?_⟩
            repeat' (first | (with_reducible exact bl_refl _) | (with_reducible assumption) | (with_reducible apply bl_al) | (with_reducible apply bl_dr) | (with_reducible refine bl_st ?_ ?_ _) | (with_reducible refine bl_tr ?_ (by with_reducible assumption)) | (first | (with_reducible exact Nat.le_refl _) | (with_reducible assumption) | omega | (simp; omega) | (simp; done)))
          case measure => simp [intOf]; omega
        · have HF : Hid (decide (X = Y) = false) := by
            show decide (X = Y) = false
            simp only [decide_eq_false_iff_not]
            intro e
            rw [e, ey] at ex
            injection ex with ex
            exact hxy ex.symm
          have hxy' : ¬ (x : Int) = (y : Int) := by omega
          clear ex ey HT
          go_wp2_with fail
          refine wp_region_calm (by kernel_rfl) (by kernel_rfl) ?_
          repeat (go_big_quiet_step ((first | fail)))
          refine wpQuiet_nil ?_; intro w1 hb1
          go_wp2
          go_ret
          refine ⟨by rw [HF.out]; rfl, ?_⟩
          repeat' (first | (with_reducible exact bl_refl _) | (with_reducible assumption) | (with_reducible apply bl_al) | (with_reducible apply bl_dr) | (with_reducible refine bl_st ?_ ?_ _) | (with_reducible refine bl_tr ?_ (by with_reducible assumption)) | (first | (with_reducible exact Nat.le_refl _) | (with_reducible assumption) | omega | (simp; omega) | (simp; done)))
      · obtain rfl : j = n := by omega
        have HF : Hid (decide (X = Y) = true) := by
          show decide (X = Y) = true
          simp only [decide_eq_true_eq]
          have := HT.out
          rwa [List.take_of_length_le (Nat.le_of_eq HX.out), List.take_of_length_le (Nat.le_of_eq HY.out)] at this
        go_wp2
        go_ret
        exact ⟨by rw [HF.out]; rfl, hbw⟩
  · have hd : decide (X = Y) = false := by
      simp only [decide_eq_false_iff_not]
      exact fun e => hn (by rw [e])
    rw [hd]
    generalize X.length = n at *
    generalize Y.length = m at *
    go_enter Try.func18, Try.ntmps18
    go_wp2
    go_ret
    exact ⟨rfl, Below.refl _ _⟩
theorem sameGeoms_none (A B : Option Addr) (ca cb : Nat) (w : World) :
    Calls Try.prog 49 #[.slice A 0 ca, .slice B 0 cb] w fun e w' => e = .returned (.bool true) ∧ Below w.heap.size w w' := by
  go_enter Try.func49, Try.ntmps49
  go_wp2
  go_loopw [14] (fun i wr => i = .int .i64 0 ∧ Below w.heap.size w wr) (fun _ _ => 0)
  case atStart => exact ⟨rfl, Below.refl _ _⟩
  case round =>
    obtain ⟨rfl, hbw⟩ := hrel
    go_wp2
    go_ret
    exact ⟨rfl, hbw⟩
theorem newSeq_ok (k : Nat) (hk : k < 4) (A : Option Addr) (n c m : Nat) (hn : n = m * wid k) (hm : n ≤ maxLen) (w : World) :
    Calls Try.prog 140 #[.slice A n c, .int .u8 k] w fun e w' => e = .returned (.agg #[.int .u8 k, .slice A n c]) ∧ Below w.heap.size w w' := by
  have HD := Lib.hid fun W => dim_any k hk W
  have hd : 0 < wid k := by unfold wid; omega
  have hd4 : wid k ≤ 4 := by unfold wid; omega
  have hq : (n : Int) % (wid k : Int) = 0 := by
    have : n % wid k = 0 := by rw [hn]; exact Nat.mul_mod_left _ _
    omega
  generalize wid k = d at *
  clear hn
  go_enter Try.func140, Try.ntmps140
  go_wp2_with fail; refine (HD.out _).mono ?_; rintro e w' ⟨rfl, rfl⟩
  go_wp2
  refine bodyPost_ret (v := .agg #[.int .u8 k, .slice A n c]) (by simp [results, Try.results140, go_sem, ]) rfl ⟨rfl, ?_⟩
  repeat' (first | (with_reducible exact bl_refl _) | (with_reducible assumption) | (with_reducible apply bl_al) | (with_reducible apply bl_dr) | (with_reducible refine bl_st ?_ ?_ _) | (with_reducible refine bl_tr ?_ (by with_reducible assumption)) | (first | (with_reducible exact Nat.le_refl _) | (with_reducible assumption) | omega | (simp; omega) | (simp; done)))
theorem newSeq_bad (k : Nat) (hk : k < 4) (A : Option Addr) (n c : Nat) (hn : ¬ n % wid k = 0) (hm : n ≤ maxLen) (w : World) :
    Calls Try.prog 140 #[.slice A n c, .int .u8 k] w fun e w' => (∃ t v, e = .panicked [{ v := .iface t v, recovered := false }]) ∧ Below w.heap.size w w' := by
  have HD := Lib.hid fun W => dim_any k hk W
  have hd : 0 < wid k := by unfold wid; omega
  have hd4 : wid k ≤ 4 := by unfold wid; omega
  have hq : ¬ (n : Int) % (wid k : Int) = 0 := by omega
  generalize wid k = d at *
  clear hn
  go_enter Try.func140, Try.ntmps140
  go_wp2_with fail; refine (HD.out _).mono ?_; rintro e w' ⟨rfl, rfl⟩
  go_wp2
  refine ⟨rfl, ⟨_, _, rfl⟩, ?_⟩
  repeat' (first | (with_reducible exact bl_refl _) | (with_reducible assumption) | (with_reducible apply bl_al) | (with_reducible apply bl_dr) | (with_reducible refine bl_st ?_ ?_ _) | (with_reducible refine bl_tr ?_ (by with_reducible assumption)) | (first | (with_reducible exact Nat.le_refl _) | (with_reducible assumption) | omega | (simp; omega) | (simp; done)))
set_option maxRecDepth 100000 in
theorem sameGeom_leaf (kd k : Nat) (A B C D : Option Addr) (X : List Nat) (ca cb cc cd : Nat) (w : World) (hA : rd1 (.float .f64) w A X) (hB : rd1 (.float .f64) w B X) (hl : X.length ≤ 100000000) :
    Calls Try.prog 39 #[.agg #[.int .i64 kd, .int .i64 k, .slice A X.length ca, .slice C 0 cc], .agg #[.int .i64 kd, .int .i64 k, .slice B X.length cb, .slice D 0 cd]] w fun e w' => e = .returned (.bool true) ∧ Below w.heap.size w w' := by
  have HN : Hid (∀ W, Below w.heap.size w W → Calls Try.prog 18 #[.slice A X.length ca, .slice B X.length cb] W fun e w' => e = .returned (.bool true) ∧ Below W.heap.size W w') := fun W hb => by
    have := sameNums_any A B X X ca cb W (rd1_tr hA hb) (rd1_tr hB hb) hl
    simpa using this
  generalize X.length = n at *
  clear hA hB
  go_enter Try.func39, Try.ntmps39
  go_wp2_with fail
  refine (HN.out _ (bl_al (bl_al (bl_refl _) _) _)).mono ?_
  rintro e w1 ⟨rfl, hb1⟩
  have q0 := (blk_cell (blk_tr (blk_al (blk_new w 25 #[.int .i64 kd, .int .i64 k, .slice A n ca, .slice C 0 cc]) (.cells #[.int .i64 kd, .int .i64 k, .slice B n cb, .slice D 0 cd] 25)) hb1) 3).trans rfl
  have q1 := (blk_cell (blk_tr (blk_new (w.alloc (.cells #[.int .i64 kd, .int .i64 k, .slice A n ca, .slice C 0 cc] 25)) 25 #[.int .i64 kd, .int .i64 k, .slice B n cb, .slice D 0 cd]) hb1) 3).trans rfl
  simp at q1
  go_wp2_with fail; refine (sameGeoms_none _ _ _ _ _).mono ?_; rintro e w2 ⟨rfl, hb2⟩
  go_wp2
  refine bodyPost_ret (v := .bool true) (by simp [results, Try.results39, go_sem, ]) rfl ⟨rfl, ?_⟩
  repeat' (first | (with_reducible exact bl_refl _) | (with_reducible assumption) | (with_reducible apply bl_al) | (with_reducible apply bl_dr) | (with_reducible refine bl_st ?_ ?_ _) | (with_reducible refine bl_tr ?_ (by with_reducible assumption)) | (first | (with_reducible exact Nat.le_refl _) | (with_reducible assumption) | omega | (simp; omega) | (simp; done)))
end Go.Proofs.Ytbigadbnijpcjaa
