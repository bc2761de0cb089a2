/-
  Contracts: the validity of a line string: Sequence.GetXY, XY.validate, Sequence.validate, hasAtLeast2DistinctPointsInSeq, LineString.Validate.
-/
import Derived.Test.YtbigadbnijpcjaaLine
import Derived.Test.YtbigadbnijpcjaaSeqT
namespace Go.Proofs.Ytbigadbnijpcjaa
open Go.RowKit Fl
set_option maxRecDepth 100000 in
theorem getXY_any (k : Nat) (hk : k < 4) (A : Option Addr) (X : List Nat) (n cap m j : Nat) (w : World) (hn : X.length = n) (hX : n = m * wid k) (hj : j < m) (hr : rd1 (.float .f64) w A X) (hL : n ≤ 100000000) :
    Calls Try.prog 118 #[.agg #[.int .u8 k, .slice A n cap], .int .i64 j] w fun e w' => e = .returned (.agg #[.float .f64 (px (plc k X j)), .float .f64 (py (plc k X j))]) ∧ Below w.heap.size w w' := by
  have hlen : j * wid k + wid k ≤ n := by rw [← hn]; exact cond_take (hn.trans hX) hj
  have hwp : 2 ≤ wid k := by unfold wid; omega
  have hw4 : wid k ≤ 4 := by unfold wid; omega
  obtain ⟨b, off, rfl, hb, hc⟩ := hr (by omega)
  have hcell : ∀ i, i < wid k → w.cell? ⟨b, off + (j * wid k + i), none⟩ = some (.float .f64 ((plc k X j).getD i 0)) := fun i hi => by
    rw [plc_get k X j i hi]
    refine hc _ _ ?_
    rw [List.getD_eq_getElem?_getD, List.getElem?_eq_getElem (by omega)]; rfl
  have c0 := hcell 0 (by omega)
  have c1 := hcell 1 (by omega)
  have HD := Lib.hid fun W => dim_any k hk W
  have hmul : (j : Int) * (wid k : Int) = ((j * wid k : Nat) : Int) := by simp
  have hjn : j ≤ n := Nat.le_trans (Nat.le_mul_of_pos_right j (by omega)) (by omega : j * wid k ≤ n)
  change w.cell? ⟨b, off + (j * wid k + 0), none⟩ = some (.float .f64 (px (plc k X j))) at c0
  change w.cell? ⟨b, off + (j * wid k + 1), none⟩ = some (.float .f64 (py (plc k X j))) at c1
  rw [Nat.add_zero] at c0
  clear hcell hc hr hX
  generalize px (plc k X j) = x at *
  generalize py (plc k X j) = y at *
  generalize j * wid k = q at *
  generalize wid k = d at *
  have hb2 : b < w.heap.size + 1 + 1 := by omega
  have hn2 : ¬ b = w.heap.size := by omega
  have hn3 : ¬ b = w.heap.size + 1 := by omega
  go_enter Try.func118, Try.ntmps118
  go_wp2_with fail; refine (HD.out _).mono ?_; rintro e w' ⟨rfl, rfl⟩
  have z0 : w.heap.size < w.heap.size + 1 + 1 := by omega
  have hq0 : q < n := by omega
  have hq1 : q + 1 < n := by omega
  obtain ⟨q1, hqq⟩ : ∃ q1, q + 1 = q1 := ⟨_, rfl⟩
  have hs1 : (q : Int) + 1 = (q1 : Int) := by omega
  rw [hqq] at hq1 c1
  clear hqq
  go_wp2
  refine wp_region_seq_tail [] 16 (by kernel_rfl) (by kernel_rfl) ?_; simp only [List.take_succ_cons, List.take_zero, List.drop_succ_cons, List.drop_zero]
  repeat (refine sq_soft (fun K hK => ?_); go_simp; (try (go_ints; (try simp (disch := omega) only [if_pos]); (try go_simp))); refine hK _ ?_; clear hK K)
  refine sq_nil ?_
  go_wp2
  refine bodyPost_ret (v := .agg #[.float .f64 x, .float .f64 y]) (by simp [results, Try.results118, go_sem, ]) rfl ⟨rfl, ?_⟩
  repeat' (first | (with_reducible exact bl_refl _) | (with_reducible assumption) | (with_reducible apply bl_al) | (with_reducible apply bl_dr) | (with_reducible refine bl_st ?_ ?_ _) | (with_reducible refine bl_tr ?_ (by with_reducible assumption)) | (first | (with_reducible exact Nat.le_refl _) | (with_reducible assumption) | omega | (simp; omega) | (simp; done)))
theorem errAt_any (s : ByteArray) (x y : Nat) (w : World) :
    Calls Try.prog 176 #[.string s, .agg #[.float .f64 x, .float .f64 y]] w fun e w' => (∃ t v, e = .returned (.iface t v)) ∧ Below w.heap.size w w' := by
  go_enter Try.func176, Try.ntmps176
  go_wp2
  go_ret
  refine ⟨⟨_, _, rfl⟩, ?_⟩
  repeat' (first | (with_reducible exact bl_refl _) | (with_reducible assumption) | (with_reducible apply bl_al) | (with_reducible apply bl_dr) | (with_reducible refine bl_st ?_ ?_ _) | (with_reducible refine bl_tr ?_ (by with_reducible assumption)) | (first | (with_reducible exact Nat.le_refl _) | (with_reducible assumption) | omega | (simp; omega) | (simp; done)))
theorem wrap_any (t : TypeId) (v : Value) (s : ByteArray) (A : Option Addr) (n c : Nat) (w : World) :
    Calls Try.prog 147 #[.iface t v, .string s, .slice A n c] w fun e w' => (∃ t v, e = .returned (.iface t v)) ∧ Below w.heap.size w w' := by
  go_enter Try.func147, Try.ntmps147
  go_wp2
  go_ret
  refine ⟨⟨_, _, rfl⟩, ?_⟩
  repeat' (first | (with_reducible exact bl_refl _) | (with_reducible assumption) | (with_reducible apply bl_al) | (with_reducible apply bl_dr) | (with_reducible refine bl_st ?_ ?_ _) | (with_reducible refine bl_tr ?_ (by with_reducible assumption)) | (first | (with_reducible exact Nat.le_refl _) | (with_reducible assumption) | omega | (simp; omega) | (simp; done)))
/-- An error, or none. -/
def errIf (good : Bool) (e : Ending) : Prop := if good = true then e = .returned .nilIface else ∃ t v, e = .returned (.iface t v)
set_option maxRecDepth 100000 in
theorem xyValid_any (x y : Nat) (w : World) :
    Calls Try.prog 195 #[.agg #[.float .f64 x, .float .f64 y]] w fun e w' => errIf (fin x && fin y) e ∧ Below w.heap.size w w' := by
  have HN := Lib.hid fun a W => isNaN_any a W
  have HE := Lib.hid fun s W => errAt_any s x y W
  cases hx : num x
  · have hf : (fin x && fin y) = false := by
      cases h : fin x
      · rfl
      · have := num_of_fin h; rw [hx] at this; cases this
    rw [hf]
    have H := Lib.hid fun W => HN.out x W
    simp only [hx] at H
    clear hx hf
    go_enter Try.func195, Try.ntmps195
    go_wp2_with fail; refine (H.out _).mono ?_; rintro e w' ⟨rfl, rfl⟩
    go_wp2_with fail
    refine (HE.out _ _).mono ?_
    rintro e w1 ⟨⟨t, v, rfl⟩, hb1⟩
    go_wp2
    go_ret
    refine ⟨⟨_, _, rfl⟩, ?_⟩
    repeat' (first | (with_reducible exact bl_refl _) | (with_reducible assumption) | (with_reducible apply bl_al) | (with_reducible apply bl_dr) | (with_reducible refine bl_st ?_ ?_ _) | (with_reducible refine bl_tr ?_ (by with_reducible assumption)) | (first | (with_reducible exact Nat.le_refl _) | (with_reducible assumption) | omega | (simp; omega) | (simp; done)))
  cases hy : num y
  · have hf : (fin x && fin y) = false := by
      cases h : fin y
      · simp
      · have := num_of_fin h; rw [hy] at this; cases this
    rw [hf]
    have H := Lib.hid fun W => HN.out x W
    have H2 := Lib.hid fun W => HN.out y W
    simp only [hx] at H
    simp only [hy] at H2
    clear hx hy hf
    go_enter Try.func195, Try.ntmps195
    go_wp2_with fail; refine (H.out _).mono ?_; rintro e w' ⟨rfl, rfl⟩
    go_wp2_with fail; refine (H2.out _).mono ?_; rintro e w' ⟨rfl, rfl⟩
    go_wp2_with fail
    refine (HE.out _ _).mono ?_
    rintro e w1 ⟨⟨t, v, rfl⟩, hb1⟩
    go_wp2
    go_ret
    refine ⟨⟨_, _, rfl⟩, ?_⟩
    repeat' (first | (with_reducible exact bl_refl _) | (with_reducible assumption) | (with_reducible apply bl_al) | (with_reducible apply bl_dr) | (with_reducible refine bl_st ?_ ?_ _) | (with_reducible refine bl_tr ?_ (by with_reducible assumption)) | (first | (with_reducible exact Nat.le_refl _) | (with_reducible assumption) | omega | (simp; omega) | (simp; done)))
  have H := Lib.hid fun W => HN.out x W
  have H2 := Lib.hid fun W => HN.out y W
  have I := Lib.hid fun W => isInf_any x hx W
  have I2 := Lib.hid fun W => isInf_any y hy W
  simp only [hx] at H
  simp only [hy] at H2
  cases fx : fin x
  · simp only [fx] at I
    clear hx hy fx
    go_enter Try.func195, Try.ntmps195
    go_wp2_with fail; refine (H.out _).mono ?_; rintro e w' ⟨rfl, rfl⟩
    go_wp2_with fail; refine (H2.out _).mono ?_; rintro e w' ⟨rfl, rfl⟩
    go_wp2_with fail; refine (I.out _).mono ?_; rintro e w' ⟨rfl, rfl⟩
    go_wp2_with fail
    refine (HE.out _ _).mono ?_
    rintro e w1 ⟨⟨t, v, rfl⟩, hb1⟩
    go_wp2
    go_ret
    refine ⟨⟨_, _, rfl⟩, ?_⟩
    repeat' (first | (with_reducible exact bl_refl _) | (with_reducible assumption) | (with_reducible apply bl_al) | (with_reducible apply bl_dr) | (with_reducible refine bl_st ?_ ?_ _) | (with_reducible refine bl_tr ?_ (by with_reducible assumption)) | (first | (with_reducible exact Nat.le_refl _) | (with_reducible assumption) | omega | (simp; omega) | (simp; done)))
  cases fy : fin y
  · simp only [fx] at I
    simp only [fy] at I2
    clear hx hy fx fy
    go_enter Try.func195, Try.ntmps195
    go_wp2_with fail; refine (H.out _).mono ?_; rintro e w' ⟨rfl, rfl⟩
    go_wp2_with fail; refine (H2.out _).mono ?_; rintro e w' ⟨rfl, rfl⟩
    go_wp2_with fail; refine (I.out _).mono ?_; rintro e w' ⟨rfl, rfl⟩
    go_wp2_with fail; refine (I2.out _).mono ?_; rintro e w' ⟨rfl, rfl⟩
    go_wp2_with fail
    refine (HE.out _ _).mono ?_
    rintro e w1 ⟨⟨t, v, rfl⟩, hb1⟩
    go_wp2
    go_ret
    refine ⟨⟨_, _, rfl⟩, ?_⟩
    repeat' (first | (with_reducible exact bl_refl _) | (with_reducible assumption) | (with_reducible apply bl_al) | (with_reducible apply bl_dr) | (with_reducible refine bl_st ?_ ?_ _) | (with_reducible refine bl_tr ?_ (by with_reducible assumption)) | (first | (with_reducible exact Nat.le_refl _) | (with_reducible assumption) | omega | (simp; omega) | (simp; done)))
  · simp only [fx] at I
    simp only [fy] at I2
    clear hx hy fx fy
    go_enter Try.func195, Try.ntmps195
    go_wp2_with fail; refine (H.out _).mono ?_; rintro e w' ⟨rfl, rfl⟩
    go_wp2_with fail; refine (H2.out _).mono ?_; rintro e w' ⟨rfl, rfl⟩
    go_wp2_with fail; refine (I.out _).mono ?_; rintro e w' ⟨rfl, rfl⟩
    go_wp2_with fail; refine (I2.out _).mono ?_; rintro e w' ⟨rfl, rfl⟩
    go_wp2
    go_ret
    refine ⟨rfl, ?_⟩
    repeat' (first | (with_reducible exact bl_refl _) | (with_reducible assumption) | (with_reducible apply bl_al) | (with_reducible apply bl_dr) | (with_reducible refine bl_st ?_ ?_ _) | (with_reducible refine bl_tr ?_ (by with_reducible assumption)) | (first | (with_reducible exact Nat.le_refl _) | (with_reducible assumption) | omega | (simp; omega) | (simp; done)))
/-- Place i has finite X and Y. -/
def okP (k : Nat) (X : List Nat) (i : Nat) : Bool := fin (px (plc k X i)) && fin (py (plc k X i))
/-- Place i differs from the first. -/
def dfP (k : Nat) (X : List Nat) (i : Nat) : Bool := fne (px (plc k X i)) (px (plc k X 0)) || fne (py (plc k X i)) (py (plc k X 0))
theorem all_snoc (p : Nat → Bool) (j : Nat) : (List.range (j + 1)).all p = ((List.range j).all p && p j) := by simp [List.range_succ]
theorem any_snoc (p : Nat → Bool) (j : Nat) : (List.range (j + 1)).any p = ((List.range j).any p || p j) := by simp [List.range_succ]
theorem all_stop {p : Nat → Bool} {j m : Nat} (h : p j = false) (hj : j < m) : (List.range m).all p = false := by
  cases e : (List.range m).all p
  · rfl
  · have := List.all_eq_true.1 e j (List.mem_range.2 hj); rw [h] at this; cases this
theorem any_stop {p : Nat → Bool} {j m : Nat} (h : p j = true) (hj : j < m) : (List.range m).any p = true := List.any_eq_true.2 ⟨j, List.mem_range.2 hj, h⟩
set_option maxRecDepth 100000 in
theorem seqValid_any (k : Nat) (hk : k < 4) (A : Option Addr) (X : List Nat) (n cap m : Nat) (w : World) (hn : X.length = n) (hX : n = m * wid k) (hr : rd1 (.float .f64) w A X) (hL : n ≤ 100000000) :
    Calls Try.prog 174 #[.agg #[.int .u8 k, .slice A n cap]] w fun e w' => errIf ((List.range m).all (okP k X)) e ∧ Below w.heap.size w w' := by
  have HL := Lib.hid fun W => length_any k hk A n cap m hX (by unfold maxLen; omega) W
  have HG := Lib.hid fun j hj W h => getXY_any k hk A X n cap m j W hn hX hj h hL
  have HV := Lib.hid fun x y W => xyValid_any x y W
  have HR : Hid (∀ W, Below w.heap.size w W → rd1 (.float .f64) W A X) := fun W hb => rd1_tr hr hb
  have hm : m ≤ 100000000 := by
    have := Nat.le_mul_of_pos_right m (wid_pos k); omega
  clear hn hX hr
  go_enter Try.func174, Try.ntmps174
  go_wp2_with fail; refine (HL.out _).mono ?_; rintro e w1 ⟨rfl, hb1⟩
  have hB := blk_tr (blk_new w 111 #[.int .u8 k, .slice A n cap]) hb1
  have hbw := bl_tr (bl_al (bl_refl w) (.cells #[.int .u8 k, .slice A n cap] 111)) hb1
  clear hb1
  go_wp2
  go_loopw [4, 5] (fun i _ wr => ∃ j : Nat, j ≤ m ∧ i = .int .i64 j ∧ (List.range j).all (okP k X) = true ∧ Below w.heap.size w wr ∧ Blk wr w.heap.size 111 #[.int .u8 k, .slice A n cap]) (fun i _ _ => m - (intOf i).toNat)
  case atStart => exact ⟨0, Nat.zero_le _, rfl, rfl, hbw, hB⟩
  case round =>
    obtain ⟨j, hj, rfl, hall, hbr, hBr⟩ := hrel
    clear hB hbw
    have HA := Lib.hid hall
    clear hall
    have b0 := (blk_cell hBr 0).trans (rfl : _ = some (Value.int .u8 k))
    have b1 := (blk_cell hBr 1).trans (rfl : _ = some (Value.slice A n cap))
    by_cases hlt : j < m
    · have HGj := Lib.hid fun W h => HG.out j hlt W h
      have HVj := Lib.hid fun W => HV.out (px (plc k X j)) (py (plc k X j)) W
      cases hv : (fin (px (plc k X j)) && fin (py (plc k X j)))
      · have HF : Hid ((List.range m).all (okP k X) = false) := all_stop (p := okP k X) hv hlt
        rw [hv] at HVj
        clear hv
        generalize px (plc k X j) = x at *
        generalize py (plc k X j) = y at *
        go_wp2_with fail
        refine (HGj.out _ (HR.out _ hbr)).mono ?_
        rintro e w2 ⟨rfl, hb2⟩
        go_wp2_with fail
        refine (HVj.out _).mono ?_
        rintro e w3 ⟨⟨t, v, rfl⟩, hb3⟩
        go_wp2_with fail
        refine (wrap_any _ _ _ _ _ _ _).mono ?_
        rintro e w4 ⟨⟨t', v', rfl⟩, hb4⟩
        go_wp2
        go_ret
        refine ⟨?_, ?_⟩
        · rw [HF.out]; exact ⟨_, _, rfl⟩
        · repeat' (first | (with_reducible exact bl_refl _) | (with_reducible assumption) | (with_reducible apply bl_al) | (with_reducible apply bl_dr) | (with_reducible refine bl_st ?_ ?_ _) | (with_reducible refine bl_tr ?_ (by with_reducible assumption)) | (first | (with_reducible exact Nat.le_refl _) | (with_reducible assumption) | omega | (simp; omega) | (simp; done)))
      · have HF : Hid ((List.range (j + 1)).all (okP k X) = true) := by
          show (List.range (j + 1)).all (okP k X) = true
          rw [all_snoc, HA.out]; exact hv
        rw [hv] at HVj
        clear hv
        generalize px (plc k X j) = x at *
        generalize py (plc k X j) = y at *
        go_wp2_with fail
        refine (HGj.out _ (HR.out _ hbr)).mono ?_
        rintro e w2 ⟨rfl, hb2⟩
        go_wp2_with fail
        refine (HVj.out _).mono ?_
        rintro e w3 ⟨he, hb3⟩
        cases (show e = .returned .nilIface from he)
        go_wp2
        go_roundw
        case rel => exact ⟨j + 1, by omega, by go_num, HF.out, by repeat' (first | (with_reducible exact bl_refl _) | (with_reducible assumption) | (with_reducible apply bl_al) | (with_reducible apply bl_dr) | (with_reducible refine bl_st ?_ ?_ _) | (with_reducible refine bl_tr ?_ (by with_reducible assumption)) | (first | (with_reducible exact Nat.le_refl _) | (with_reducible assumption) | omega | (simp; omega) | (simp; done))), blk_tr (blk_tr hBr hb2) hb3⟩
        case measure => simp [intOf]; omega
    · obtain rfl : j = m := by omega
      go_wp2
      go_ret
      refine ⟨?_, hbr⟩
      rw [HA.out]; rfl
end Go.Proofs.Ytbigadbnijpcjaa
