/-
  Contracts: XY.Sub, XY.Dot, XY.lengthSq, XY.Length, math.Sqrt; LineString.Length; impl.LineLength.
-/
import Derived.Test.YtbigadbnijpcjaaVl
import Derived.Test.YtbigadbnijpcjaaSums
import Derived.Laws.FloatArith
namespace Go.Proofs.Ytbigadbnijpcjaa
open Go.RowKit Fl
theorem run_fsub {a b x : Nat} (h : Ieee.double.sub a b = some x) (t : TypeId) (W : World) : (binOp BinOp.sub t (.float .f64 a) (.float .f64 b)).run Try.prog W = .ok (.float .f64 x) W :=
  run_float_arith W BinOp.sub t FloatKind.f64 a b x h
theorem run_fmul {a b x : Nat} (h : Ieee.double.mul a b = some x) (t : TypeId) (W : World) : (binOp BinOp.mul t (.float .f64 a) (.float .f64 b)).run Try.prog W = .ok (.float .f64 x) W :=
  run_float_arith W BinOp.mul t FloatKind.f64 a b x h
theorem run_fadd {a b x : Nat} (h : Ieee.double.add a b = some x) (t : TypeId) (W : World) : (binOp BinOp.add t (.float .f64 a) (.float .f64 b)).run Try.prog W = .ok (.float .f64 x) W :=
  run_float_arith W BinOp.add t FloatKind.f64 a b x h
theorem xySub_any {a b c d x y : Nat} (hx : Ieee.double.sub a c = some x) (hy : Ieee.double.sub b d = some y) (w : World) :
    Calls Try.prog 119 #[.agg #[.float .f64 a, .float .f64 b], .agg #[.float .f64 c, .float .f64 d]] w fun e w' => e = .returned (.agg #[.float .f64 x, .float .f64 y]) ∧ Below w.heap.size w w' := by
  have h1 := fun t W => run_fsub hx t W
  have h2 := fun t W => run_fsub hy t W
  clear hx hy
  go_enter Try.func119, Try.ntmps119
  go_wp2
  refine bodyPost_ret (v := .agg #[.float .f64 x, .float .f64 y]) (by simp [results, Try.results119, go_sem, ]) rfl ⟨rfl, ?_⟩
  repeat' (first | (with_reducible exact bl_refl _) | (with_reducible assumption) | (with_reducible apply bl_al) | (with_reducible apply bl_dr) | (with_reducible refine bl_st ?_ ?_ _) | (with_reducible refine bl_tr ?_ (by with_reducible assumption)) | (first | (with_reducible exact Nat.le_refl _) | (with_reducible assumption) | omega | (simp; omega) | (simp; done)))
theorem xyDot_any {a b c d x y z : Nat} (hx : Ieee.double.mul a c = some x) (hy : Ieee.double.mul b d = some y) (hz : Ieee.double.add x y = some z) (w : World) :
    Calls Try.prog 187 #[.agg #[.float .f64 a, .float .f64 b], .agg #[.float .f64 c, .float .f64 d]] w fun e w' => e = .returned (.float .f64 z) ∧ Below w.heap.size w w' := by
  have h1 := fun t W => run_fmul hx t W
  have h2 := fun t W => run_fmul hy t W
  have h3 := fun t W => run_fadd hz t W
  clear hx hy hz
  go_enter Try.func187, Try.ntmps187
  go_wp2
  go_ret
  refine ⟨rfl, ?_⟩
  repeat' (first | (with_reducible exact bl_refl _) | (with_reducible assumption) | (with_reducible apply bl_al) | (with_reducible apply bl_dr) | (with_reducible refine bl_st ?_ ?_ _) | (with_reducible refine bl_tr ?_ (by with_reducible assumption)) | (first | (with_reducible exact Nat.le_refl _) | (with_reducible assumption) | omega | (simp; omega) | (simp; done)))
theorem xyLenSq_any {a b x y z : Nat} (hx : Ieee.double.mul a a = some x) (hy : Ieee.double.mul b b = some y) (hz : Ieee.double.add x y = some z) (w : World) :
    Calls Try.prog 162 #[.agg #[.float .f64 a, .float .f64 b]] w fun e w' => e = .returned (.float .f64 z) ∧ Below w.heap.size w w' := by
  have H := Lib.hid fun W => xyDot_any hx hy hz W
  clear hx hy hz
  go_enter Try.func162, Try.ntmps162
  go_wp2_with fail; refine (H.out _).mono ?_; rintro e w1 ⟨rfl, hb1⟩
  go_wp2
  go_ret
  refine ⟨rfl, ?_⟩
  repeat' (first | (with_reducible exact bl_refl _) | (with_reducible assumption) | (with_reducible apply bl_al) | (with_reducible apply bl_dr) | (with_reducible refine bl_st ?_ ?_ _) | (with_reducible refine bl_tr ?_ (by with_reducible assumption)) | (first | (with_reducible exact Nat.le_refl _) | (with_reducible assumption) | omega | (simp; omega) | (simp; done)))
theorem call_sqrt {a r : Nat} (h : Ieee.double.sqrt a = some r) (w : World) : (callFunc 186 #[.float .f64 a]).run Try.prog w = .ok (.value (.float .f64 r)) w := by
  rw [run_callFunc_extern Try.func186 (by kernel_rfl) (by kernel_rfl) (by kernel_rfl) (e := Extern.MathSqrt.sqrt) (by kernel_rfl)]
  have key : (Extern.MathSqrt.sqrt #[.float .f64 a]).run Try.prog w = .ok (.float .f64 r) w := by
    have h' : FloatKind.f64.format.sqrt a = some r := h
    change (Sem.run _ (match FloatKind.f64.format.sqrt a with | some r => pure (Value.float .f64 r) | none => _) w) = _
    rw [h']; rfl
  rw [key]; rfl
theorem sqrt_any {a r : Nat} (h : Ieee.double.sqrt a = some r) (w : World) :
    Calls Try.prog 161 #[.float .f64 a] w fun e w' => e = .returned (.float .f64 r) ∧ w = w' := by
  have hc := call_sqrt h
  clear h
  go_enter Try.func161, Try.ntmps161
  go_wp2
  go_ret
  exact ⟨rfl, rfl⟩
theorem xyLen_any {a b x y z r : Nat} (hx : Ieee.double.mul a a = some x) (hy : Ieee.double.mul b b = some y) (hz : Ieee.double.add x y = some z) (hr : Ieee.double.sqrt z = some r) (w : World) :
    Calls Try.prog 120 #[.agg #[.float .f64 a, .float .f64 b]] w fun e w' => e = .returned (.float .f64 r) ∧ Below w.heap.size w w' := by
  have H := Lib.hid fun W => xyLenSq_any hx hy hz W
  have HR := Lib.hid fun W => sqrt_any hr W
  clear hx hy hz hr
  go_enter Try.func120, Try.ntmps120
  go_wp2_with fail; refine (H.out _).mono ?_; rintro e w1 ⟨rfl, hb1⟩
  go_wp2_with fail; refine (HR.out _).mono ?_; rintro e w' ⟨rfl, rfl⟩
  go_wp2
  go_ret
  refine ⟨rfl, ?_⟩
  repeat' (first | (with_reducible exact bl_refl _) | (with_reducible assumption) | (with_reducible apply bl_al) | (with_reducible apply bl_dr) | (with_reducible refine bl_st ?_ ?_ _) | (with_reducible refine bl_tr ?_ (by with_reducible assumption)) | (first | (with_reducible exact Nat.le_refl _) | (with_reducible assumption) | omega | (simp; omega) | (simp; done)))
/-- r is the length of the segment from place a b to place c d. -/
def Sg (a b c d r : Nat) : Prop := ∃ x y u v z, Ieee.double.sub a c = some x ∧ Ieee.double.sub b d = some y ∧ Ieee.double.mul x x = some u ∧ Ieee.double.mul y y = some v ∧ Ieee.double.add u v = some z ∧ Ieee.double.sqrt z = some r
/-- Number j of rs is the length of segment j. -/
def Segt (k : Nat) (X : List Nat) (rs : List Nat) : Prop := ∀ (j r : Nat), rs[j]? = some r → Sg (px (plc k X j)) (py (plc k X j)) (px (plc k X (j + 1))) (py (plc k X (j + 1))) r
set_option maxRecDepth 100000 in
theorem lsLen_any (k : Nat) (hk : k < 4) (A : Option Addr) (X : List Nat) (n cap m : Nat) (rs : List Nat) (S : Nat) (w : World) (hn : X.length = n) (hX : n = m * wid k) (hr : rd1 (.float .f64) w A X) (hL : n ≤ 100000000)
    (hrs : rs.length = m - 1) (hseg : Segt k X rs) (hS : addAll 0 rs = some S) :
    Calls Try.prog 67 #[.agg #[.int .u8 k, .slice A n cap]] w fun e w' => e = .returned (.float .f64 S) ∧ Below w.heap.size w w' := by
  have HL := Lib.hid fun W => length_any k hk A n cap m hX (by unfold maxLen; omega) W
  have HG := Lib.hid fun j hj W h => getXY_any k hk A X n cap m j W hn hX hj h hL
  have HR : Hid (∀ W, Below w.heap.size w W → rd1 (.float .f64) W A X) := fun W hb => rd1_tr hr hb
  have hm : m ≤ 100000000 := by
    have := Nat.le_mul_of_pos_right m (wid_pos k); omega
  have HSG := Lib.hid hseg
  have HS0 := Lib.hid hS
  clear hn hX hr hseg hS
  go_enter Try.func67, Try.ntmps67
  go_wp2_with fail; refine (HL.out _).mono ?_; rintro e w1 ⟨rfl, hb1⟩
  have hB := blk_tr (blk_new w 113 #[.int .u8 k, .slice A n cap]) hb1
  have hbw := bl_tr (bl_al (bl_refl w) (.cells #[.int .u8 k, .slice A n cap] 113)) hb1
  clear hb1
  go_wp2
  go_loopw [3, 5, 6, 7, 8] (fun s i _ _ _ wr => ∃ j s' : Nat, j ≤ m - 1 ∧ i = .int .i64 j ∧ s = .float .f64 s' ∧ addAll s' (rs.drop j) = some S ∧ Below w.heap.size w wr ∧ Blk wr w.heap.size 113 #[.int .u8 k, .slice A n cap]) (fun _ i _ _ _ _ => m - 1 - (intOf i).toNat)
  case atStart => exact ⟨0, 0, Nat.zero_le _, rfl, rfl, HS0.out, hbw, hB⟩
  case round =>
    obtain ⟨j, s', hj, rfl, rfl, hs', hbr, hBr⟩ := hrel
    clear hB hbw
    have b0 := (blk_cell hBr 0).trans (rfl : _ = some (Value.int .u8 k))
    have b1 := (blk_cell hBr 1).trans (rfl : _ = some (Value.slice A n cap))
    by_cases hlt : j < m - 1
    · obtain ⟨r, hr⟩ : ∃ r, rs[j]? = some r := ⟨_, List.getElem?_eq_getElem (by omega)⟩
      obtain ⟨x, y, u, v, z, e1, e2, e3, e4, e5, e6⟩ := HSG.out j r hr
      have HG1 := Lib.hid fun W h => HG.out j (by omega) W h
      have HG2 := Lib.hid fun W h => HG.out (j + 1) (by omega) W h
      have HSub := Lib.hid fun W => xySub_any e1 e2 W
      have HLen := Lib.hid fun W => xyLen_any e3 e4 e5 e6 W
      obtain ⟨s2, h2, h3⟩ : ∃ s2, Ieee.double.add s' r = some s2 ∧ addAll s2 (rs.drop (j + 1)) = some S := by
        rw [List.drop_eq_getElem_cons (by omega)] at hs'
        have hg : rs[j]'(by omega) = r := by
          have := List.getElem?_eq_getElem (l := rs) (i := j) (by omega)
          rw [hr] at this; exact (Option.some.inj this).symm
        rw [hg] at hs'
        unfold addAll at hs'
        split at hs'
        · rename_i c e; exact ⟨c, e, hs'⟩
        · cases hs'
      have H3 := Lib.hid h3
      have hadd := fun t W => run_fadd h2 t W
      have hj1 : (j : Int) + 1 < (m : Int) := by omega
      clear e1 e2 e3 e4 e5 e6 hr h2 h3 hs'
      generalize px (plc k X j) = p1 at *
      generalize py (plc k X j) = p2 at *
      generalize px (plc k X (j + 1)) = p3 at *
      generalize py (plc k X (j + 1)) = p4 at *
      go_wp2_with fail
      refine (HG1.out _ (HR.out _ hbr)).mono ?_
      rintro e w2 ⟨rfl, hb2⟩
      have hB2 := blk_tr hBr hb2
      have d0 := (blk_cell hB2 0).trans (rfl : _ = some (Value.int .u8 k))
      have d1 := (blk_cell hB2 1).trans (rfl : _ = some (Value.slice A n cap))
      have hz2 := hb2.size
      have hlt2 := blk_lt hB2
      have hne2 : ¬ w.heap.size = w2.heap.size := by omega
      have ej : ((j + 1 : Nat) : Int) = (j : Int) + 1 := by omega
      simp only [ej] at HG2
      clear b0 b1
      go_wp2_with fail
      refine (HG2.out _ (HR.out _ (by repeat' (first | (with_reducible exact bl_refl _) | (with_reducible assumption) | (with_reducible apply bl_al) | (with_reducible apply bl_dr) | (with_reducible refine bl_st ?_ ?_ _) | (with_reducible refine bl_tr ?_ (by with_reducible assumption)) | (first | (with_reducible exact Nat.le_refl _) | (with_reducible assumption) | omega | (simp; omega) | (simp; done)))))).mono ?_
      rintro e w3 ⟨rfl, hb3⟩
      have hz_w3 := hb3.size; (try simp at hz_w3); have z_w3_0 : w2.heap.size < w3.heap.size := (by omega); have rc_w3_0 := bl_rc hb3 (b := w2.heap.size) (by (first | (with_reducible exact Nat.le_refl _) | (with_reducible assumption) | omega | (simp; omega) | (simp; done))); have rf_w3_0 := bl_rf hb3 (b := w2.heap.size) (by (first | (with_reducible exact Nat.le_refl _) | (with_reducible assumption) | omega | (simp; omega) | (simp; done)))
      have hlt3 : w2.heap.size < w3.heap.size := by have := hb3.size; simp at this; omega
      have hne3 : ¬ w2.heap.size = w3.heap.size := by omega
      go_wp2_with fail; refine (HSub.out _).mono ?_; rintro e w4 ⟨rfl, hb4⟩
      go_wp2_with fail; refine (HLen.out _).mono ?_; rintro e w5 ⟨rfl, hb5⟩
      have hB5 := blk_tr (blk_al (blk_tr (blk_al (blk_tr (blk_al hB2 _) hb3) _) hb4) _) hb5
      go_wp2
      go_roundw
      case rel => exact ⟨j + 1, s2, by omega, by go_num, rfl, H3.out, by repeat' (first | (with_reducible exact bl_refl _) | (with_reducible assumption) | (with_reducible apply bl_al) | (with_reducible apply bl_dr) | (with_reducible refine bl_st ?_ ?_ _) | (with_reducible refine bl_tr ?_ (by with_reducible assumption)) | (first | (with_reducible exact Nat.le_refl _) | (with_reducible assumption) | omega | (simp; omega) | (simp; done))), hB5⟩
      case measure => simp [intOf]; omega
    · obtain rfl : j = m - 1 := by omega
      rw [List.drop_of_length_le (by omega)] at hs'
      cases hs'
      have hj1 : ¬ (((m - 1 : Nat) : Int) + 1 < (m : Int)) := by omega
      go_wp2
      go_ret
      exact ⟨rfl, hbr⟩
set_option maxRecDepth 100000 in
/-- The length of a plain geometry that is a line (k its type, whole places). -/
theorem lineLen_any (k : Nat) (hk : k < 4) (A B : Option Addr) (X : List Nat) (n c d m : Nat) (rs : List Nat) (S : Nat) (w : World) (hn : X.length = n) (hX : n = m * wid k) (hr : rd1 (.float .f64) w A X) (hl : n ≤ 65536)
    (hrs : rs.length = m - 1) (hseg : Segt k X rs) (hS : addAll 0 rs = some S) :
    Calls Try.prog 20 #[.agg #[.int .i64 2, .int .i64 k, .slice A n c, .slice B 0 d]] w fun e w' => e = .returned (.float .f64 S) ∧ Below w.heap.size w w' := by
  have hd : d3 (k : Int) = k := d3_nat hk
  have hf : fit (k : Int) n = n := by
    unfold fit; rw [hd, hX, Nat.mul_div_cancel _ (wid_pos k)]
  have HL := Lib.hid fun W h => line_any A B X n c 0 d (k : Int) W hn h hl
  rw [hd, hf] at HL
  have ht : X.take n = X := List.take_of_length_le (by omega)
  rw [ht] at HL
  have HS := Lib.hid fun g W h => lsLen_any k hk (some ⟨g, 0, none⟩) X n n m rs S W hn hX h (by omega) hrs hseg hS
  have HR : Hid (∀ W, Below w.heap.size w W → rd1 (.float .f64) W A X) := fun W hb => rd1_tr hr hb
  clear hn hX hr hrs hseg hS hf ht
  go_enter Try.func20, Try.ntmps20
  go_wp2_with fail
  refine (HL.out _ (HR.out _ (by repeat' (first | (with_reducible exact bl_refl _) | (with_reducible assumption) | (with_reducible apply bl_al) | (with_reducible apply bl_dr) | (with_reducible refine bl_st ?_ ?_ _) | (with_reducible refine bl_tr ?_ (by with_reducible assumption)) | (first | (with_reducible exact Nat.le_refl _) | (with_reducible assumption) | omega | (simp; omega) | (simp; done)))))).mono ?_
  rintro e w1 ⟨g, rfl, hg, hr1, hb1⟩
  go_wp2_with fail
  refine (HS.out _ _ hr1).mono ?_
  rintro e w2 ⟨rfl, hb2⟩
  go_wp2
  go_ret
  refine ⟨rfl, ?_⟩
  repeat' (first | (with_reducible exact bl_refl _) | (with_reducible assumption) | (with_reducible apply bl_al) | (with_reducible apply bl_dr) | (with_reducible refine bl_st ?_ ?_ _) | (with_reducible refine bl_tr ?_ (by with_reducible assumption)) | (first | (with_reducible exact Nat.le_refl _) | (with_reducible assumption) | omega | (simp; omega) | (simp; done)))
end Go.Proofs.Ytbigadbnijpcjaa
