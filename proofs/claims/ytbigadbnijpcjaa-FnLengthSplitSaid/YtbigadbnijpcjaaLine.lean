/-
  Contracts: line strings: NewLineString, impl.line, IsEmpty, CoordinatesType, Sequence.Get, NewPoint, NewEmptyPoint, StartPoint.
-/
import Derived.Test.YtbigadbnijpcjaaPt
namespace Go.Proofs.Ytbigadbnijpcjaa
open Go.RowKit
theorem newLS_any (k : Nat) (A : Option Addr) (n c : Nat) (w : World) :
    Calls Try.prog 110 #[.agg #[.int .u8 k, .slice A n c]] w fun e w' => e = .returned (.agg #[.int .u8 k, .slice A n c]) ∧ Below w.heap.size w w' := by
  go_enter Try.func110, Try.ntmps110
  go_wp2
  refine bodyPost_ret (v := .agg #[.int .u8 k, .slice A n c]) (by simp [results, Try.results110, go_sem, ]) rfl ⟨rfl, ?_⟩
  repeat' (first | (with_reducible exact bl_refl _) | (with_reducible assumption) | (with_reducible apply bl_al) | (with_reducible apply bl_dr) | (with_reducible refine bl_st ?_ ?_ _) | (with_reducible refine bl_tr ?_ (by with_reducible assumption)) | (first | (with_reducible exact Nat.le_refl _) | (with_reducible assumption) | omega | (simp; omega) | (simp; done)))
set_option maxRecDepth 100000 in
theorem line_any (A B : Option Addr) (X : List Nat) (n c m d : Nat) (x : Int) (w : World) (hn : X.length = n) (hr : rd1 (.float .f64) w A X) (hl : n ≤ 65536) :
    Calls Try.prog 64 #[.agg #[.int .i64 2, .int .i64 x, .slice A n c, .slice B m d]] w fun e w' => ∃ g, e = .returned (.agg #[.int .u8 (d3 x), .slice (some ⟨g, 0, none⟩) (fit x n) (fit x n)]) ∧ w.heap.size ≤ g ∧ rd1 (.float .f64) w' (some ⟨g, 0, none⟩) (X.take (fit x n)) ∧ Below w.heap.size w w' := by
  have HS := Lib.hid fun W h => sequence_any A X n c x W hn h hl
  have HL := Lib.hid fun A' N W => newLS_any (d3 x) A' N N W
  have HR : Hid (∀ W, Below w.heap.size w W → rd1 (.float .f64) W A X) := fun W hb => rd1_tr hr hb
  clear hn hr
  generalize hN : fit x n = N at *
  have HN := Lib.hid hN
  generalize hk : d3 x = k at *
  have HK := Lib.hid hk
  clear hN hk
  go_enter Try.func64, Try.ntmps64
  go_wp2_with fail
  refine (HS.out _ (HR.out _ (bl_al (bl_al (bl_refl _) _) _))).mono ?_
  rintro e w1 ⟨g, rfl, hg, hr1, hb1⟩
  go_wp2_with fail
  refine (HL.out _ _ _).mono ?_
  rintro e w2 ⟨rfl, hb2⟩
  have B2 := blk_tr (blk_tr (blk_new (w.alloc (.cells #[.int .i64 2, .int .i64 x, .slice A n c, .slice B m d] 25)) 113 #[.int .u8 0, .slice none 0 0]) hb1) hb2
  simp only [World.size_alloc] at B2
  have r0 := (blk_cell B2 0).trans (rfl : _ = some (Value.int .u8 0))
  have r1 := (blk_cell B2 1).trans (rfl : _ = some (Value.slice none 0 0))
  have fr := fun i => blk_frozen B2 i
  have hlt := blk_lt B2
  have hr2 := rd1_tr hr1 hb2
  simp only [World.size_alloc] at hg
  go_wp2
  try rw [HN.out]
  try rw [HK.out]
  refine bodyPost_ret (v := .agg #[.int .u8 k, .slice (some ⟨g, 0, none⟩) N N]) (by simp [results, Try.results64, go_sem, *]) rfl ⟨g, rfl, by omega, ?_, ?_⟩
  · exact rd1_far (rd1_far hr2 _ (by rintro b o ⟨⟩; simp; omega)) _ (by rintro b o ⟨⟩; simp; omega)
  · repeat' (first | (with_reducible exact bl_refl _) | (with_reducible assumption) | (with_reducible apply bl_al) | (with_reducible apply bl_dr) | (with_reducible refine bl_st ?_ ?_ _) | (with_reducible refine bl_tr ?_ (by with_reducible assumption)) | (first | (with_reducible exact Nat.le_refl _) | (with_reducible assumption) | omega | (simp; omega) | (simp; done)))
set_option maxRecDepth 100000 in
/-- Where it is no line, the line is empty. -/
theorem line_other (A B : Option Addr) (kd : Int) (n c m d : Nat) (x : Int) (w : World) (hkd : kd ≠ 2) :
    Calls Try.prog 64 #[.agg #[.int .i64 kd, .int .i64 x, .slice A n c, .slice B m d]] w fun e w' => ∃ g, e = .returned (.agg #[.int .u8 (d3 x), .slice (some ⟨g, 0, none⟩) 0 0]) ∧ w.heap.size ≤ g ∧ Below w.heap.size w w' := by
  have h0 : fit x 0 = 0 := by simp [fit]
  have HS := Lib.hid fun W => sequence_any none [] 0 0 x W rfl (rd1_nil _ _) (by omega)
  rw [h0] at HS
  have HL := Lib.hid fun A' N W => newLS_any (d3 x) A' N N W
  generalize hk : d3 x = k at *
  have HK := Lib.hid hk
  clear hk
  go_enter Try.func64, Try.ntmps64
  go_wp2_with fail
  refine (HS.out _).mono ?_
  rintro e w1 ⟨g, rfl, hg, hr1, hb1⟩
  go_wp2_with fail
  refine (HL.out _ _ _).mono ?_
  rintro e w2 ⟨rfl, hb2⟩
  have B2 := blk_tr (blk_tr (blk_new (w.alloc (.cells #[.int .i64 kd, .int .i64 x, .slice A n c, .slice B m d] 25)) 113 #[.int .u8 0, .slice none 0 0]) hb1) hb2
  simp only [World.size_alloc] at B2 hg
  have r0 := (blk_cell B2 0).trans (rfl : _ = some (Value.int .u8 0))
  have r1 := (blk_cell B2 1).trans (rfl : _ = some (Value.slice none 0 0))
  have fr := fun i => blk_frozen B2 i
  have hlt := blk_lt B2
  go_wp2
  try rw [HK.out]
  refine bodyPost_ret (v := .agg #[.int .u8 k, .slice (some ⟨g, 0, none⟩) 0 0]) (by simp [results, Try.results64, go_sem, *]) rfl ⟨g, rfl, by omega, ?_⟩
  repeat' (first | (with_reducible exact bl_refl _) | (with_reducible assumption) | (with_reducible apply bl_al) | (with_reducible apply bl_dr) | (with_reducible refine bl_st ?_ ?_ _) | (with_reducible refine bl_tr ?_ (by with_reducible assumption)) | (first | (with_reducible exact Nat.le_refl _) | (with_reducible assumption) | omega | (simp; omega) | (simp; done)))
set_option maxRecDepth 100000 in
theorem lsEmpty_any (k : Nat) (hk : k < 4) (A : Option Addr) (n c m : Nat) (hn : n = m * wid k) (hm : n ≤ maxLen) (w : World) :
    Calls Try.prog 112 #[.agg #[.int .u8 k, .slice A n c]] w fun e w' => e = .returned (.bool (decide (m = 0))) ∧ Below w.heap.size w w' := by
  have HL := Lib.hid fun W => length_any k hk A n c m hn hm W
  clear hn hm
  go_enter Try.func112, Try.ntmps112
  go_wp2_with fail; refine (HL.out _).mono ?_; rintro e w1 ⟨rfl, hb1⟩
  go_wp2
  go_ret
  refine ⟨?_, ?_⟩
  · show Ending.returned (.bool _) = _
    by_cases h0 : m = 0 <;> simp [h0] <;> omega
  · repeat' (first | (with_reducible exact bl_refl _) | (with_reducible assumption) | (with_reducible apply bl_al) | (with_reducible apply bl_dr) | (with_reducible refine bl_st ?_ ?_ _) | (with_reducible refine bl_tr ?_ (by with_reducible assumption)) | (first | (with_reducible exact Nat.le_refl _) | (with_reducible assumption) | omega | (simp; omega) | (simp; done)))
theorem lsCtype_any (k : Nat) (A : Option Addr) (n c : Nat) (w : World) :
    Calls Try.prog 114 #[.agg #[.int .u8 k, .slice A n c]] w fun e w' => e = .returned (.int .u8 k) ∧ Below w.heap.size w w' := by
  have HL := Lib.hid fun W => ctype_any k A n c W
  go_enter Try.func114, Try.ntmps114
  go_wp2_with fail; refine (HL.out _).mono ?_; rintro e w1 ⟨rfl, hb1⟩
  go_wp2
  go_ret
  refine ⟨rfl, ?_⟩
  repeat' (first | (with_reducible exact bl_refl _) | (with_reducible assumption) | (with_reducible apply bl_al) | (with_reducible apply bl_dr) | (with_reducible refine bl_st ?_ ?_ _) | (with_reducible refine bl_tr ?_ (by with_reducible assumption)) | (first | (with_reducible exact Nat.le_refl _) | (with_reducible assumption) | omega | (simp; omega) | (simp; done)))
set_option maxRecDepth 100000 in
theorem newEPt_any (k : Nat) (w : World) :
    Calls Try.prog 113 #[.int .u8 k] w fun e w' => e = .returned (.agg #[.float .f64 0, .float .f64 0, .float .f64 0, .float .f64 0, .int .u8 k, .bool false]) ∧ Below w.heap.size w w' := by
  go_enter Try.func113, Try.ntmps113
  go_wp2
  refine bodyPost_ret (v := .agg #[.float .f64 0, .float .f64 0, .float .f64 0, .float .f64 0, .int .u8 k, .bool false]) (by simp [results, Try.results113, go_sem, ]) rfl ⟨rfl, ?_⟩
  repeat' (first | (with_reducible exact bl_refl _) | (with_reducible assumption) | (with_reducible apply bl_al) | (with_reducible apply bl_dr) | (with_reducible refine bl_st ?_ ?_ _) | (with_reducible refine bl_tr ?_ (by with_reducible assumption)) | (first | (with_reducible exact Nat.le_refl _) | (with_reducible assumption) | omega | (simp; omega) | (simp; done)))
set_option maxRecDepth 100000 in
theorem newPt_any (x y z m k : Nat) (w : World) :
    Calls Try.prog 116 #[.agg #[.float .f64 x, .float .f64 y, .float .f64 z, .float .f64 m, .int .u8 k]] w fun e w' => e = .returned (.agg #[.float .f64 x, .float .f64 y, .float .f64 z, .float .f64 m, .int .u8 k, .bool true]) ∧ Below w.heap.size w w' := by
  go_enter Try.func116, Try.ntmps116
  go_wp2
  refine bodyPost_ret (v := .agg #[.float .f64 x, .float .f64 y, .float .f64 z, .float .f64 m, .int .u8 k, .bool true]) (by simp [results, Try.results116, go_sem, ]) rfl ⟨rfl, ?_⟩
  repeat' (first | (with_reducible exact bl_refl _) | (with_reducible assumption) | (with_reducible apply bl_al) | (with_reducible apply bl_dr) | (with_reducible refine bl_st ?_ ?_ _) | (with_reducible refine bl_tr ?_ (by with_reducible assumption)) | (first | (with_reducible exact Nat.le_refl _) | (with_reducible assumption) | omega | (simp; omega) | (simp; done)))
/-- A place's numbers, as coordinates. -/
def px (P : List Nat) : Nat := P.getD 0 0
def py (P : List Nat) : Nat := P.getD 1 0
def pz (k : Nat) (P : List Nat) : Nat := if k % 2 = 1 then P.getD 2 0 else 0
def pm (k : Nat) (P : List Nat) : Nat := if 2 ≤ k then P.getD (wid k - 1) 0 else 0
theorem pn_back (k : Nat) (hk : k < 4) (P : List Nat) (h : P.length = wid k) : pn k (px P) (py P) (pz k P) (pm k P) = P := by
  match k, hk with
  | 0, _ =>
    match P, h with
    | [a, b], _ => rfl
  | 1, _ =>
    match P, h with
    | [a, b, c], _ => rfl
  | 2, _ =>
    match P, h with
    | [a, b, c], _ => rfl
  | 3, _ =>
    match P, h with
    | [a, b, c, d], _ => rfl
/-- The numbers of place j. -/
def plc (k : Nat) (X : List Nat) (j : Nat) : List Nat := (X.drop (j * wid k)).take (wid k)
theorem plc_get (k : Nat) (X : List Nat) (j i : Nat) (hi : i < wid k) : (plc k X j).getD i 0 = X.getD (j * wid k + i) 0 := by
  unfold plc
  rw [List.getD_eq_getElem?_getD, List.getElem?_take_of_lt hi, List.getElem?_drop, ← List.getD_eq_getElem?_getD]
set_option maxRecDepth 100000 in
theorem get_any (k : Nat) (hk : k < 4) (A : Option Addr) (X : List Nat) (n cap m j : Nat) (w : World) (hn : X.length = n) (hX : n = m * wid k) (hj : j < m) (hr : rd1 (.float .f64) w A X) (hL : n ≤ maxLen) :
    Calls Try.prog 115 #[.agg #[.int .u8 k, .slice A n cap], .int .i64 j] w fun e w' => e = .returned (.agg #[.float .f64 (px (plc k X j)), .float .f64 (py (plc k X j)), .float .f64 (pz k (plc k X j)), .float .f64 (pm k (plc k X j)), .int .u8 k]) ∧ Below w.heap.size w w' := by
  have hlen : j * wid k + wid k ≤ n := by rw [← hn]; exact cond_take (hn.trans hX) hj
  have hwp := wid_pos k
  obtain ⟨b, off, rfl, hb, hc⟩ := hr (by omega)
  have hcell : ∀ i, i < wid k → w.cell? ⟨b, off + (j * wid k + i), none⟩ = some (.float .f64 ((plc k X j).getD i 0)) := fun i hi => by
    rw [plc_get k X j i hi]
    refine hc _ _ ?_
    rw [List.getD_eq_getElem?_getD, List.getElem?_eq_getElem (by omega)]; rfl
  generalize plc k X j = P at *
  match k, hk with
  | 0, _ => exact get0_any b off cap n j (P.getD 0 0) (P.getD 1 0) w (by simp only [show wid 0 = 2 from rfl] at hlen; omega) hL hb (hcell 0 (by decide)) (hcell 1 (by decide))
  | 1, _ => exact get1_any b off cap n j (P.getD 0 0) (P.getD 1 0) (P.getD 2 0) w (by simp only [show wid 1 = 3 from rfl] at hlen; omega) hL hb (hcell 0 (by decide)) (hcell 1 (by decide)) (hcell 2 (by decide))
  | 2, _ => exact get2_any b off cap n j (P.getD 0 0) (P.getD 1 0) (P.getD 2 0) w (by simp only [show wid 2 = 3 from rfl] at hlen; omega) hL hb (hcell 0 (by decide)) (hcell 1 (by decide)) (hcell 2 (by decide))
  | 3, _ => exact get3_any b off cap n j (P.getD 0 0) (P.getD 1 0) (P.getD 2 0) (P.getD 3 0) w (by simp only [show wid 3 = 4 from rfl] at hlen; omega) hL hb (hcell 0 (by decide)) (hcell 1 (by decide)) (hcell 2 (by decide)) (hcell 3 (by decide))
set_option maxRecDepth 100000 in
theorem lsStart_none (k : Nat) (hk : k < 4) (A : Option Addr) (c : Nat) (w : World) :
    Calls Try.prog 65 #[.agg #[.int .u8 k, .slice A 0 c]] w fun e w' => e = .returned (.agg #[.float .f64 0, .float .f64 0, .float .f64 0, .float .f64 0, .int .u8 k, .bool false]) ∧ Below w.heap.size w w' := by
  have HE := Lib.hid fun W => lsEmpty_any k hk A 0 c 0 (by simp) (by unfold maxLen; omega) W
  have HC := Lib.hid fun W => lsCtype_any k A 0 c W
  have HN := Lib.hid fun W => newEPt_any k W
  go_enter Try.func65, Try.ntmps65
  go_wp2_with fail; refine (HE.out _).mono ?_; rintro e w1 ⟨rfl, hb1⟩; have hz_w1 := hb1.size; (try simp at hz_w1); have z_w1_0 : w.heap.size < w1.heap.size := (by omega); have rc_w1_0 := bl_rc hb1 (b := w.heap.size) (by (first | (with_reducible exact Nat.le_refl _) | (with_reducible assumption) | omega | (simp; omega) | (simp; done))); have rf_w1_0 := bl_rf hb1 (b := w.heap.size) (by (first | (with_reducible exact Nat.le_refl _) | (with_reducible assumption) | omega | (simp; omega) | (simp; done))); have z_w1_1 : w.heap.size + 1 < w1.heap.size := (by omega); have rc_w1_1 := bl_rc hb1 (b := w.heap.size + 1) (by (first | (with_reducible exact Nat.le_refl _) | (with_reducible assumption) | omega | (simp; omega) | (simp; done))); have rf_w1_1 := bl_rf hb1 (b := w.heap.size + 1) (by (first | (with_reducible exact Nat.le_refl _) | (with_reducible assumption) | omega | (simp; omega) | (simp; done)))
  go_wp2_with fail; refine (HC.out _).mono ?_; rintro e w2 ⟨rfl, hb2⟩
  go_wp2_with fail; refine (HN.out _).mono ?_; rintro e w3 ⟨rfl, hb3⟩
  have B2 := blk_tr (blk_tr (blk_tr (blk_new (w.alloc (.cells #[.int .u8 k, .slice A 0 c] 113)) 109 #[.float .f64 0, .float .f64 0, .float .f64 0, .float .f64 0, .int .u8 0, .bool false]) hb1) hb2) hb3
  simp only [World.size_alloc] at B2
  have fr := fun i => blk_frozen B2 i
  have hlt := blk_lt B2
  have r0 := (blk_cell B2 0).trans (rfl : _ = some (Value.float .f64 0))
  have r1 := (blk_cell B2 1).trans (rfl : _ = some (Value.float .f64 0))
  have r2 := (blk_cell B2 2).trans (rfl : _ = some (Value.float .f64 0))
  have r3 := (blk_cell B2 3).trans (rfl : _ = some (Value.float .f64 0))
  have r4 := (blk_cell B2 4).trans (rfl : _ = some (Value.int .u8 0))
  have r5 := (blk_cell B2 5).trans (rfl : _ = some (Value.bool false))
  go_wp2
  refine bodyPost_ret (v := .agg #[.float .f64 0, .float .f64 0, .float .f64 0, .float .f64 0, .int .u8 k, .bool false]) (by simp [results, Try.results65, go_sem, *]) rfl ⟨rfl, ?_⟩
  repeat' (first | (with_reducible exact bl_refl _) | (with_reducible assumption) | (with_reducible apply bl_al) | (with_reducible apply bl_dr) | (with_reducible refine bl_st ?_ ?_ _) | (with_reducible refine bl_tr ?_ (by with_reducible assumption)) | (first | (with_reducible exact Nat.le_refl _) | (with_reducible assumption) | omega | (simp; omega) | (simp; done)))
set_option maxRecDepth 100000 in
theorem lsStart_some (k : Nat) (hk : k < 4) (A : Option Addr) (X : List Nat) (n c m : Nat) (w : World) (hn : X.length = n) (hX : n = m * wid k) (hm : 0 < m) (hr : rd1 (.float .f64) w A X) (hL : n ≤ maxLen) :
    Calls Try.prog 65 #[.agg #[.int .u8 k, .slice A n c]] w fun e w' => e = .returned (.agg #[.float .f64 (px (plc k X 0)), .float .f64 (py (plc k X 0)), .float .f64 (pz k (plc k X 0)), .float .f64 (pm k (plc k X 0)), .int .u8 k, .bool true]) ∧ Below w.heap.size w w' := by
  have HE := Lib.hid fun W => lsEmpty_any k hk A n c m hX hL W
  have HG := Lib.hid fun W h => get_any k hk A X n c m 0 W hn hX hm h hL
  have HR : Hid (∀ W, Below w.heap.size w W → rd1 (.float .f64) W A X) := fun W hb => rd1_tr hr hb
  have hm0 : decide (m = 0) = false := by simp; omega
  rw [hm0] at HE
  clear hr hX hn hm0 hL
  generalize px (plc k X 0) = x at *
  generalize py (plc k X 0) = y at *
  generalize pz k (plc k X 0) = z at *
  generalize pm k (plc k X 0) = mm at *
  have HN := Lib.hid fun W => newPt_any x y z mm k W
  go_enter Try.func65, Try.ntmps65
  go_wp2_with fail; refine (HE.out _).mono ?_; rintro e w1 ⟨rfl, hb1⟩; have hz_w1 := hb1.size; (try simp at hz_w1); have z_w1_0 : w.heap.size < w1.heap.size := (by omega); have rc_w1_0 := bl_rc hb1 (b := w.heap.size) (by (first | (with_reducible exact Nat.le_refl _) | (with_reducible assumption) | omega | (simp; omega) | (simp; done))); have rf_w1_0 := bl_rf hb1 (b := w.heap.size) (by (first | (with_reducible exact Nat.le_refl _) | (with_reducible assumption) | omega | (simp; omega) | (simp; done))); have z_w1_1 : w.heap.size + 1 < w1.heap.size := (by omega); have rc_w1_1 := bl_rc hb1 (b := w.heap.size + 1) (by (first | (with_reducible exact Nat.le_refl _) | (with_reducible assumption) | omega | (simp; omega) | (simp; done))); have rf_w1_1 := bl_rf hb1 (b := w.heap.size + 1) (by (first | (with_reducible exact Nat.le_refl _) | (with_reducible assumption) | omega | (simp; omega) | (simp; done)))
  go_wp2_with fail
  refine (HG.out _ (HR.out _ (bl_tr (bl_al (bl_al (bl_refl _) _) _) hb1))).mono ?_
  rintro e w2 ⟨rfl, hb2⟩
  go_wp2_with fail; refine (HN.out _).mono ?_; rintro e w3 ⟨rfl, hb3⟩
  have B2 := blk_tr (blk_al (blk_tr (blk_tr (blk_new (w.alloc (.cells #[.int .u8 k, .slice A n c] 113)) 109 #[.float .f64 0, .float .f64 0, .float .f64 0, .float .f64 0, .int .u8 0, .bool false]) hb1) hb2) (.cells #[.float .f64 x, .float .f64 y, .float .f64 z, .float .f64 mm, .int .u8 k] 107)) hb3
  simp only [World.size_alloc] at B2
  have fr := fun i => blk_frozen B2 i
  have hlt := blk_lt B2
  have r0 := (blk_cell B2 0).trans (rfl : _ = some (Value.float .f64 0))
  have r1 := (blk_cell B2 1).trans (rfl : _ = some (Value.float .f64 0))
  have r2 := (blk_cell B2 2).trans (rfl : _ = some (Value.float .f64 0))
  have r3 := (blk_cell B2 3).trans (rfl : _ = some (Value.float .f64 0))
  have r4 := (blk_cell B2 4).trans (rfl : _ = some (Value.int .u8 0))
  have r5 := (blk_cell B2 5).trans (rfl : _ = some (Value.bool false))
  go_wp2
  refine bodyPost_ret (v := .agg #[.float .f64 x, .float .f64 y, .float .f64 z, .float .f64 mm, .int .u8 k, .bool true]) (by simp [results, Try.results65, go_sem, *]) rfl ⟨rfl, ?_⟩
  repeat' (first | (with_reducible exact bl_refl _) | (with_reducible assumption) | (with_reducible apply bl_al) | (with_reducible apply bl_dr) | (with_reducible refine bl_st ?_ ?_ _) | (with_reducible refine bl_tr ?_ (by with_reducible assumption)) | (first | (with_reducible exact Nat.le_refl _) | (with_reducible assumption) | omega | (simp; omega) | (simp; done)))
end Go.Proofs.Ytbigadbnijpcjaa
