/-
  Contracts: Point.CoordinatesType, Point.Coordinates; impl.plainPoint: a point's numbers in a list of the call's own.
-/
import Derived.Test.YtbigadbnijpcjaaGeo
namespace Go.Proofs.Ytbigadbnijpcjaa
open Go.RowKit
theorem ptCtype (x y z m k : Nat) (f : Bool) (w : World) :
    Calls Try.prog 106 #[.agg #[.float .f64 x, .float .f64 y, .float .f64 z, .float .f64 m, .int .u8 k, .bool f]] w fun e w' => e = .returned (.int .u8 k) ∧ Below w.heap.size w w' := by
  go_enter Try.func106, Try.ntmps106
  go_wp2
  refine bodyPost_ret (v := .int .u8 k) (by simp [results, Try.results106, go_sem, ]) rfl ⟨rfl, ?_⟩
  repeat' (first | (with_reducible exact bl_refl _) | (with_reducible assumption) | (with_reducible apply bl_al) | (with_reducible apply bl_dr) | (with_reducible refine bl_st ?_ ?_ _) | (with_reducible refine bl_tr ?_ (by with_reducible assumption)) | (first | (with_reducible exact Nat.le_refl _) | (with_reducible assumption) | omega | (simp; omega) | (simp; done)))
set_option maxRecDepth 100000 in
theorem ptCoords (x y z m k : Nat) (f : Bool) (w : World) :
    Calls Try.prog 107 #[.agg #[.float .f64 x, .float .f64 y, .float .f64 z, .float .f64 m, .int .u8 k, .bool f]] w fun e w' => e = .returned (.tuple #[.agg #[.float .f64 x, .float .f64 y, .float .f64 z, .float .f64 m, .int .u8 k], .bool f]) ∧ Below w.heap.size w w' := by
  have z0 : w.heap.size < w.heap.size + 1 + 1 := by omega
  have z1 : w.heap.size + 1 < w.heap.size + 1 + 1 := by omega
  go_enter Try.func107, Try.ntmps107
  go_wp2
  go_region
  all_goals go_wp2
  all_goals (refine bodyPost_ret (v := .tuple #[.agg #[.float .f64 x, .float .f64 y, .float .f64 z, .float .f64 m, .int .u8 k], .bool f]) (by simp [results, Try.results107, go_sem, *]) rfl ⟨rfl, ?_⟩; repeat' (first | (with_reducible exact bl_refl _) | (with_reducible assumption) | (with_reducible apply bl_al) | (with_reducible apply bl_dr) | (with_reducible refine bl_st ?_ ?_ _) | (with_reducible refine bl_tr ?_ (by with_reducible assumption)) | (first | (with_reducible exact Nat.le_refl _) | (with_reducible assumption) | omega | (simp; omega) | (simp; done))))
/-- The numbers that a place has. -/
def pn (k x y z m : Nat) : List Nat := [x, y] ++ (if k % 2 = 1 then [z] else []) ++ (if 2 ≤ k then [m] else [])
/-- Numbers of a fresh block are laid behind those so far, and the geometry's list is written: the cells behind the first. -/
theorem St.app' {w : World} {B g : Nat} {kd k : Int} {D : Option Addr} {n d m : Nat} {xs : List Nat} (h : St w B g kd k D n d xs) (ys : List Nat) (hm : ys.length = m) {b : Nat} (hb : b = w.heap.size) (hn : n + m ≤ 2147483647) {arr : Array Value} (harr : arr = (fls ys).toArray) :
    ∃ D' d' w', (Builtin.append_ #[22, 22] 22 #[.slice D n d, .slice (some ⟨b, 0, none⟩) m m]).run Try.prog (w.alloc (.cells arr 33)) = .ok (.slice D' (n + m) d') w' ∧
      Blk w' g 25 (gcells kd k D n d) ∧ (∀ b' t' cs, Blk w b' t' cs → b' < B → Blk w' b' t' cs) ∧ Below B w w' ∧ w.heap.size < w'.heap.size ∧ w'.ownsRow B 33 1 (.slice D' (n + m) d') (n + m) (fls (xs ++ ys)) := by
  subst harr
  obtain ⟨D', d', w', hr, hown, hbw, hk, hob, hlt⟩ := app_new (P := Try.prog) (t := 22) (ty := 22) elem_f64 (fls ys).toArray h.own (m := m) (g := b) (by simp [fls_len, hm]) (by simpa using fls_one ys) hb h.le (by unfold maxLen; omega) (by omega)
  exact ⟨D', d', w', hr, hk g _ _ h.blk h.ne, fun b' t' cs hq hlt => hk b' t' cs hq (fun e => by have := (own_lt h.own e).1; omega), hbw, hlt, by simpa [fls] using hown⟩
set_option maxRecDepth 100000 in
theorem plainPtE (x y z m k : Nat) (hk : k < 4) (w : World) :
    Calls Try.prog 63 #[.agg #[.float .f64 x, .float .f64 y, .float .f64 z, .float .f64 m, .int .u8 k, .bool false]] w fun e w' => e = .returned (.agg (gcells 1 k none 0 0)) ∧ Below w.heap.size w w' := by
  have HT := Lib.hid fun W => ptCtype x y z m k false W
  have HC := Lib.hid fun W => ptCoords x y z m k false W
  have hk8 : (k : Int) % 256 = k := by omega
  go_enter Try.func63, Try.ntmps63
  go_wp2_with fail; refine (HT.out _).mono ?_; rintro e w1 ⟨rfl, hb1⟩; have hz_w1 := hb1.size; (try simp at hz_w1); have z_w1_0 : w.heap.size < w1.heap.size := (by omega); have rc_w1_0 := bl_rc hb1 (b := w.heap.size) (by (first | (with_reducible exact Nat.le_refl _) | (with_reducible assumption) | omega | (simp; omega) | (simp; done))); have rf_w1_0 := bl_rf hb1 (b := w.heap.size) (by (first | (with_reducible exact Nat.le_refl _) | (with_reducible assumption) | omega | (simp; omega) | (simp; done))); have z_w1_1 : w.heap.size + 1 < w1.heap.size := (by omega); have rc_w1_1 := bl_rc hb1 (b := w.heap.size + 1) (by (first | (with_reducible exact Nat.le_refl _) | (with_reducible assumption) | omega | (simp; omega) | (simp; done))); have rf_w1_1 := bl_rf hb1 (b := w.heap.size + 1) (by (first | (with_reducible exact Nat.le_refl _) | (with_reducible assumption) | omega | (simp; omega) | (simp; done)))
  have hbox := blk_tr (blk_al (blk_new w 109 #[.float .f64 x, .float .f64 y, .float .f64 z, .float .f64 m, .int .u8 k, .bool false]) (.cells #[.int .i64 0, .int .i64 0, .slice none 0 0, .slice none 0 0] 25)) hb1
  have hbx := fun i => blk_cell (blk_al hbox (.cells #[.int .i64 1, .int .i64 k, .slice none 0 0, .slice none 0 0] 25)) i
  simp only [gcells]
  go_wp2_with fail; refine (HC.out _).mono ?_; rintro e w2 ⟨rfl, hb2⟩
  have hG := blk_tr (blk_new w1 25 #[.int .i64 1, .int .i64 k, .slice none 0 0, .slice none 0 0]) hb2
  have hR := blk_tr (blk_al (blk_tr (blk_new (w.alloc (.cells #[.float .f64 x, .float .f64 y, .float .f64 z, .float .f64 m, .int .u8 k, .bool false] 109)) 25 #[.int .i64 0, .int .i64 0, .slice none 0 0, .slice none 0 0]) hb1) (.cells #[.int .i64 1, .int .i64 k, .slice none 0 0, .slice none 0 0] 25)) hb2
  simp only [World.size_alloc] at hR
  have g0 := (blk_cell hG 0).trans (rfl : _ = some (Value.int .i64 1))
  have g1 := (blk_cell hG 1).trans (rfl : _ = some (Value.int .i64 k))
  have g2 := (blk_cell hG 2).trans (rfl : _ = some (Value.slice none 0 0))
  have g3 := (blk_cell hG 3).trans (rfl : _ = some (Value.slice none 0 0))
  have r0 := (blk_cell hR 0).trans (rfl : _ = some (Value.int .i64 0))
  have r1 := (blk_cell hR 1).trans (rfl : _ = some (Value.int .i64 0))
  have r2 := (blk_cell hR 2).trans (rfl : _ = some (Value.slice none 0 0))
  have r3 := (blk_cell hR 3).trans (rfl : _ = some (Value.slice none 0 0))
  have fr := fun i => blk_frozen hR i
  have hs2 := hb2.size
  simp only [World.size_alloc] at hs2
  have q1 : w1.heap.size < w2.heap.size := by omega
  have q2 : ¬ w1.heap.size = w2.heap.size := by omega
  have q3 : w.heap.size + 1 < w2.heap.size := by omega
  have q4 : ¬ w.heap.size + 1 = w2.heap.size := by omega
  have q5 : ¬ w1.heap.size = w.heap.size + 1 := by omega
  have q6 : ¬ w.heap.size + 1 = w1.heap.size := by omega
  clear hG hR hbx hbox
  go_wp2
  refine bodyPost_ret (v := .agg #[.int .i64 1, .int .i64 k, .slice none 0 0, .slice none 0 0]) (by simp [results, Try.results63, go_sem, *]) rfl ⟨rfl, ?_⟩
  repeat' (first | (with_reducible exact bl_refl _) | (with_reducible assumption) | (with_reducible apply bl_al) | (with_reducible apply bl_dr) | (with_reducible refine bl_st ?_ ?_ _) | (with_reducible refine bl_tr ?_ (by with_reducible assumption)) | (first | (with_reducible exact Nat.le_refl _) | (with_reducible assumption) | omega | (simp; omega) | (simp; done)))
set_option maxRecDepth 100000 in
set_option maxHeartbeats 1000000 in
theorem plainPt0 (x y z m : Nat) (w : World) :
    Calls Try.prog 63 #[.agg #[.float .f64 x, .float .f64 y, .float .f64 z, .float .f64 m, .int .u8 0, .bool true]] w fun e w' => ∃ D c, e = .returned (.agg (gcells 1 0 D (pn 0 x y z m).length c)) ∧ w'.ownsRow w.heap.size 33 1 (.slice D (pn 0 x y z m).length c) (pn 0 x y z m).length (fls (pn 0 x y z m)) ∧ Below w.heap.size w w' := by
  have HT := Lib.hid fun W => ptCtype x y z m 0 true W
  have HC := Lib.hid fun W => ptCoords x y z m 0 true W
  have H3 : Hid (∀ W, Calls Try.prog 108 #[.int .u8 0] W fun e w' => e = .returned (.bool false) ∧ W = w') := Lib.hid fun W => is3D_any 0 (by decide) W
  have HM : Hid (∀ W, Calls Try.prog 109 #[.int .u8 0] W fun e w' => e = .returned (.bool false) ∧ W = w') := Lib.hid fun W => isM_any 0 (by decide) W
  go_enter Try.func63, Try.ntmps63
  go_wp2_with fail; refine (HT.out _).mono ?_; rintro e w1 ⟨rfl, hb1⟩
  have hbox := blk_tr (blk_al (blk_new w 109 #[.float .f64 x, .float .f64 y, .float .f64 z, .float .f64 m, .int .u8 0, .bool true]) (.cells #[.int .i64 0, .int .i64 0, .slice none 0 0, .slice none 0 0] 25)) hb1
  have hres := blk_tr (blk_new (w.alloc (.cells #[.float .f64 x, .float .f64 y, .float .f64 z, .float .f64 m, .int .u8 0, .bool true] 109)) 25 #[.int .i64 0, .int .i64 0, .slice none 0 0, .slice none 0 0]) hb1
  have hbr : Below w.heap.size w w1 := bl_tr (bl_al (bl_al (bl_refl _) _) _) hb1
  have hz := hb1.size
  simp at hz hres
  have hbx := fun i => blk_cell (blk_al hbox (.cells #[.int .i64 1, .int .i64 0, .slice none 0 0, .slice none 0 0] 25)) i
  go_wp2_with fail; refine (HC.out _).mono ?_; rintro e w3 ⟨rfl, hb2⟩
  have hst : St w3 (w1.heap.size + 1) w1.heap.size 1 0 none 0 0 [] := St.tr ⟨own_nil (w1.alloc (.cells (gcells 1 0 none 0 0) 25)) _ _ _, blk_new _ _ _, by omega, by simp⟩ hb2
  replace hbox := blk_tr (blk_al hbox _) hb2
  replace hres := blk_tr (blk_al hres _) hb2
  replace hbr := bl_tr (bl_al hbr _) hb2
  clear hbx hb2 hb1
  have hg1 : w1.heap.size < w3.heap.size := by have := hst.le; omega
  have hg2 : ¬ w1.heap.size = w3.heap.size := by omega
  have c0 := (blk_cell hst.blk 2).trans (rfl : _ = some (Value.slice none 0 0))
  have f0 := blk_frozen hst.blk 2
  have hq := blk_new w3 107 #[.float .f64 x, .float .f64 y, .float .f64 z, .float .f64 m, .int .u8 0]
  have hqo : (Value.slice none 0 0).ownBlock ≠ some w3.heap.size := fun e => by cases e
  obtain ⟨D1, d1, w4, hr1, c1, f1, cq, hl4, hb4, HW⟩ := (hst.al (.cells #[.float .f64 x, .float .f64 y, .float .f64 z, .float .f64 m, .int .u8 0] 107)).app (m := 2) [x, y] rfl (b := w3.heap.size + 1) (by simp) hq hqo (by omega) (by omega) rfl
  have ka := (cq 1).trans rfl
  have kb := (cq 2).trans rfl
  have kc := (cq 4).trans rfl
  have hb5 : Below w.heap.size w w4 := (bl_al hbr (.cells #[.float .f64 x, .float .f64 y, .float .f64 z, .float .f64 m, .int .u8 0] 107)).trans (hb4.mono (by omega))
  clear cq
  go_wp2_with (first | (at_builtin; refine list_append _ _ _ rfl rfl rfl rfl hr1 ?_))
  generalize hW : World.setCell w4 ⟨w1.heap.size, 2, none⟩ (.slice D1 _ d1) = W1
  obtain ⟨hst1, hq1, hqo1, hb', cq1, c1', f1', hl'⟩ := HW W1 hW.symm
  have hbox1 := blk_below (blk_al hbox _) hb' (by omega)
  have hres1 := blk_below (blk_al hres _) hb' (by omega)
  have hbr1 := (bl_al hbr _).trans (hb'.mono (by omega))
  clear HW hW c1 f1 ka kb kc hb4 hb' hl4 hst hq hqo hbox hres hbr hb5 c0 f0
  have kc := (cq1 4).trans rfl
  go_wp2_with fail; refine (H3.out _).mono ?_; rintro e w' ⟨rfl, rfl⟩
  go_wp2_with fail; refine (HM.out _).mono ?_; rintro e w' ⟨rfl, rfl⟩
  clear kc
  have g0 := (blk_cell hst1.blk 0).trans (rfl : _ = some (Value.int .i64 1))
  have g1 := (blk_cell hst1.blk 1).trans (rfl : _ = some (Value.int .i64 0))
  have g2 := (blk_cell hst1.blk 2).trans (rfl : _ = some (Value.slice D1 _ d1))
  have g3 := (blk_cell hst1.blk 3).trans (rfl : _ = some (Value.slice none 0 0))
  clear c1' f1' cq1
  have r0 := (blk_cell hres1 0).trans rfl
  have f0 := blk_frozen hres1 0
  have r1 := (blk_cell hres1 1).trans rfl
  have f1 := blk_frozen hres1 1
  have r2 := (blk_cell hres1 2).trans rfl
  have f2 := blk_frozen hres1 2
  have r3 := (blk_cell hres1 3).trans rfl
  have f3 := blk_frozen hres1 3
  go_wp2
  have ho := own_base hst1.own (b := w.heap.size) (by omega)
  have hne : (Value.slice D1 (0 + 2) d1).ownBlock ≠ some (w.heap.size + 1) := fun e => by have := (own_lt hst1.own e).1; omega
  refine bodyPost_ret (v := .agg (gcells 1 0 D1 2 d1)) (by simp [results, Try.results63, gcells, go_sem, *]) rfl ⟨D1, d1, rfl, ?_, ?_⟩
  · exact own_far (own_far (own_far (own_far ho hne _) hne _) hne _) hne _
  · repeat' (first | (with_reducible exact bl_refl _) | (with_reducible assumption) | (with_reducible apply bl_al) | (with_reducible apply bl_dr) | (with_reducible refine bl_st ?_ ?_ _) | (with_reducible refine bl_tr ?_ (by with_reducible assumption)) | (first | (with_reducible exact Nat.le_refl _) | (with_reducible assumption) | omega | (simp; omega) | (simp; done)))
set_option maxRecDepth 100000 in
set_option maxHeartbeats 1000000 in
theorem plainPt1 (x y z m : Nat) (w : World) :
    Calls Try.prog 63 #[.agg #[.float .f64 x, .float .f64 y, .float .f64 z, .float .f64 m, .int .u8 1, .bool true]] w fun e w' => ∃ D c, e = .returned (.agg (gcells 1 1 D (pn 1 x y z m).length c)) ∧ w'.ownsRow w.heap.size 33 1 (.slice D (pn 1 x y z m).length c) (pn 1 x y z m).length (fls (pn 1 x y z m)) ∧ Below w.heap.size w w' := by
  have HT := Lib.hid fun W => ptCtype x y z m 1 true W
  have HC := Lib.hid fun W => ptCoords x y z m 1 true W
  have H3 : Hid (∀ W, Calls Try.prog 108 #[.int .u8 1] W fun e w' => e = .returned (.bool true) ∧ W = w') := Lib.hid fun W => is3D_any 1 (by decide) W
  have HM : Hid (∀ W, Calls Try.prog 109 #[.int .u8 1] W fun e w' => e = .returned (.bool false) ∧ W = w') := Lib.hid fun W => isM_any 1 (by decide) W
  go_enter Try.func63, Try.ntmps63
  go_wp2_with fail; refine (HT.out _).mono ?_; rintro e w1 ⟨rfl, hb1⟩
  have hbox := blk_tr (blk_al (blk_new w 109 #[.float .f64 x, .float .f64 y, .float .f64 z, .float .f64 m, .int .u8 1, .bool true]) (.cells #[.int .i64 0, .int .i64 0, .slice none 0 0, .slice none 0 0] 25)) hb1
  have hres := blk_tr (blk_new (w.alloc (.cells #[.float .f64 x, .float .f64 y, .float .f64 z, .float .f64 m, .int .u8 1, .bool true] 109)) 25 #[.int .i64 0, .int .i64 0, .slice none 0 0, .slice none 0 0]) hb1
  have hbr : Below w.heap.size w w1 := bl_tr (bl_al (bl_al (bl_refl _) _) _) hb1
  have hz := hb1.size
  simp at hz hres
  have hbx := fun i => blk_cell (blk_al hbox (.cells #[.int .i64 1, .int .i64 1, .slice none 0 0, .slice none 0 0] 25)) i
  go_wp2_with fail; refine (HC.out _).mono ?_; rintro e w3 ⟨rfl, hb2⟩
  have hst : St w3 (w1.heap.size + 1) w1.heap.size 1 1 none 0 0 [] := St.tr ⟨own_nil (w1.alloc (.cells (gcells 1 1 none 0 0) 25)) _ _ _, blk_new _ _ _, by omega, by simp⟩ hb2
  replace hbox := blk_tr (blk_al hbox _) hb2
  replace hres := blk_tr (blk_al hres _) hb2
  replace hbr := bl_tr (bl_al hbr _) hb2
  clear hbx hb2 hb1
  have hg1 : w1.heap.size < w3.heap.size := by have := hst.le; omega
  have hg2 : ¬ w1.heap.size = w3.heap.size := by omega
  have c0 := (blk_cell hst.blk 2).trans (rfl : _ = some (Value.slice none 0 0))
  have f0 := blk_frozen hst.blk 2
  have hq := blk_new w3 107 #[.float .f64 x, .float .f64 y, .float .f64 z, .float .f64 m, .int .u8 1]
  have hqo : (Value.slice none 0 0).ownBlock ≠ some w3.heap.size := fun e => by cases e
  obtain ⟨D1, d1, w4, hr1, c1, f1, cq, hl4, hb4, HW⟩ := (hst.al (.cells #[.float .f64 x, .float .f64 y, .float .f64 z, .float .f64 m, .int .u8 1] 107)).app (m := 2) [x, y] rfl (b := w3.heap.size + 1) (by simp) hq hqo (by omega) (by omega) rfl
  have ka := (cq 1).trans rfl
  have kb := (cq 2).trans rfl
  have kc := (cq 4).trans rfl
  have hb5 : Below w.heap.size w w4 := (bl_al hbr (.cells #[.float .f64 x, .float .f64 y, .float .f64 z, .float .f64 m, .int .u8 1] 107)).trans (hb4.mono (by omega))
  clear cq
  go_wp2_with (first | (at_builtin; refine list_append _ _ _ rfl rfl rfl rfl hr1 ?_))
  generalize hW : World.setCell w4 ⟨w1.heap.size, 2, none⟩ (.slice D1 _ d1) = W1
  obtain ⟨hst1, hq1, hqo1, hb', cq1, c1', f1', hl'⟩ := HW W1 hW.symm
  have hbox1 := blk_below (blk_al hbox _) hb' (by omega)
  have hres1 := blk_below (blk_al hres _) hb' (by omega)
  have hbr1 := (bl_al hbr _).trans (hb'.mono (by omega))
  clear HW hW c1 f1 ka kb kc hb4 hb' hl4 hst hq hqo hbox hres hbr hb5 c0 f0
  have kc := (cq1 4).trans rfl
  go_wp2_with fail; refine (H3.out _).mono ?_; rintro e w' ⟨rfl, rfl⟩
  clear kc
  have cz := (cq1 2).trans rfl
  obtain ⟨D2, d2, v2, hr2, c1, f1, cq', hl4, hb4, HW⟩ := hst1.app (m := 1) [z] rfl (b := W1.heap.size) rfl hq1 hqo1 (by omega) (by omega) rfl
  have ka := (cq' 1).trans rfl
  have kb := (cq' 2).trans rfl
  have kc := (cq' 4).trans rfl
  clear cq'
  go_wp2_with (first | (at_builtin; refine list_append _ _ _ rfl rfl rfl rfl hr2 ?_))
  clear cz
  generalize hW : World.setCell v2 ⟨w1.heap.size, 2, none⟩ (.slice D2 _ d2) = W2
  obtain ⟨hst2, hq2, hqo2, hb', cq2, c2', f2', hl'⟩ := HW W2 hW.symm
  have hbox2 := blk_below hbox1 hb' (by omega)
  have hres2 := blk_below hres1 hb' (by omega)
  have hbr2 := hbr1.trans (hb'.mono (by omega))
  clear HW hW c1 f1 ka kb kc hb4 hb' hl4 hst1 hq1 hqo1 hbox1 hres1 hbr1 cq1 c1' f1'
  have kc := (cq2 4).trans rfl
  go_wp2_with fail; refine (HM.out _).mono ?_; rintro e w' ⟨rfl, rfl⟩
  clear kc
  have g0 := (blk_cell hst2.blk 0).trans (rfl : _ = some (Value.int .i64 1))
  have g1 := (blk_cell hst2.blk 1).trans (rfl : _ = some (Value.int .i64 1))
  have g2 := (blk_cell hst2.blk 2).trans (rfl : _ = some (Value.slice D2 _ d2))
  have g3 := (blk_cell hst2.blk 3).trans (rfl : _ = some (Value.slice none 0 0))
  clear c2' f2' cq2
  have r0 := (blk_cell hres2 0).trans rfl
  have f0 := blk_frozen hres2 0
  have r1 := (blk_cell hres2 1).trans rfl
  have f1 := blk_frozen hres2 1
  have r2 := (blk_cell hres2 2).trans rfl
  have f2 := blk_frozen hres2 2
  have r3 := (blk_cell hres2 3).trans rfl
  have f3 := blk_frozen hres2 3
  go_wp2
  have ho := own_base hst2.own (b := w.heap.size) (by omega)
  have hne : (Value.slice D2 (0 + 2 + 1) d2).ownBlock ≠ some (w.heap.size + 1) := fun e => by have := (own_lt hst2.own e).1; omega
  refine bodyPost_ret (v := .agg (gcells 1 1 D2 3 d2)) (by simp [results, Try.results63, gcells, go_sem, *]) rfl ⟨D2, d2, rfl, ?_, ?_⟩
  · exact own_far (own_far (own_far (own_far ho hne _) hne _) hne _) hne _
  · repeat' (first | (with_reducible exact bl_refl _) | (with_reducible assumption) | (with_reducible apply bl_al) | (with_reducible apply bl_dr) | (with_reducible refine bl_st ?_ ?_ _) | (with_reducible refine bl_tr ?_ (by with_reducible assumption)) | (first | (with_reducible exact Nat.le_refl _) | (with_reducible assumption) | omega | (simp; omega) | (simp; done)))
set_option maxRecDepth 100000 in
set_option maxHeartbeats 1000000 in
theorem plainPt2 (x y z m : Nat) (w : World) :
    Calls Try.prog 63 #[.agg #[.float .f64 x, .float .f64 y, .float .f64 z, .float .f64 m, .int .u8 2, .bool true]] w fun e w' => ∃ D c, e = .returned (.agg (gcells 1 2 D (pn 2 x y z m).length c)) ∧ w'.ownsRow w.heap.size 33 1 (.slice D (pn 2 x y z m).length c) (pn 2 x y z m).length (fls (pn 2 x y z m)) ∧ Below w.heap.size w w' := by
  have HT := Lib.hid fun W => ptCtype x y z m 2 true W
  have HC := Lib.hid fun W => ptCoords x y z m 2 true W
  have H3 : Hid (∀ W, Calls Try.prog 108 #[.int .u8 2] W fun e w' => e = .returned (.bool false) ∧ W = w') := Lib.hid fun W => is3D_any 2 (by decide) W
  have HM : Hid (∀ W, Calls Try.prog 109 #[.int .u8 2] W fun e w' => e = .returned (.bool true) ∧ W = w') := Lib.hid fun W => isM_any 2 (by decide) W
  go_enter Try.func63, Try.ntmps63
  go_wp2_with fail; refine (HT.out _).mono ?_; rintro e w1 ⟨rfl, hb1⟩
  have hbox := blk_tr (blk_al (blk_new w 109 #[.float .f64 x, .float .f64 y, .float .f64 z, .float .f64 m, .int .u8 2, .bool true]) (.cells #[.int .i64 0, .int .i64 0, .slice none 0 0, .slice none 0 0] 25)) hb1
  have hres := blk_tr (blk_new (w.alloc (.cells #[.float .f64 x, .float .f64 y, .float .f64 z, .float .f64 m, .int .u8 2, .bool true] 109)) 25 #[.int .i64 0, .int .i64 0, .slice none 0 0, .slice none 0 0]) hb1
  have hbr : Below w.heap.size w w1 := bl_tr (bl_al (bl_al (bl_refl _) _) _) hb1
  have hz := hb1.size
  simp at hz hres
  have hbx := fun i => blk_cell (blk_al hbox (.cells #[.int .i64 1, .int .i64 2, .slice none 0 0, .slice none 0 0] 25)) i
  go_wp2_with fail; refine (HC.out _).mono ?_; rintro e w3 ⟨rfl, hb2⟩
  have hst : St w3 (w1.heap.size + 1) w1.heap.size 1 2 none 0 0 [] := St.tr ⟨own_nil (w1.alloc (.cells (gcells 1 2 none 0 0) 25)) _ _ _, blk_new _ _ _, by omega, by simp⟩ hb2
  replace hbox := blk_tr (blk_al hbox _) hb2
  replace hres := blk_tr (blk_al hres _) hb2
  replace hbr := bl_tr (bl_al hbr _) hb2
  clear hbx hb2 hb1
  have hg1 : w1.heap.size < w3.heap.size := by have := hst.le; omega
  have hg2 : ¬ w1.heap.size = w3.heap.size := by omega
  have c0 := (blk_cell hst.blk 2).trans (rfl : _ = some (Value.slice none 0 0))
  have f0 := blk_frozen hst.blk 2
  have hq := blk_new w3 107 #[.float .f64 x, .float .f64 y, .float .f64 z, .float .f64 m, .int .u8 2]
  have hqo : (Value.slice none 0 0).ownBlock ≠ some w3.heap.size := fun e => by cases e
  obtain ⟨D1, d1, w4, hr1, c1, f1, cq, hl4, hb4, HW⟩ := (hst.al (.cells #[.float .f64 x, .float .f64 y, .float .f64 z, .float .f64 m, .int .u8 2] 107)).app (m := 2) [x, y] rfl (b := w3.heap.size + 1) (by simp) hq hqo (by omega) (by omega) rfl
  have ka := (cq 1).trans rfl
  have kb := (cq 2).trans rfl
  have kc := (cq 4).trans rfl
  have hb5 : Below w.heap.size w w4 := (bl_al hbr (.cells #[.float .f64 x, .float .f64 y, .float .f64 z, .float .f64 m, .int .u8 2] 107)).trans (hb4.mono (by omega))
  clear cq
  go_wp2_with (first | (at_builtin; refine list_append _ _ _ rfl rfl rfl rfl hr1 ?_))
  generalize hW : World.setCell w4 ⟨w1.heap.size, 2, none⟩ (.slice D1 _ d1) = W1
  obtain ⟨hst1, hq1, hqo1, hb', cq1, c1', f1', hl'⟩ := HW W1 hW.symm
  have hbox1 := blk_below (blk_al hbox _) hb' (by omega)
  have hres1 := blk_below (blk_al hres _) hb' (by omega)
  have hbr1 := (bl_al hbr _).trans (hb'.mono (by omega))
  clear HW hW c1 f1 ka kb kc hb4 hb' hl4 hst hq hqo hbox hres hbr hb5 c0 f0
  have kc := (cq1 4).trans rfl
  go_wp2_with fail; refine (H3.out _).mono ?_; rintro e w' ⟨rfl, rfl⟩
  go_wp2_with fail; refine (HM.out _).mono ?_; rintro e w' ⟨rfl, rfl⟩
  clear kc
  have cz := (cq1 3).trans rfl
  obtain ⟨D2, d2, v2, hr2, hB, hk, hb4, hl4, hown⟩ := hst1.app' (m := 1) [m] rfl (b := W1.heap.size) rfl (by omega) rfl
  have g0 := (blk_cell hB 0).trans (rfl : _ = some (Value.int .i64 1))
  have g1 := (blk_cell hB 1).trans (rfl : _ = some (Value.int .i64 2))
  have g2 := (blk_cell hB 2).trans (rfl : _ = some (Value.slice D1 _ d1))
  have g3 := (blk_cell hB 3).trans (rfl : _ = some (Value.slice none 0 0))
  have fB := blk_frozen hB 2
  have hresv := hk _ _ _ hres1 (by omega)
  have r0 := (blk_cell hresv 0).trans (rfl : _ = some (Value.int .i64 0))
  have q0 := blk_frozen hresv 0
  have r1 := (blk_cell hresv 1).trans (rfl : _ = some (Value.int .i64 0))
  have q1 := blk_frozen hresv 1
  have r2 := (blk_cell hresv 2).trans (rfl : _ = some (Value.slice none 0 0))
  have q2 := blk_frozen hresv 2
  have r3 := (blk_cell hresv 3).trans (rfl : _ = some (Value.slice none 0 0))
  have q3 := blk_frozen hresv 3
  have hbv := hbr1.trans (hb4.mono (by omega))
  have e1 : ¬ w1.heap.size = w.heap.size + 1 := by omega
  have e2 : ¬ w.heap.size + 1 = w1.heap.size := by omega
  have hgv : w1.heap.size < v2.heap.size := blk_lt hB
  have hrv : w.heap.size + 1 < v2.heap.size := blk_lt hresv
  clear hB hresv hk hres1 hbox1 hst1 hq1 hqo1 hb4 hbr1
  go_wp2_with (first | (at_builtin; refine list_append _ _ _ rfl rfl rfl rfl hr2 ?_))
  have ho := own_base hown (b := w.heap.size) (by omega)
  have hnf : (Value.slice D2 (0 + 2 + 1) d2).ownBlock ≠ some w1.heap.size := fun e => by have := (own_lt hown e).1; omega
  have hne : (Value.slice D2 (0 + 2 + 1) d2).ownBlock ≠ some (w.heap.size + 1) := fun e => by have := (own_lt hown e).1; omega
  refine bodyPost_ret (v := .agg (gcells 1 2 D2 3 d2)) (by simp [results, Try.results63, gcells, go_sem, *]) rfl ⟨D2, d2, rfl, ?_, ?_⟩
  · exact own_far (own_far (own_far (own_far (own_far ho hnf _) hne _) hne _) hne _) hne _
  · repeat' (first | (with_reducible exact bl_refl _) | (with_reducible assumption) | (with_reducible apply bl_al) | (with_reducible apply bl_dr) | (with_reducible refine bl_st ?_ ?_ _) | (with_reducible refine bl_tr ?_ (by with_reducible assumption)) | (first | (with_reducible exact Nat.le_refl _) | (with_reducible assumption) | omega | (simp; omega) | (simp; done)))
set_option maxRecDepth 100000 in
set_option maxHeartbeats 1000000 in
theorem plainPt3 (x y z m : Nat) (w : World) :
    Calls Try.prog 63 #[.agg #[.float .f64 x, .float .f64 y, .float .f64 z, .float .f64 m, .int .u8 3, .bool true]] w fun e w' => ∃ D c, e = .returned (.agg (gcells 1 3 D (pn 3 x y z m).length c)) ∧ w'.ownsRow w.heap.size 33 1 (.slice D (pn 3 x y z m).length c) (pn 3 x y z m).length (fls (pn 3 x y z m)) ∧ Below w.heap.size w w' := by
  have HT := Lib.hid fun W => ptCtype x y z m 3 true W
  have HC := Lib.hid fun W => ptCoords x y z m 3 true W
  have H3 : Hid (∀ W, Calls Try.prog 108 #[.int .u8 3] W fun e w' => e = .returned (.bool true) ∧ W = w') := Lib.hid fun W => is3D_any 3 (by decide) W
  have HM : Hid (∀ W, Calls Try.prog 109 #[.int .u8 3] W fun e w' => e = .returned (.bool true) ∧ W = w') := Lib.hid fun W => isM_any 3 (by decide) W
  go_enter Try.func63, Try.ntmps63
  go_wp2_with fail; refine (HT.out _).mono ?_; rintro e w1 ⟨rfl, hb1⟩
  have hbox := blk_tr (blk_al (blk_new w 109 #[.float .f64 x, .float .f64 y, .float .f64 z, .float .f64 m, .int .u8 3, .bool true]) (.cells #[.int .i64 0, .int .i64 0, .slice none 0 0, .slice none 0 0] 25)) hb1
  have hres := blk_tr (blk_new (w.alloc (.cells #[.float .f64 x, .float .f64 y, .float .f64 z, .float .f64 m, .int .u8 3, .bool true] 109)) 25 #[.int .i64 0, .int .i64 0, .slice none 0 0, .slice none 0 0]) hb1
  have hbr : Below w.heap.size w w1 := bl_tr (bl_al (bl_al (bl_refl _) _) _) hb1
  have hz := hb1.size
  simp at hz hres
  have hbx := fun i => blk_cell (blk_al hbox (.cells #[.int .i64 1, .int .i64 3, .slice none 0 0, .slice none 0 0] 25)) i
  go_wp2_with fail; refine (HC.out _).mono ?_; rintro e w3 ⟨rfl, hb2⟩
  have hst : St w3 (w1.heap.size + 1) w1.heap.size 1 3 none 0 0 [] := St.tr ⟨own_nil (w1.alloc (.cells (gcells 1 3 none 0 0) 25)) _ _ _, blk_new _ _ _, by omega, by simp⟩ hb2
  replace hbox := blk_tr (blk_al hbox _) hb2
  replace hres := blk_tr (blk_al hres _) hb2
  replace hbr := bl_tr (bl_al hbr _) hb2
  clear hbx hb2 hb1
  have hg1 : w1.heap.size < w3.heap.size := by have := hst.le; omega
  have hg2 : ¬ w1.heap.size = w3.heap.size := by omega
  have c0 := (blk_cell hst.blk 2).trans (rfl : _ = some (Value.slice none 0 0))
  have f0 := blk_frozen hst.blk 2
  have hq := blk_new w3 107 #[.float .f64 x, .float .f64 y, .float .f64 z, .float .f64 m, .int .u8 3]
  have hqo : (Value.slice none 0 0).ownBlock ≠ some w3.heap.size := fun e => by cases e
  obtain ⟨D1, d1, w4, hr1, c1, f1, cq, hl4, hb4, HW⟩ := (hst.al (.cells #[.float .f64 x, .float .f64 y, .float .f64 z, .float .f64 m, .int .u8 3] 107)).app (m := 2) [x, y] rfl (b := w3.heap.size + 1) (by simp) hq hqo (by omega) (by omega) rfl
  have ka := (cq 1).trans rfl
  have kb := (cq 2).trans rfl
  have kc := (cq 4).trans rfl
  have hb5 : Below w.heap.size w w4 := (bl_al hbr (.cells #[.float .f64 x, .float .f64 y, .float .f64 z, .float .f64 m, .int .u8 3] 107)).trans (hb4.mono (by omega))
  clear cq
  go_wp2_with (first | (at_builtin; refine list_append _ _ _ rfl rfl rfl rfl hr1 ?_))
  generalize hW : World.setCell w4 ⟨w1.heap.size, 2, none⟩ (.slice D1 _ d1) = W1
  obtain ⟨hst1, hq1, hqo1, hb', cq1, c1', f1', hl'⟩ := HW W1 hW.symm
  have hbox1 := blk_below (blk_al hbox _) hb' (by omega)
  have hres1 := blk_below (blk_al hres _) hb' (by omega)
  have hbr1 := (bl_al hbr _).trans (hb'.mono (by omega))
  clear HW hW c1 f1 ka kb kc hb4 hb' hl4 hst hq hqo hbox hres hbr hb5 c0 f0
  have kc := (cq1 4).trans rfl
  go_wp2_with fail; refine (H3.out _).mono ?_; rintro e w' ⟨rfl, rfl⟩
  clear kc
  have cz := (cq1 2).trans rfl
  obtain ⟨D2, d2, v2, hr2, c1, f1, cq', hl4, hb4, HW⟩ := hst1.app (m := 1) [z] rfl (b := W1.heap.size) rfl hq1 hqo1 (by omega) (by omega) rfl
  have ka := (cq' 1).trans rfl
  have kb := (cq' 2).trans rfl
  have kc := (cq' 4).trans rfl
  clear cq'
  go_wp2_with (first | (at_builtin; refine list_append _ _ _ rfl rfl rfl rfl hr2 ?_))
  clear cz
  generalize hW : World.setCell v2 ⟨w1.heap.size, 2, none⟩ (.slice D2 _ d2) = W2
  obtain ⟨hst2, hq2, hqo2, hb', cq2, c2', f2', hl'⟩ := HW W2 hW.symm
  have hbox2 := blk_below hbox1 hb' (by omega)
  have hres2 := blk_below hres1 hb' (by omega)
  have hbr2 := hbr1.trans (hb'.mono (by omega))
  clear HW hW c1 f1 ka kb kc hb4 hb' hl4 hst1 hq1 hqo1 hbox1 hres1 hbr1 cq1 c1' f1'
  have kc := (cq2 4).trans rfl
  go_wp2_with fail; refine (HM.out _).mono ?_; rintro e w' ⟨rfl, rfl⟩
  clear kc
  have cz := (cq2 3).trans rfl
  obtain ⟨D3, d3, v3, hr3, hB, hk, hb4, hl4, hown⟩ := hst2.app' (m := 1) [m] rfl (b := W2.heap.size) rfl (by omega) rfl
  have g0 := (blk_cell hB 0).trans (rfl : _ = some (Value.int .i64 1))
  have g1 := (blk_cell hB 1).trans (rfl : _ = some (Value.int .i64 3))
  have g2 := (blk_cell hB 2).trans (rfl : _ = some (Value.slice D2 _ d2))
  have g3 := (blk_cell hB 3).trans (rfl : _ = some (Value.slice none 0 0))
  have fB := blk_frozen hB 2
  have hresv := hk _ _ _ hres2 (by omega)
  have r0 := (blk_cell hresv 0).trans (rfl : _ = some (Value.int .i64 0))
  have q0 := blk_frozen hresv 0
  have r1 := (blk_cell hresv 1).trans (rfl : _ = some (Value.int .i64 0))
  have q1 := blk_frozen hresv 1
  have r2 := (blk_cell hresv 2).trans (rfl : _ = some (Value.slice none 0 0))
  have q2 := blk_frozen hresv 2
  have r3 := (blk_cell hresv 3).trans (rfl : _ = some (Value.slice none 0 0))
  have q3 := blk_frozen hresv 3
  have hbv := hbr2.trans (hb4.mono (by omega))
  have e1 : ¬ w1.heap.size = w.heap.size + 1 := by omega
  have e2 : ¬ w.heap.size + 1 = w1.heap.size := by omega
  have hgv : w1.heap.size < v3.heap.size := blk_lt hB
  have hrv : w.heap.size + 1 < v3.heap.size := blk_lt hresv
  clear hB hresv hk hres2 hbox2 hst2 hq2 hqo2 hb4 hbr2
  go_wp2_with (first | (at_builtin; refine list_append _ _ _ rfl rfl rfl rfl hr3 ?_))
  have ho := own_base hown (b := w.heap.size) (by omega)
  have hnf : (Value.slice D3 (0 + 2 + 1 + 1) d3).ownBlock ≠ some w1.heap.size := fun e => by have := (own_lt hown e).1; omega
  have hne : (Value.slice D3 (0 + 2 + 1 + 1) d3).ownBlock ≠ some (w.heap.size + 1) := fun e => by have := (own_lt hown e).1; omega
  refine bodyPost_ret (v := .agg (gcells 1 3 D3 4 d3)) (by simp [results, Try.results63, gcells, go_sem, *]) rfl ⟨D3, d3, rfl, ?_, ?_⟩
  · exact own_far (own_far (own_far (own_far (own_far ho hnf _) hne _) hne _) hne _) hne _
  · repeat' (first | (with_reducible exact bl_refl _) | (with_reducible assumption) | (with_reducible apply bl_al) | (with_reducible apply bl_dr) | (with_reducible refine bl_st ?_ ?_ _) | (with_reducible refine bl_tr ?_ (by with_reducible assumption)) | (first | (with_reducible exact Nat.le_refl _) | (with_reducible assumption) | omega | (simp; omega) | (simp; done)))
theorem plainPt_any (k : Nat) (hk : k < 4) (x y z m : Nat) (w : World) :
    Calls Try.prog 63 #[.agg #[.float .f64 x, .float .f64 y, .float .f64 z, .float .f64 m, .int .u8 k, .bool true]] w fun e w' => ∃ D c, e = .returned (.agg (gcells 1 k D (pn k x y z m).length c)) ∧ w'.ownsRow w.heap.size 33 1 (.slice D (pn k x y z m).length c) (pn k x y z m).length (fls (pn k x y z m)) ∧ Below w.heap.size w w' := by
  match k, hk with
  | 0, _ => exact plainPt0 x y z m w
  | 1, _ => exact plainPt1 x y z m w
  | 2, _ => exact plainPt2 x y z m w
  | 3, _ => exact plainPt3 x y z m w
end Go.Proofs.Ytbigadbnijpcjaa
