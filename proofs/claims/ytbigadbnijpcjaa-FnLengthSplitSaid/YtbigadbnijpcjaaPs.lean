/-
  Contract: impl.plainSequence: the numbers of a sequence, in a list of the call's own.
-/
import Derived.Test.YtbigadbnijpcjaaSq
namespace Go.Proofs.Ytbigadbnijpcjaa
open Go.RowKit
def fls (l : List Nat) : List Value := l.map (fun x => .float .f64 x)
theorem fls_one (l : List Nat) : ∀ u ∈ fls l, u.oneCell' = true := by
  intro u h
  simp only [fls, List.mem_map] at h
  obtain ⟨b, _, rfl⟩ := h
  rfl
theorem fls_len (l : List Nat) : (fls l).length = l.length := by simp [fls]
theorem elem_f64 : ElemOk Try.prog 22 33 1 8 := elemOk (z := .float .f64 0) Try.underlying22 (by omega) (by kernel_rfl) rfl
/-- A geometry's cells while its numbers are gathered. -/
def gcells (kd k : Int) (D : Option Addr) (n d : Nat) : Array Value := #[.int .i64 kd, .int .i64 k, .slice D n d, .slice none 0 0]
/-- What stands while numbers are gathered: those so far are the call's own, and the geometry (block g) has them. -/
structure St (w : World) (B : Nat) (g : Nat) (kd k : Int) (D : Option Addr) (n d : Nat) (xs : List Nat) : Prop where
  own : w.ownsRow B 33 1 (.slice D n d) n (fls xs)
  blk : Blk w g 25 (gcells kd k D n d)
  lt : g < B
  le : B ≤ w.heap.size
theorem St.ne {w : World} {B g : Nat} {kd k : Int} {D : Option Addr} {n d : Nat} {xs : List Nat} (h : St w B g kd k D n d xs) : (Value.slice D n d).ownBlock ≠ some g := fun e => by
  have := (own_lt h.own e).1; have := h.lt; omega
theorem St.tr {w w1 : World} {B g : Nat} {kd k : Int} {D : Option Addr} {n d : Nat} {xs : List Nat} (h : St w B g kd k D n d xs) (hb : Below w.heap.size w w1) : St w1 B g kd k D n d xs :=
  ⟨own_tr h.own hb, blk_tr h.blk hb, h.lt, Nat.le_trans h.le hb.size⟩
theorem St.al {w : World} {B g : Nat} {kd k : Int} {D : Option Addr} {n d : Nat} {xs : List Nat} (h : St w B g kd k D n d xs) (o : Obj) : St (w.alloc o) B g kd k D n d xs := h.tr (bl_al (bl_refl _) _)
theorem St.len {w : World} {B g : Nat} {kd k : Int} {D : Option Addr} {n d : Nat} {xs : List Nat} (h : St w B g kd k D n d xs) : n = xs.length := by
  have := h.own.1; rw [fls_len] at this; omega
/-- Numbers of a fresh block are laid behind those so far, and the geometry's list is written. q: a block that the round has made. -/
theorem St.app {w : World} {B g : Nat} {kd k : Int} {D : Option Addr} {n d m : Nat} {xs : List Nat} (h : St w B g kd k D n d xs) (ys : List Nat) (hm : ys.length = m) {b q tq : Nat} {cq : Array Value} (hb : b = w.heap.size)
    (hq : Blk w q tq cq) (hqo : (Value.slice D n d).ownBlock ≠ some q) (hqg : q ≠ g) (hn : n + m ≤ 2147483647) {arr : Array Value} (harr : arr = (fls ys).toArray) :
    ∃ D' d' w', (Builtin.append_ #[22, 22] 22 #[.slice D n d, .slice (some ⟨b, 0, none⟩) m m]).run Try.prog (w.alloc (.cells arr 33)) = .ok (.slice D' (n + m) d') w' ∧
      w'.cell? ⟨g, 2, none⟩ = some (.slice D n d) ∧ w'.frozen? ⟨g, 2, none⟩ = false ∧ (∀ i, w'.cell? ⟨q, i, none⟩ = cq[i]?) ∧ w.heap.size < w'.heap.size ∧ Below B w w' ∧
      ∀ W, W = w'.setCell ⟨g, 2, none⟩ (.slice D' (n + m) d') → St W B g kd k D' (n + m) d' (xs ++ ys) ∧ Blk W q tq cq ∧ (Value.slice D' (n + m) d').ownBlock ≠ some q ∧ Below g w W ∧ (∀ i, W.cell? ⟨q, i, none⟩ = cq[i]?) ∧
        W.cell? ⟨g, 2, none⟩ = some (.slice D' (n + m) d') ∧ W.frozen? ⟨g, 2, none⟩ = false ∧ q < W.heap.size := by
  subst harr
  obtain ⟨D', d', w', hr, hown, hbw, hk, hob, hlt⟩ := app_new (P := Try.prog) (t := 22) (ty := 22) elem_f64 (fls ys).toArray h.own (m := m) (g := b) (by simp [fls_len, hm]) (by simpa using fls_one ys) hb h.le (by unfold maxLen; omega) (by omega)
  have hB := hk g _ _ h.blk h.ne
  have hQ := hk q _ _ hq hqo
  have hsz := hbw.size
  have hne' : (Value.slice D' (n + m) d').ownBlock ≠ some g := fun e => by have := (own_lt hown e).1; have := h.lt; omega
  refine ⟨D', d', w', hr, (blk_cell hB 2).trans rfl, blk_frozen hB 2, fun i => blk_cell hQ i, hlt, hbw, ?_⟩
  rintro W rfl
  have hQ' := blk_far hQ (p := ⟨g, 2, none⟩) hqg (.slice D' (n + m) d')
  have hB' := blk_set hB 2 (.slice D' (n + m) d')
  refine ⟨⟨?_, hB', h.lt, by simp; exact Nat.le_trans h.le hsz⟩, hQ', ?_, ?_, fun i => blk_cell hQ' i, (blk_cell hB' 2).trans rfl, blk_frozen hB' 2, blk_lt hQ'⟩
  · have := own_far hown (p := ⟨g, 2, none⟩) hne' (.slice D' (n + m) d')
    simpa [fls] using this
  · intro e
    rcases hob with e1 | e1
    · rw [e1] at e; exact hqo e
    · rw [e1] at e
      have := blk_lt hq
      injection e with e; omega
  · exact (hbw.mono (Nat.le_of_lt h.lt)).setCell (Nat.le_refl _) _

theorem blk_below {w W : World} {b n : Nat} {t : TypeId} {cs : Array Value} (h : Blk w b t cs) (hb : Below n w W) (hlt : b < n) : Blk W b t cs := (hb.block b hlt).trans h
theorem cond_take {X : List Nat} {m d j : Nat} (hX : X.length = m * d) (hj : j < m) : j * d + d ≤ X.length := by
  rw [hX]
  calc j * d + d = (j + 1) * d := by rw [Nat.add_mul, Nat.one_mul]
    _ ≤ m * d := Nat.mul_le_mul_right d hj
theorem take_more {X : List Nat} {a : Nat} (ys : List Nat) (h : ∀ (i y : Nat), ys[i]? = some y → X[a + i]? = some y) : X.take (a + ys.length) = X.take a ++ ys := by
  induction ys generalizing a with
  | nil => simp
  | cons y r ih =>
    have h0 := h 0 y rfl
    have h1 : ∀ (i z : Nat), r[i]? = some z → X[a + 1 + i]? = some z := fun i z hz => by have := h (i + 1) z (by simpa using hz); rwa [Nat.add_assoc, Nat.add_comm 1 i]
    have := ih h1
    rw [List.length_cons, Nat.add_comm r.length 1, ← Nat.add_assoc, this, List.take_add_one, show X[a]? = some y from h0]
    simp

set_option maxRecDepth 100000 in
set_option maxHeartbeats 1000000 in
theorem plainSeq0 (A : Option Addr) (X : List Nat) (N cap m : Nat) (w : World) (hN : X.length = N) (hX : N = m * 2) (hr : rd1 (.float .f64) w A X) (hL : N ≤ 100000000) :
    Calls Try.prog 83 #[.agg #[.int .u8 0, .slice A N cap]] w fun e w' => ∃ D c, e = .returned (.agg (gcells 2 0 D N c)) ∧ w'.ownsRow w.heap.size 33 1 (.slice D N c) N (fls X) ∧ Below w.heap.size w w' := by
  have H3 : Hid (∀ W, Calls Try.prog 108 #[.int .u8 0] W fun e w' => e = .returned (.bool false) ∧ W = w') := Lib.hid fun W => is3D_any 0 (by decide) W
  have HM : Hid (∀ W, Calls Try.prog 109 #[.int .u8 0] W fun e w' => e = .returned (.bool false) ∧ W = w') := Lib.hid fun W => isM_any 0 (by decide) W
  have HL : Hid (∀ W, Calls Try.prog 117 #[.agg #[.int .u8 0, .slice A N cap]] W fun e w' => e = .returned (.int .i64 m) ∧ Below W.heap.size W w') := Lib.hid fun W => length_any 0 (by decide) A N cap m hX (by unfold maxLen; omega) W
  have HC : Hid (∀ W, Calls Try.prog 132 #[.agg #[.int .u8 0, .slice A N cap]] W fun e w' => e = .returned (.int .u8 0) ∧ Below W.heap.size W w') := Lib.hid fun W => ctype_any 0 A N cap W
  have hm : m ≤ N := by omega
  have HX := Lib.hid hX
  have HN := Lib.hid hN
  clear hX hN
  go_enter Try.func83, Try.ntmps83
  go_wp2_with fail; refine (HC.out _).mono ?_; rintro e w1 ⟨rfl, hb1⟩
  have hbox := blk_tr (blk_al (blk_new w 111 #[.int .u8 0, .slice A N cap]) (.cells #[.int .i64 0, .int .i64 0, .slice none 0 0, .slice none 0 0] 25)) hb1
  have hres := blk_tr (blk_new (w.alloc (.cells #[.int .u8 0, .slice A N cap] 111)) 25 #[.int .i64 0, .int .i64 0, .slice none 0 0, .slice none 0 0]) hb1
  have hbw : Below w.heap.size w w1 := bl_tr (bl_al (bl_al (bl_refl _) _) _) hb1
  have hz := hb1.size
  simp at hz hres
  go_wp2
  have hst0 : St (w1.alloc (.cells (gcells 2 0 none 0 0) 25)) (w1.heap.size + 1) w1.heap.size 2 0 none 0 0 [] := ⟨own_nil _ _ _ _, blk_new _ _ _, by omega, by simp⟩
  have hbox0 := blk_al hbox (.cells (gcells 2 0 none 0 0) 25)
  have hres0 := blk_al hres (.cells (gcells 2 0 none 0 0) 25)
  clear hbox hres
  go_loopw [4] (fun i wr => ∃ (j : Nat) (D : Option Addr) (d : Nat), j ≤ m ∧ i = .int .i64 j ∧ St wr (w1.heap.size + 1) w1.heap.size 2 0 D (j * 2) d (X.take (j * 2)) ∧ Blk wr w.heap.size 111 #[.int .u8 0, .slice A N cap] ∧ Blk wr (w.heap.size + 1) 25 #[.int .i64 0, .int .i64 0, .slice none 0 0, .slice none 0 0] ∧ Below w.heap.size w wr) (fun i _ => m - (intOf i).toNat)
  case atStart => exact ⟨0, none, 0, Nat.zero_le _, rfl, by simpa [gcells] using hst0, by simpa [gcells] using hbox0, by simpa [gcells] using hres0, bl_al hbw _⟩
  case round =>
    obtain ⟨j, D, d, hj, rfl, hst, hbox, hres, hbr⟩ := hrel
    clear hst0 hbox0 hres0 hbw
    have b0 := (blk_cell hbox 0).trans rfl
    have b1 := (blk_cell hbox 1).trans rfl
    go_wp2_with fail; refine (HL.out _).mono ?_; rintro e w2 ⟨rfl, hb2⟩
    replace hst := hst.tr hb2
    replace hbox := blk_tr hbox hb2
    replace hres := blk_tr hres hb2
    replace hbr := bl_tr hbr hb2
    clear b0 b1 hb2
    have b0 := (blk_cell hbox 0).trans rfl
    have b1 := (blk_cell hbox 1).trans rfl
    by_cases hlt : j < m
    · have hlen := cond_take (HN.out.trans HX.out) hlt
      obtain ⟨x0, e0⟩ : ∃ x, X[j * 2 + 0]? = some x := ⟨_, List.getElem?_eq_getElem (by omega)⟩
      obtain ⟨x1, e1⟩ : ∃ x, X[j * 2 + 1]? = some x := ⟨_, List.getElem?_eq_getElem (by omega)⟩
      obtain ⟨b, off, rfl, hblt, hc⟩ := rd1_tr hr hbr (by omega)
      have HG := Lib.hid (get0_any b off cap N j x0 x1 w2 (by have := HN.out; omega) (by unfold maxLen; omega) hblt (hc _ _ e0) (hc _ _ e1))
      clear hc hr
      have HE : Hid (∀ (i y : Nat), [x0, x1][i]? = some y → X[j * 2 + i]? = some y) := by
        intro i y hy
        match i, hy with
        | 0, hy => cases hy; exact e0
        | 1, hy => cases hy; exact e1
      have HT := Lib.hid (take_more _ HE.out)
      have h8 : j * 2 + 2 ≤ 100000000 := by have := HN.out; omega
      clear HE e0 e1 hlen
      go_wp2_with fail
      refine HG.out.mono ?_
      rintro e w3 ⟨rfl, hb3⟩
      replace hst := hst.tr hb3
      replace hbox := blk_tr hbox hb3
      replace hres := blk_tr hres hb3
      replace hbr := bl_tr hbr hb3
      have hg1 : w1.heap.size < w3.heap.size := by have := hst.le; omega
      have hg2 : ¬ w1.heap.size = w3.heap.size := by omega
      have c0 := (blk_cell hst.blk 2).trans (rfl : _ = some (Value.slice D (j * 2) d))
      have f0 := blk_frozen hst.blk 2
      have hq := blk_new w3 107 #[.float .f64 x0, .float .f64 x1, .float .f64 0, .float .f64 0, .int .u8 0]
      have hqo : (Value.slice D (j * 2) d).ownBlock ≠ some w3.heap.size := fun e => by have := (own_lt hst.own e).2; omega
      obtain ⟨D1, d1, w4, hr1, c1, f1, cq, hl4, hb4, HW⟩ := (hst.al (.cells #[.float .f64 x0, .float .f64 x1, .float .f64 0, .float .f64 0, .int .u8 0] 107)).app (m := 2) [x0, x1] rfl (b := w3.heap.size + 1) (by simp) hq hqo (by omega) (by omega) rfl
      have ka := (cq 1).trans rfl
      have kb := (cq 2).trans rfl
      have kc := (cq 4).trans rfl
      have hb5 : Below w.heap.size w w4 := (bl_al hbr (.cells #[.float .f64 x0, .float .f64 x1, .float .f64 0, .float .f64 0, .int .u8 0] 107)).trans (hb4.mono (by omega))
      clear cq b0 b1 HG hb3 hblt
      go_wp2_with (first | (at_builtin; refine list_append _ _ _ rfl rfl rfl rfl hr1 ?_))
      generalize hW : World.setCell w4 ⟨w1.heap.size, 2, none⟩ (.slice D1 (j * 2 + 2) d1) = W1
      obtain ⟨hst1, hq1, hqo1, hb', cq1, c1', f1', hl'⟩ := HW W1 hW.symm
      have hbox1 := blk_below (blk_al hbox _) hb' (by omega)
      have hres1 := blk_below (blk_al hres _) hb' (by omega)
      have hbr1 := (bl_al hbr _).trans (hb'.mono (by omega))
      clear HW hW c1 f1 ka kb kc hb4 hb' hl4 hst hq hqo hbox hres hbr hb5 c0 f0
      have kc := (cq1 4).trans rfl
      go_wp2_with fail; refine (H3.out _).mono ?_; rintro e w' ⟨rfl, rfl⟩
      go_wp2_with fail; refine (HM.out _).mono ?_; rintro e w' ⟨rfl, rfl⟩
      clear kc
      go_wp2
      go_roundw
      case rel =>
        have e1 : (j + 1) * 2 = j * 2 + 2 := by omega
        have e2 : X.take (j * 2 + 2) = X.take (j * 2) ++ [x0, x1] := by
          rw [show j * 2 + 2 = j * 2 + [x0, x1].length by simp, HT.out]
        refine ⟨j + 1, D1, d1, by omega, by go_num, ?_, hbox1, hres1, hbr1⟩
        rw [e1, e2]
        exact hst1
      case measure => simp [intOf]; omega
    · obtain rfl : j = m := by omega
      have g0 := (blk_cell hst.blk 0).trans (rfl : _ = some (Value.int .i64 2))
      have g1 := (blk_cell hst.blk 1).trans (rfl : _ = some (Value.int .i64 0))
      have g2 := (blk_cell hst.blk 2).trans (rfl : _ = some (Value.slice D (j * 2) d))
      have g3 := (blk_cell hst.blk 3).trans (rfl : _ = some (Value.slice none 0 0))
      have r0 := (blk_cell hres 0).trans rfl
      have f0 := blk_frozen hres 0
      have r1 := (blk_cell hres 1).trans rfl
      have f1 := blk_frozen hres 1
      have r2 := (blk_cell hres 2).trans rfl
      have f2 := blk_frozen hres 2
      have r3 := (blk_cell hres 3).trans rfl
      have f3 := blk_frozen hres 3
      go_wp2
      have et : X.take (j * 2) = X := List.take_of_length_le (by rw [HN.out, HX.out]; exact Nat.le_refl _)
      have ho := own_base hst.own (b := w.heap.size) (by omega)
      rw [et] at ho
      have hne : (Value.slice D (j * 2) d).ownBlock ≠ some (w.heap.size + 1) := fun e => by have := (own_lt hst.own e).1; omega
      refine bodyPost_ret (v := .agg (gcells 2 0 D (j * 2) d)) (by simp [results, Try.results83, gcells, go_sem, *]) rfl ⟨D, d, by rw [HX.out], ?_, ?_⟩
      · rw [HX.out]
        exact own_far (own_far (own_far (own_far ho hne _) hne _) hne _) hne _
      · repeat' (first | (with_reducible exact bl_refl _) | (with_reducible assumption) | (with_reducible apply bl_al) | (with_reducible apply bl_dr) | (with_reducible refine bl_st ?_ ?_ _) | (with_reducible refine bl_tr ?_ (by with_reducible assumption)) | (first | (with_reducible exact Nat.le_refl _) | (with_reducible assumption) | omega | (simp; omega) | (simp; done)))
set_option maxRecDepth 100000 in
set_option maxHeartbeats 1000000 in
theorem plainSeq1 (A : Option Addr) (X : List Nat) (N cap m : Nat) (w : World) (hN : X.length = N) (hX : N = m * 3) (hr : rd1 (.float .f64) w A X) (hL : N ≤ 100000000) :
    Calls Try.prog 83 #[.agg #[.int .u8 1, .slice A N cap]] w fun e w' => ∃ D c, e = .returned (.agg (gcells 2 1 D N c)) ∧ w'.ownsRow w.heap.size 33 1 (.slice D N c) N (fls X) ∧ Below w.heap.size w w' := by
  have H3 : Hid (∀ W, Calls Try.prog 108 #[.int .u8 1] W fun e w' => e = .returned (.bool true) ∧ W = w') := Lib.hid fun W => is3D_any 1 (by decide) W
  have HM : Hid (∀ W, Calls Try.prog 109 #[.int .u8 1] W fun e w' => e = .returned (.bool false) ∧ W = w') := Lib.hid fun W => isM_any 1 (by decide) W
  have HL : Hid (∀ W, Calls Try.prog 117 #[.agg #[.int .u8 1, .slice A N cap]] W fun e w' => e = .returned (.int .i64 m) ∧ Below W.heap.size W w') := Lib.hid fun W => length_any 1 (by decide) A N cap m hX (by unfold maxLen; omega) W
  have HC : Hid (∀ W, Calls Try.prog 132 #[.agg #[.int .u8 1, .slice A N cap]] W fun e w' => e = .returned (.int .u8 1) ∧ Below W.heap.size W w') := Lib.hid fun W => ctype_any 1 A N cap W
  have hm : m ≤ N := by omega
  have HX := Lib.hid hX
  have HN := Lib.hid hN
  clear hX hN
  go_enter Try.func83, Try.ntmps83
  go_wp2_with fail; refine (HC.out _).mono ?_; rintro e w1 ⟨rfl, hb1⟩
  have hbox := blk_tr (blk_al (blk_new w 111 #[.int .u8 1, .slice A N cap]) (.cells #[.int .i64 0, .int .i64 0, .slice none 0 0, .slice none 0 0] 25)) hb1
  have hres := blk_tr (blk_new (w.alloc (.cells #[.int .u8 1, .slice A N cap] 111)) 25 #[.int .i64 0, .int .i64 0, .slice none 0 0, .slice none 0 0]) hb1
  have hbw : Below w.heap.size w w1 := bl_tr (bl_al (bl_al (bl_refl _) _) _) hb1
  have hz := hb1.size
  simp at hz hres
  go_wp2
  have hst0 : St (w1.alloc (.cells (gcells 2 1 none 0 0) 25)) (w1.heap.size + 1) w1.heap.size 2 1 none 0 0 [] := ⟨own_nil _ _ _ _, blk_new _ _ _, by omega, by simp⟩
  have hbox0 := blk_al hbox (.cells (gcells 2 1 none 0 0) 25)
  have hres0 := blk_al hres (.cells (gcells 2 1 none 0 0) 25)
  clear hbox hres
  go_loopw [4] (fun i wr => ∃ (j : Nat) (D : Option Addr) (d : Nat), j ≤ m ∧ i = .int .i64 j ∧ St wr (w1.heap.size + 1) w1.heap.size 2 1 D (j * 3) d (X.take (j * 3)) ∧ Blk wr w.heap.size 111 #[.int .u8 1, .slice A N cap] ∧ Blk wr (w.heap.size + 1) 25 #[.int .i64 0, .int .i64 0, .slice none 0 0, .slice none 0 0] ∧ Below w.heap.size w wr) (fun i _ => m - (intOf i).toNat)
  case atStart => exact ⟨0, none, 0, Nat.zero_le _, rfl, by simpa [gcells] using hst0, by simpa [gcells] using hbox0, by simpa [gcells] using hres0, bl_al hbw _⟩
  case round =>
    obtain ⟨j, D, d, hj, rfl, hst, hbox, hres, hbr⟩ := hrel
    clear hst0 hbox0 hres0 hbw
    have b0 := (blk_cell hbox 0).trans rfl
    have b1 := (blk_cell hbox 1).trans rfl
    go_wp2_with fail; refine (HL.out _).mono ?_; rintro e w2 ⟨rfl, hb2⟩
    replace hst := hst.tr hb2
    replace hbox := blk_tr hbox hb2
    replace hres := blk_tr hres hb2
    replace hbr := bl_tr hbr hb2
    clear b0 b1 hb2
    have b0 := (blk_cell hbox 0).trans rfl
    have b1 := (blk_cell hbox 1).trans rfl
    by_cases hlt : j < m
    · have hlen := cond_take (HN.out.trans HX.out) hlt
      obtain ⟨x0, e0⟩ : ∃ x, X[j * 3 + 0]? = some x := ⟨_, List.getElem?_eq_getElem (by omega)⟩
      obtain ⟨x1, e1⟩ : ∃ x, X[j * 3 + 1]? = some x := ⟨_, List.getElem?_eq_getElem (by omega)⟩
      obtain ⟨x2, e2⟩ : ∃ x, X[j * 3 + 2]? = some x := ⟨_, List.getElem?_eq_getElem (by omega)⟩
      obtain ⟨b, off, rfl, hblt, hc⟩ := rd1_tr hr hbr (by omega)
      have HG := Lib.hid (get1_any b off cap N j x0 x1 x2 w2 (by have := HN.out; omega) (by unfold maxLen; omega) hblt (hc _ _ e0) (hc _ _ e1) (hc _ _ e2))
      clear hc hr
      have HE : Hid (∀ (i y : Nat), [x0, x1, x2][i]? = some y → X[j * 3 + i]? = some y) := by
        intro i y hy
        match i, hy with
        | 0, hy => cases hy; exact e0
        | 1, hy => cases hy; exact e1
        | 2, hy => cases hy; exact e2
      have HT := Lib.hid (take_more _ HE.out)
      have h8 : j * 3 + 3 ≤ 100000000 := by have := HN.out; omega
      clear HE e0 e1 e2 hlen
      go_wp2_with fail
      refine HG.out.mono ?_
      rintro e w3 ⟨rfl, hb3⟩
      replace hst := hst.tr hb3
      replace hbox := blk_tr hbox hb3
      replace hres := blk_tr hres hb3
      replace hbr := bl_tr hbr hb3
      have hg1 : w1.heap.size < w3.heap.size := by have := hst.le; omega
      have hg2 : ¬ w1.heap.size = w3.heap.size := by omega
      have c0 := (blk_cell hst.blk 2).trans (rfl : _ = some (Value.slice D (j * 3) d))
      have f0 := blk_frozen hst.blk 2
      have hq := blk_new w3 107 #[.float .f64 x0, .float .f64 x1, .float .f64 x2, .float .f64 0, .int .u8 1]
      have hqo : (Value.slice D (j * 3) d).ownBlock ≠ some w3.heap.size := fun e => by have := (own_lt hst.own e).2; omega
      obtain ⟨D1, d1, w4, hr1, c1, f1, cq, hl4, hb4, HW⟩ := (hst.al (.cells #[.float .f64 x0, .float .f64 x1, .float .f64 x2, .float .f64 0, .int .u8 1] 107)).app (m := 2) [x0, x1] rfl (b := w3.heap.size + 1) (by simp) hq hqo (by omega) (by omega) rfl
      have ka := (cq 1).trans rfl
      have kb := (cq 2).trans rfl
      have kc := (cq 4).trans rfl
      have hb5 : Below w.heap.size w w4 := (bl_al hbr (.cells #[.float .f64 x0, .float .f64 x1, .float .f64 x2, .float .f64 0, .int .u8 1] 107)).trans (hb4.mono (by omega))
      clear cq b0 b1 HG hb3 hblt
      go_wp2_with (first | (at_builtin; refine list_append _ _ _ rfl rfl rfl rfl hr1 ?_))
      generalize hW : World.setCell w4 ⟨w1.heap.size, 2, none⟩ (.slice D1 (j * 3 + 2) d1) = W1
      obtain ⟨hst1, hq1, hqo1, hb', cq1, c1', f1', hl'⟩ := HW W1 hW.symm
      have hbox1 := blk_below (blk_al hbox _) hb' (by omega)
      have hres1 := blk_below (blk_al hres _) hb' (by omega)
      have hbr1 := (bl_al hbr _).trans (hb'.mono (by omega))
      clear HW hW c1 f1 ka kb kc hb4 hb' hl4 hst hq hqo hbox hres hbr hb5 c0 f0
      have kc := (cq1 4).trans rfl
      go_wp2_with fail; refine (H3.out _).mono ?_; rintro e w' ⟨rfl, rfl⟩
      clear kc
      have cz := (cq1 2).trans rfl
      obtain ⟨D2, d2, v2, hr2, c1, f1, cq', hl4, hb4, HW⟩ := hst1.app (m := 1) [x2] rfl (b := W1.heap.size) rfl hq1 hqo1 (by omega) (by omega) rfl
      have ka := (cq' 1).trans rfl
      have kb := (cq' 2).trans rfl
      have kc := (cq' 4).trans rfl
      clear cq'
      go_wp2_with (first | (at_builtin; refine list_append _ _ _ rfl rfl rfl rfl hr2 ?_))
      clear cz
      generalize hW : World.setCell v2 ⟨w1.heap.size, 2, none⟩ (.slice D2 (j * 3 + 2 + 1) d2) = W2
      obtain ⟨hst2, hq2, hqo2, hb', cq2, c2', f2', hl'⟩ := HW W2 hW.symm
      have hbox2 := blk_below hbox1 hb' (by omega)
      have hres2 := blk_below hres1 hb' (by omega)
      have hbr2 := hbr1.trans (hb'.mono (by omega))
      clear HW hW c1 f1 ka kb kc hb4 hb' hl4 hst1 hq1 hqo1 hbox1 hres1 hbr1 cq1 c1' f1'
      have kc := (cq2 4).trans rfl
      go_wp2_with fail; refine (HM.out _).mono ?_; rintro e w' ⟨rfl, rfl⟩
      clear kc
      go_wp2
      go_roundw
      case rel =>
        have e1 : (j + 1) * 3 = j * 3 + 2 + 1 := by omega
        have e2 : X.take (j * 3 + 2 + 1) = (X.take (j * 3) ++ [x0, x1]) ++ [x2] := by
          rw [show j * 3 + 2 + 1 = j * 3 + [x0, x1, x2].length by simp, HT.out]
          simp
        refine ⟨j + 1, D2, d2, by omega, by go_num, ?_, hbox2, hres2, hbr2⟩
        rw [e1, e2]
        exact hst2
      case measure => simp [intOf]; omega
    · obtain rfl : j = m := by omega
      have g0 := (blk_cell hst.blk 0).trans (rfl : _ = some (Value.int .i64 2))
      have g1 := (blk_cell hst.blk 1).trans (rfl : _ = some (Value.int .i64 1))
      have g2 := (blk_cell hst.blk 2).trans (rfl : _ = some (Value.slice D (j * 3) d))
      have g3 := (blk_cell hst.blk 3).trans (rfl : _ = some (Value.slice none 0 0))
      have r0 := (blk_cell hres 0).trans rfl
      have f0 := blk_frozen hres 0
      have r1 := (blk_cell hres 1).trans rfl
      have f1 := blk_frozen hres 1
      have r2 := (blk_cell hres 2).trans rfl
      have f2 := blk_frozen hres 2
      have r3 := (blk_cell hres 3).trans rfl
      have f3 := blk_frozen hres 3
      go_wp2
      have et : X.take (j * 3) = X := List.take_of_length_le (by rw [HN.out, HX.out]; exact Nat.le_refl _)
      have ho := own_base hst.own (b := w.heap.size) (by omega)
      rw [et] at ho
      have hne : (Value.slice D (j * 3) d).ownBlock ≠ some (w.heap.size + 1) := fun e => by have := (own_lt hst.own e).1; omega
      refine bodyPost_ret (v := .agg (gcells 2 1 D (j * 3) d)) (by simp [results, Try.results83, gcells, go_sem, *]) rfl ⟨D, d, by rw [HX.out], ?_, ?_⟩
      · rw [HX.out]
        exact own_far (own_far (own_far (own_far ho hne _) hne _) hne _) hne _
      · repeat' (first | (with_reducible exact bl_refl _) | (with_reducible assumption) | (with_reducible apply bl_al) | (with_reducible apply bl_dr) | (with_reducible refine bl_st ?_ ?_ _) | (with_reducible refine bl_tr ?_ (by with_reducible assumption)) | (first | (with_reducible exact Nat.le_refl _) | (with_reducible assumption) | omega | (simp; omega) | (simp; done)))
set_option maxRecDepth 100000 in
set_option maxHeartbeats 1000000 in
theorem plainSeq2 (A : Option Addr) (X : List Nat) (N cap m : Nat) (w : World) (hN : X.length = N) (hX : N = m * 3) (hr : rd1 (.float .f64) w A X) (hL : N ≤ 100000000) :
    Calls Try.prog 83 #[.agg #[.int .u8 2, .slice A N cap]] w fun e w' => ∃ D c, e = .returned (.agg (gcells 2 2 D N c)) ∧ w'.ownsRow w.heap.size 33 1 (.slice D N c) N (fls X) ∧ Below w.heap.size w w' := by
  have H3 : Hid (∀ W, Calls Try.prog 108 #[.int .u8 2] W fun e w' => e = .returned (.bool false) ∧ W = w') := Lib.hid fun W => is3D_any 2 (by decide) W
  have HM : Hid (∀ W, Calls Try.prog 109 #[.int .u8 2] W fun e w' => e = .returned (.bool true) ∧ W = w') := Lib.hid fun W => isM_any 2 (by decide) W
  have HL : Hid (∀ W, Calls Try.prog 117 #[.agg #[.int .u8 2, .slice A N cap]] W fun e w' => e = .returned (.int .i64 m) ∧ Below W.heap.size W w') := Lib.hid fun W => length_any 2 (by decide) A N cap m hX (by unfold maxLen; omega) W
  have HC : Hid (∀ W, Calls Try.prog 132 #[.agg #[.int .u8 2, .slice A N cap]] W fun e w' => e = .returned (.int .u8 2) ∧ Below W.heap.size W w') := Lib.hid fun W => ctype_any 2 A N cap W
  have hm : m ≤ N := by omega
  have HX := Lib.hid hX
  have HN := Lib.hid hN
  clear hX hN
  go_enter Try.func83, Try.ntmps83
  go_wp2_with fail; refine (HC.out _).mono ?_; rintro e w1 ⟨rfl, hb1⟩
  have hbox := blk_tr (blk_al (blk_new w 111 #[.int .u8 2, .slice A N cap]) (.cells #[.int .i64 0, .int .i64 0, .slice none 0 0, .slice none 0 0] 25)) hb1
  have hres := blk_tr (blk_new (w.alloc (.cells #[.int .u8 2, .slice A N cap] 111)) 25 #[.int .i64 0, .int .i64 0, .slice none 0 0, .slice none 0 0]) hb1
  have hbw : Below w.heap.size w w1 := bl_tr (bl_al (bl_al (bl_refl _) _) _) hb1
  have hz := hb1.size
  simp at hz hres
  go_wp2
  have hst0 : St (w1.alloc (.cells (gcells 2 2 none 0 0) 25)) (w1.heap.size + 1) w1.heap.size 2 2 none 0 0 [] := ⟨own_nil _ _ _ _, blk_new _ _ _, by omega, by simp⟩
  have hbox0 := blk_al hbox (.cells (gcells 2 2 none 0 0) 25)
  have hres0 := blk_al hres (.cells (gcells 2 2 none 0 0) 25)
  clear hbox hres
  go_loopw [4] (fun i wr => ∃ (j : Nat) (D : Option Addr) (d : Nat), j ≤ m ∧ i = .int .i64 j ∧ St wr (w1.heap.size + 1) w1.heap.size 2 2 D (j * 3) d (X.take (j * 3)) ∧ Blk wr w.heap.size 111 #[.int .u8 2, .slice A N cap] ∧ Blk wr (w.heap.size + 1) 25 #[.int .i64 0, .int .i64 0, .slice none 0 0, .slice none 0 0] ∧ Below w.heap.size w wr) (fun i _ => m - (intOf i).toNat)
  case atStart => exact ⟨0, none, 0, Nat.zero_le _, rfl, by simpa [gcells] using hst0, by simpa [gcells] using hbox0, by simpa [gcells] using hres0, bl_al hbw _⟩
  case round =>
    obtain ⟨j, D, d, hj, rfl, hst, hbox, hres, hbr⟩ := hrel
    clear hst0 hbox0 hres0 hbw
    have b0 := (blk_cell hbox 0).trans rfl
    have b1 := (blk_cell hbox 1).trans rfl
    go_wp2_with fail; refine (HL.out _).mono ?_; rintro e w2 ⟨rfl, hb2⟩
    replace hst := hst.tr hb2
    replace hbox := blk_tr hbox hb2
    replace hres := blk_tr hres hb2
    replace hbr := bl_tr hbr hb2
    clear b0 b1 hb2
    have b0 := (blk_cell hbox 0).trans rfl
    have b1 := (blk_cell hbox 1).trans rfl
    by_cases hlt : j < m
    · have hlen := cond_take (HN.out.trans HX.out) hlt
      obtain ⟨x0, e0⟩ : ∃ x, X[j * 3 + 0]? = some x := ⟨_, List.getElem?_eq_getElem (by omega)⟩
      obtain ⟨x1, e1⟩ : ∃ x, X[j * 3 + 1]? = some x := ⟨_, List.getElem?_eq_getElem (by omega)⟩
      obtain ⟨x2, e2⟩ : ∃ x, X[j * 3 + 2]? = some x := ⟨_, List.getElem?_eq_getElem (by omega)⟩
      obtain ⟨b, off, rfl, hblt, hc⟩ := rd1_tr hr hbr (by omega)
      have HG := Lib.hid (get2_any b off cap N j x0 x1 x2 w2 (by have := HN.out; omega) (by unfold maxLen; omega) hblt (hc _ _ e0) (hc _ _ e1) (hc _ _ e2))
      clear hc hr
      have HE : Hid (∀ (i y : Nat), [x0, x1, x2][i]? = some y → X[j * 3 + i]? = some y) := by
        intro i y hy
        match i, hy with
        | 0, hy => cases hy; exact e0
        | 1, hy => cases hy; exact e1
        | 2, hy => cases hy; exact e2
      have HT := Lib.hid (take_more _ HE.out)
      have h8 : j * 3 + 3 ≤ 100000000 := by have := HN.out; omega
      clear HE e0 e1 e2 hlen
      go_wp2_with fail
      refine HG.out.mono ?_
      rintro e w3 ⟨rfl, hb3⟩
      replace hst := hst.tr hb3
      replace hbox := blk_tr hbox hb3
      replace hres := blk_tr hres hb3
      replace hbr := bl_tr hbr hb3
      have hg1 : w1.heap.size < w3.heap.size := by have := hst.le; omega
      have hg2 : ¬ w1.heap.size = w3.heap.size := by omega
      have c0 := (blk_cell hst.blk 2).trans (rfl : _ = some (Value.slice D (j * 3) d))
      have f0 := blk_frozen hst.blk 2
      have hq := blk_new w3 107 #[.float .f64 x0, .float .f64 x1, .float .f64 0, .float .f64 x2, .int .u8 2]
      have hqo : (Value.slice D (j * 3) d).ownBlock ≠ some w3.heap.size := fun e => by have := (own_lt hst.own e).2; omega
      obtain ⟨D1, d1, w4, hr1, c1, f1, cq, hl4, hb4, HW⟩ := (hst.al (.cells #[.float .f64 x0, .float .f64 x1, .float .f64 0, .float .f64 x2, .int .u8 2] 107)).app (m := 2) [x0, x1] rfl (b := w3.heap.size + 1) (by simp) hq hqo (by omega) (by omega) rfl
      have ka := (cq 1).trans rfl
      have kb := (cq 2).trans rfl
      have kc := (cq 4).trans rfl
      have hb5 : Below w.heap.size w w4 := (bl_al hbr (.cells #[.float .f64 x0, .float .f64 x1, .float .f64 0, .float .f64 x2, .int .u8 2] 107)).trans (hb4.mono (by omega))
      clear cq b0 b1 HG hb3 hblt
      go_wp2_with (first | (at_builtin; refine list_append _ _ _ rfl rfl rfl rfl hr1 ?_))
      generalize hW : World.setCell w4 ⟨w1.heap.size, 2, none⟩ (.slice D1 (j * 3 + 2) d1) = W1
      obtain ⟨hst1, hq1, hqo1, hb', cq1, c1', f1', hl'⟩ := HW W1 hW.symm
      have hbox1 := blk_below (blk_al hbox _) hb' (by omega)
      have hres1 := blk_below (blk_al hres _) hb' (by omega)
      have hbr1 := (bl_al hbr _).trans (hb'.mono (by omega))
      clear HW hW c1 f1 ka kb kc hb4 hb' hl4 hst hq hqo hbox hres hbr hb5 c0 f0
      have kc := (cq1 4).trans rfl
      go_wp2_with fail; refine (H3.out _).mono ?_; rintro e w' ⟨rfl, rfl⟩
      go_wp2_with fail; refine (HM.out _).mono ?_; rintro e w' ⟨rfl, rfl⟩
      clear kc
      have cz := (cq1 3).trans rfl
      obtain ⟨D2, d2, v2, hr2, c1, f1, cq', hl4, hb4, HW⟩ := hst1.app (m := 1) [x2] rfl (b := W1.heap.size) rfl hq1 hqo1 (by omega) (by omega) rfl
      have ka := (cq' 1).trans rfl
      have kb := (cq' 2).trans rfl
      have kc := (cq' 4).trans rfl
      clear cq'
      go_wp2_with (first | (at_builtin; refine list_append _ _ _ rfl rfl rfl rfl hr2 ?_))
      clear cz
      generalize hW : World.setCell v2 ⟨w1.heap.size, 2, none⟩ (.slice D2 (j * 3 + 2 + 1) d2) = W2
      obtain ⟨hst2, hq2, hqo2, hb', cq2, c2', f2', hl'⟩ := HW W2 hW.symm
      have hbox2 := blk_below hbox1 hb' (by omega)
      have hres2 := blk_below hres1 hb' (by omega)
      have hbr2 := hbr1.trans (hb'.mono (by omega))
      clear HW hW c1 f1 ka kb kc hb4 hb' hl4 hst1 hq1 hqo1 hbox1 hres1 hbr1 cq1 c1' f1'
      have kc := (cq2 4).trans rfl
      clear kc
      go_wp2
      go_roundw
      case rel =>
        have e1 : (j + 1) * 3 = j * 3 + 2 + 1 := by omega
        have e2 : X.take (j * 3 + 2 + 1) = (X.take (j * 3) ++ [x0, x1]) ++ [x2] := by
          rw [show j * 3 + 2 + 1 = j * 3 + [x0, x1, x2].length by simp, HT.out]
          simp
        refine ⟨j + 1, D2, d2, by omega, by go_num, ?_, hbox2, hres2, hbr2⟩
        rw [e1, e2]
        exact hst2
      case measure => simp [intOf]; omega
    · obtain rfl : j = m := by omega
      have g0 := (blk_cell hst.blk 0).trans (rfl : _ = some (Value.int .i64 2))
      have g1 := (blk_cell hst.blk 1).trans (rfl : _ = some (Value.int .i64 2))
      have g2 := (blk_cell hst.blk 2).trans (rfl : _ = some (Value.slice D (j * 3) d))
      have g3 := (blk_cell hst.blk 3).trans (rfl : _ = some (Value.slice none 0 0))
      have r0 := (blk_cell hres 0).trans rfl
      have f0 := blk_frozen hres 0
      have r1 := (blk_cell hres 1).trans rfl
      have f1 := blk_frozen hres 1
      have r2 := (blk_cell hres 2).trans rfl
      have f2 := blk_frozen hres 2
      have r3 := (blk_cell hres 3).trans rfl
      have f3 := blk_frozen hres 3
      go_wp2
      have et : X.take (j * 3) = X := List.take_of_length_le (by rw [HN.out, HX.out]; exact Nat.le_refl _)
      have ho := own_base hst.own (b := w.heap.size) (by omega)
      rw [et] at ho
      have hne : (Value.slice D (j * 3) d).ownBlock ≠ some (w.heap.size + 1) := fun e => by have := (own_lt hst.own e).1; omega
      refine bodyPost_ret (v := .agg (gcells 2 2 D (j * 3) d)) (by simp [results, Try.results83, gcells, go_sem, *]) rfl ⟨D, d, by rw [HX.out], ?_, ?_⟩
      · rw [HX.out]
        exact own_far (own_far (own_far (own_far ho hne _) hne _) hne _) hne _
      · repeat' (first | (with_reducible exact bl_refl _) | (with_reducible assumption) | (with_reducible apply bl_al) | (with_reducible apply bl_dr) | (with_reducible refine bl_st ?_ ?_ _) | (with_reducible refine bl_tr ?_ (by with_reducible assumption)) | (first | (with_reducible exact Nat.le_refl _) | (with_reducible assumption) | omega | (simp; omega) | (simp; done)))
set_option maxRecDepth 100000 in
set_option maxHeartbeats 1000000 in
theorem plainSeq3 (A : Option Addr) (X : List Nat) (N cap m : Nat) (w : World) (hN : X.length = N) (hX : N = m * 4) (hr : rd1 (.float .f64) w A X) (hL : N ≤ 100000000) :
    Calls Try.prog 83 #[.agg #[.int .u8 3, .slice A N cap]] w fun e w' => ∃ D c, e = .returned (.agg (gcells 2 3 D N c)) ∧ w'.ownsRow w.heap.size 33 1 (.slice D N c) N (fls X) ∧ Below w.heap.size w w' := by
  have H3 : Hid (∀ W, Calls Try.prog 108 #[.int .u8 3] W fun e w' => e = .returned (.bool true) ∧ W = w') := Lib.hid fun W => is3D_any 3 (by decide) W
  have HM : Hid (∀ W, Calls Try.prog 109 #[.int .u8 3] W fun e w' => e = .returned (.bool true) ∧ W = w') := Lib.hid fun W => isM_any 3 (by decide) W
  have HL : Hid (∀ W, Calls Try.prog 117 #[.agg #[.int .u8 3, .slice A N cap]] W fun e w' => e = .returned (.int .i64 m) ∧ Below W.heap.size W w') := Lib.hid fun W => length_any 3 (by decide) A N cap m hX (by unfold maxLen; omega) W
  have HC : Hid (∀ W, Calls Try.prog 132 #[.agg #[.int .u8 3, .slice A N cap]] W fun e w' => e = .returned (.int .u8 3) ∧ Below W.heap.size W w') := Lib.hid fun W => ctype_any 3 A N cap W
  have hm : m ≤ N := by omega
  have HX := Lib.hid hX
  have HN := Lib.hid hN
  clear hX hN
  go_enter Try.func83, Try.ntmps83
  go_wp2_with fail; refine (HC.out _).mono ?_; rintro e w1 ⟨rfl, hb1⟩
  have hbox := blk_tr (blk_al (blk_new w 111 #[.int .u8 3, .slice A N cap]) (.cells #[.int .i64 0, .int .i64 0, .slice none 0 0, .slice none 0 0] 25)) hb1
  have hres := blk_tr (blk_new (w.alloc (.cells #[.int .u8 3, .slice A N cap] 111)) 25 #[.int .i64 0, .int .i64 0, .slice none 0 0, .slice none 0 0]) hb1
  have hbw : Below w.heap.size w w1 := bl_tr (bl_al (bl_al (bl_refl _) _) _) hb1
  have hz := hb1.size
  simp at hz hres
  go_wp2
  have hst0 : St (w1.alloc (.cells (gcells 2 3 none 0 0) 25)) (w1.heap.size + 1) w1.heap.size 2 3 none 0 0 [] := ⟨own_nil _ _ _ _, blk_new _ _ _, by omega, by simp⟩
  have hbox0 := blk_al hbox (.cells (gcells 2 3 none 0 0) 25)
  have hres0 := blk_al hres (.cells (gcells 2 3 none 0 0) 25)
  clear hbox hres
  go_loopw [4] (fun i wr => ∃ (j : Nat) (D : Option Addr) (d : Nat), j ≤ m ∧ i = .int .i64 j ∧ St wr (w1.heap.size + 1) w1.heap.size 2 3 D (j * 4) d (X.take (j * 4)) ∧ Blk wr w.heap.size 111 #[.int .u8 3, .slice A N cap] ∧ Blk wr (w.heap.size + 1) 25 #[.int .i64 0, .int .i64 0, .slice none 0 0, .slice none 0 0] ∧ Below w.heap.size w wr) (fun i _ => m - (intOf i).toNat)
  case atStart => exact ⟨0, none, 0, Nat.zero_le _, rfl, by simpa [gcells] using hst0, by simpa [gcells] using hbox0, by simpa [gcells] using hres0, bl_al hbw _⟩
  case round =>
    obtain ⟨j, D, d, hj, rfl, hst, hbox, hres, hbr⟩ := hrel
    clear hst0 hbox0 hres0 hbw
    have b0 := (blk_cell hbox 0).trans rfl
    have b1 := (blk_cell hbox 1).trans rfl
    go_wp2_with fail; refine (HL.out _).mono ?_; rintro e w2 ⟨rfl, hb2⟩
    replace hst := hst.tr hb2
    replace hbox := blk_tr hbox hb2
    replace hres := blk_tr hres hb2
    replace hbr := bl_tr hbr hb2
    clear b0 b1 hb2
    have b0 := (blk_cell hbox 0).trans rfl
    have b1 := (blk_cell hbox 1).trans rfl
    by_cases hlt : j < m
    · have hlen := cond_take (HN.out.trans HX.out) hlt
      obtain ⟨x0, e0⟩ : ∃ x, X[j * 4 + 0]? = some x := ⟨_, List.getElem?_eq_getElem (by omega)⟩
      obtain ⟨x1, e1⟩ : ∃ x, X[j * 4 + 1]? = some x := ⟨_, List.getElem?_eq_getElem (by omega)⟩
      obtain ⟨x2, e2⟩ : ∃ x, X[j * 4 + 2]? = some x := ⟨_, List.getElem?_eq_getElem (by omega)⟩
      obtain ⟨x3, e3⟩ : ∃ x, X[j * 4 + 3]? = some x := ⟨_, List.getElem?_eq_getElem (by omega)⟩
      obtain ⟨b, off, rfl, hblt, hc⟩ := rd1_tr hr hbr (by omega)
      have HG := Lib.hid (get3_any b off cap N j x0 x1 x2 x3 w2 (by have := HN.out; omega) (by unfold maxLen; omega) hblt (hc _ _ e0) (hc _ _ e1) (hc _ _ e2) (hc _ _ e3))
      clear hc hr
      have HE : Hid (∀ (i y : Nat), [x0, x1, x2, x3][i]? = some y → X[j * 4 + i]? = some y) := by
        intro i y hy
        match i, hy with
        | 0, hy => cases hy; exact e0
        | 1, hy => cases hy; exact e1
        | 2, hy => cases hy; exact e2
        | 3, hy => cases hy; exact e3
      have HT := Lib.hid (take_more _ HE.out)
      have h8 : j * 4 + 4 ≤ 100000000 := by have := HN.out; omega
      clear HE e0 e1 e2 e3 hlen
      go_wp2_with fail
      refine HG.out.mono ?_
      rintro e w3 ⟨rfl, hb3⟩
      replace hst := hst.tr hb3
      replace hbox := blk_tr hbox hb3
      replace hres := blk_tr hres hb3
      replace hbr := bl_tr hbr hb3
      have hg1 : w1.heap.size < w3.heap.size := by have := hst.le; omega
      have hg2 : ¬ w1.heap.size = w3.heap.size := by omega
      have c0 := (blk_cell hst.blk 2).trans (rfl : _ = some (Value.slice D (j * 4) d))
      have f0 := blk_frozen hst.blk 2
      have hq := blk_new w3 107 #[.float .f64 x0, .float .f64 x1, .float .f64 x2, .float .f64 x3, .int .u8 3]
      have hqo : (Value.slice D (j * 4) d).ownBlock ≠ some w3.heap.size := fun e => by have := (own_lt hst.own e).2; omega
      obtain ⟨D1, d1, w4, hr1, c1, f1, cq, hl4, hb4, HW⟩ := (hst.al (.cells #[.float .f64 x0, .float .f64 x1, .float .f64 x2, .float .f64 x3, .int .u8 3] 107)).app (m := 2) [x0, x1] rfl (b := w3.heap.size + 1) (by simp) hq hqo (by omega) (by omega) rfl
      have ka := (cq 1).trans rfl
      have kb := (cq 2).trans rfl
      have kc := (cq 4).trans rfl
      have hb5 : Below w.heap.size w w4 := (bl_al hbr (.cells #[.float .f64 x0, .float .f64 x1, .float .f64 x2, .float .f64 x3, .int .u8 3] 107)).trans (hb4.mono (by omega))
      clear cq b0 b1 HG hb3 hblt
      go_wp2_with (first | (at_builtin; refine list_append _ _ _ rfl rfl rfl rfl hr1 ?_))
      generalize hW : World.setCell w4 ⟨w1.heap.size, 2, none⟩ (.slice D1 (j * 4 + 2) d1) = W1
      obtain ⟨hst1, hq1, hqo1, hb', cq1, c1', f1', hl'⟩ := HW W1 hW.symm
      have hbox1 := blk_below (blk_al hbox _) hb' (by omega)
      have hres1 := blk_below (blk_al hres _) hb' (by omega)
      have hbr1 := (bl_al hbr _).trans (hb'.mono (by omega))
      clear HW hW c1 f1 ka kb kc hb4 hb' hl4 hst hq hqo hbox hres hbr hb5 c0 f0
      have kc := (cq1 4).trans rfl
      go_wp2_with fail; refine (H3.out _).mono ?_; rintro e w' ⟨rfl, rfl⟩
      clear kc
      have cz := (cq1 2).trans rfl
      obtain ⟨D2, d2, v2, hr2, c1, f1, cq', hl4, hb4, HW⟩ := hst1.app (m := 1) [x2] rfl (b := W1.heap.size) rfl hq1 hqo1 (by omega) (by omega) rfl
      have ka := (cq' 1).trans rfl
      have kb := (cq' 2).trans rfl
      have kc := (cq' 4).trans rfl
      clear cq'
      go_wp2_with (first | (at_builtin; refine list_append _ _ _ rfl rfl rfl rfl hr2 ?_))
      clear cz
      generalize hW : World.setCell v2 ⟨w1.heap.size, 2, none⟩ (.slice D2 (j * 4 + 2 + 1) d2) = W2
      obtain ⟨hst2, hq2, hqo2, hb', cq2, c2', f2', hl'⟩ := HW W2 hW.symm
      have hbox2 := blk_below hbox1 hb' (by omega)
      have hres2 := blk_below hres1 hb' (by omega)
      have hbr2 := hbr1.trans (hb'.mono (by omega))
      clear HW hW c1 f1 ka kb kc hb4 hb' hl4 hst1 hq1 hqo1 hbox1 hres1 hbr1 cq1 c1' f1'
      have kc := (cq2 4).trans rfl
      go_wp2_with fail; refine (HM.out _).mono ?_; rintro e w' ⟨rfl, rfl⟩
      clear kc
      have cz := (cq2 3).trans rfl
      obtain ⟨D3, d3, v3, hr3, c1, f1, cq', hl4, hb4, HW⟩ := hst2.app (m := 1) [x3] rfl (b := W2.heap.size) rfl hq2 hqo2 (by omega) (by omega) rfl
      have ka := (cq' 1).trans rfl
      have kb := (cq' 2).trans rfl
      have kc := (cq' 4).trans rfl
      clear cq'
      go_wp2_with (first | (at_builtin; refine list_append _ _ _ rfl rfl rfl rfl hr3 ?_))
      clear cz
      generalize hW : World.setCell v3 ⟨w1.heap.size, 2, none⟩ (.slice D3 (j * 4 + 2 + 1 + 1) d3) = W3
      obtain ⟨hst3, hq3, hqo3, hb', cq3, c3', f3', hl'⟩ := HW W3 hW.symm
      have hbox3 := blk_below hbox2 hb' (by omega)
      have hres3 := blk_below hres2 hb' (by omega)
      have hbr3 := hbr2.trans (hb'.mono (by omega))
      clear HW hW c1 f1 ka kb kc hb4 hb' hl4 hst2 hq2 hqo2 hbox2 hres2 hbr2 cq2 c2' f2'
      have kc := (cq3 4).trans rfl
      clear kc
      go_wp2
      go_roundw
      case rel =>
        have e1 : (j + 1) * 4 = j * 4 + 2 + 1 + 1 := by omega
        have e2 : X.take (j * 4 + 2 + 1 + 1) = ((X.take (j * 4) ++ [x0, x1]) ++ [x2]) ++ [x3] := by
          rw [show j * 4 + 2 + 1 + 1 = j * 4 + [x0, x1, x2, x3].length by simp, HT.out]
          simp
        refine ⟨j + 1, D3, d3, by omega, by go_num, ?_, hbox3, hres3, hbr3⟩
        rw [e1, e2]
        exact hst3
      case measure => simp [intOf]; omega
    · obtain rfl : j = m := by omega
      have g0 := (blk_cell hst.blk 0).trans (rfl : _ = some (Value.int .i64 2))
      have g1 := (blk_cell hst.blk 1).trans (rfl : _ = some (Value.int .i64 3))
      have g2 := (blk_cell hst.blk 2).trans (rfl : _ = some (Value.slice D (j * 4) d))
      have g3 := (blk_cell hst.blk 3).trans (rfl : _ = some (Value.slice none 0 0))
      have r0 := (blk_cell hres 0).trans rfl
      have f0 := blk_frozen hres 0
      have r1 := (blk_cell hres 1).trans rfl
      have f1 := blk_frozen hres 1
      have r2 := (blk_cell hres 2).trans rfl
      have f2 := blk_frozen hres 2
      have r3 := (blk_cell hres 3).trans rfl
      have f3 := blk_frozen hres 3
      go_wp2
      have et : X.take (j * 4) = X := List.take_of_length_le (by rw [HN.out, HX.out]; exact Nat.le_refl _)
      have ho := own_base hst.own (b := w.heap.size) (by omega)
      rw [et] at ho
      have hne : (Value.slice D (j * 4) d).ownBlock ≠ some (w.heap.size + 1) := fun e => by have := (own_lt hst.own e).1; omega
      refine bodyPost_ret (v := .agg (gcells 2 3 D (j * 4) d)) (by simp [results, Try.results83, gcells, go_sem, *]) rfl ⟨D, d, by rw [HX.out], ?_, ?_⟩
      · rw [HX.out]
        exact own_far (own_far (own_far (own_far ho hne _) hne _) hne _) hne _
      · repeat' (first | (with_reducible exact bl_refl _) | (with_reducible assumption) | (with_reducible apply bl_al) | (with_reducible apply bl_dr) | (with_reducible refine bl_st ?_ ?_ _) | (with_reducible refine bl_tr ?_ (by with_reducible assumption)) | (first | (with_reducible exact Nat.le_refl _) | (with_reducible assumption) | omega | (simp; omega) | (simp; done)))
end Go.Proofs.Ytbigadbnijpcjaa
