/-
  The law FnStart: its walk.
-/
import Derived.Test.YtbigadbnijpcjaaLine
import Derived.Test.YtbigadbnijpcjaaNewL
import Derived.Test.YtbigadbnijpcjaaGwt
import Derived.Test.YtbigadbnijpcjaaFree
namespace Go.Proofs.Ytbigadbnijpcjaa
open Go.RowKit
theorem zz2_good (kd dm : Int) (A B : Option Addr) (n c m d : Nat) (w : World) (h1 : n ≤ 2147483647) (h2 : m ≤ 2147483647) :
    Calls Try.prog 13 #[.agg #[.int .i64 kd, .int .i64 dm, .slice A n c, .slice B m d]] w fun e w' => e = .returned (.bool true) ∧ Below w.heap.size w w' := by
  go_enter Try.func13, Try.ntmps13
  go_wp2
  go_ret
  refine ⟨rfl, ?_⟩
  repeat' (first | (with_reducible exact bl_refl _) | (with_reducible assumption) | (with_reducible apply bl_al) | (with_reducible apply bl_dr) | (with_reducible refine bl_st ?_ ?_ _) | (with_reducible refine bl_tr ?_ (by with_reducible assumption)) | (first | (with_reducible exact Nat.le_refl _) | (with_reducible assumption) | omega | (simp; omega) | (simp; done)))
theorem zz2_bad (kd dm : Int) (A B : Option Addr) (n c m d : Nat) (w : World) (h : 2147483647 < n ∨ 2147483647 < m) :
    Calls Try.prog 13 #[.agg #[.int .i64 kd, .int .i64 dm, .slice A n c, .slice B m d]] w fun e w' => e = .returned (.bool false) ∧ Below w.heap.size w w' := by
  rcases Nat.lt_or_ge 2147483647 n with h1 | h1
  · go_enter Try.func13, Try.ntmps13
    go_wp2
    go_ret
    refine ⟨rfl, ?_⟩
    repeat' (first | (with_reducible exact bl_refl _) | (with_reducible assumption) | (with_reducible apply bl_al) | (with_reducible apply bl_dr) | (with_reducible refine bl_st ?_ ?_ _) | (with_reducible refine bl_tr ?_ (by with_reducible assumption)) | (first | (with_reducible exact Nat.le_refl _) | (with_reducible assumption) | omega | (simp; omega) | (simp; done)))
  · have h2 : 2147483647 < m := by omega
    clear h
    go_enter Try.func13, Try.ntmps13
    go_wp2
    go_ret
    refine ⟨rfl, ?_⟩
    repeat' (first | (with_reducible exact bl_refl _) | (with_reducible assumption) | (with_reducible apply bl_al) | (with_reducible apply bl_dr) | (with_reducible refine bl_st ?_ ?_ _) | (with_reducible refine bl_tr ?_ (by with_reducible assumption)) | (first | (with_reducible exact Nat.le_refl _) | (with_reducible assumption) | omega | (simp; omega) | (simp; done)))
/-- One geometry in a list of its own. -/
theorem gSmall_one (g : GT) (s t : Value) (w W : World) (b : Nat) (hg : RdG w s t g) (hb : Below w.heap.size w W) (hbl : b = W.heap.size) :
    Calls Try.prog 14 #[.slice (some ⟨b, 0, none⟩) 1 1] (W.alloc (.cells #[.int .i64 g.kind, .int .i64 g.dim, s, t] 25)) fun e w' => e = .returned (.bool (decide (0 ≤ g.w 2000))) ∧ Below W.heap.size W w' ∧ Below (W.heap.size + 1) (W.alloc (.cells #[.int .i64 g.kind, .int .i64 g.dim, s, t] 25)) w' := by
  subst hbl
  have hB := blk_new W 25 #[.int .i64 g.kind, .int .i64 g.dim, s, t]
  have := gSmall_any (some ⟨W.heap.size, 0, none⟩) [g] 1 1 (fun _ => (s, t)) (W.alloc (.cells #[.int .i64 g.kind, .int .i64 g.dim, s, t] 25)) rfl ⟨fun _ => ⟨_, 0, rfl, by simp, fun i k hi => ?_⟩, fun i k hi => ?_⟩ (by omega)
  · have e1 : wl [g] 2000 = g.w 2000 := by rw [wl, wl, if_neg (by decide)]
    rw [e1] at this
    exact this.mono fun e w' ⟨h1, h2⟩ => ⟨h1, (bl_al (bl_refl _) _).trans (h2.mono (by simp)), h2.mono (by simp)⟩
  · match i, hi with
    | 0, hi =>
      obtain rfl : g = k := by simpa using hi
      exact ⟨(blk_cell hB _).trans rfl, (blk_cell hB _).trans rfl, (blk_cell hB _).trans rfl, (blk_cell hB _).trans rfl⟩
  · match i, hi with
    | 0, hi =>
      obtain rfl : g = k := by simpa using hi
      exact hg.tr (bl_al hb _)
theorem w_small {kd dm : Int} {ns : List Nat} {ks : List GT} (h : 0 ≤ (GT.mk kd dm ns ks).w 2000) : ns.length ≤ 2000 ∧ ks.length ≤ 2000 := by
  rw [GT.w] at h
  split at h
  · omega
  · omega
theorem start_zz (g : GT) (s t : Value) (w : World) (hg : RdG w s t g) (h : 2147483647 < g.nums.length ∨ 2147483647 < g.kids.length) :
    Calls Try.prog 3 #[.agg #[.int .i64 g.kind, .int .i64 g.dim, s, t]] w fun e w' => e = .returned (.bool true) ∧ Below w.heap.size w w' := by
  cases hg with
  | mk f hk hd hc hc' he he' hn hB hf =>
    simp only [GT.nums, GT.kids, GT.kind, GT.dim] at h ⊢
    rename_i kd dm ns ks A B c d
    have HZ := Lib.hid fun W => zz2_bad kd dm A B ns.length c ks.length d W h
    clear h hc hc' he he' hn hB hf
    generalize ns.length = n at *
    generalize ks.length = m at *
    go_enter Try.func3, Try.ntmps3
    go_wp2_with fail; refine (HZ.out _).mono ?_; rintro e w1 ⟨rfl, hb1⟩
    go_wp2
    go_ret
    refine ⟨rfl, ?_⟩
    repeat' (first | (with_reducible exact bl_refl _) | (with_reducible assumption) | (with_reducible apply bl_al) | (with_reducible apply bl_dr) | (with_reducible refine bl_st ?_ ?_ _) | (with_reducible refine bl_tr ?_ (by with_reducible assumption)) | (first | (with_reducible exact Nat.le_refl _) | (with_reducible assumption) | omega | (simp; omega) | (simp; done)))
theorem start_skip (g : GT) (s t : Value) (w : World) (hg : RdG w s t g) (h1 : g.nums.length ≤ 2147483647) (h2 : g.kids.length ≤ 2147483647) (h : (decide (0 ≤ g.w 2000)) = false ∨ g.kind ≠ 2) :
    Calls Try.prog 3 #[.agg #[.int .i64 g.kind, .int .i64 g.dim, s, t]] w fun e w' => e = .returned (.bool true) ∧ Below w.heap.size w w' := by
  have HS := Lib.hid fun W b hb hbl => gSmall_one g s t w W b hg hb hbl
  cases hg with
  | mk f hk hd hc hc' he he' hn hB hf =>
    rename_i kd dm ns ks A B c d
    simp only [GT.nums, GT.kids] at h1 h2
    have HZ := Lib.hid fun W => zz2_good kd dm A B ns.length c ks.length d W h1 h2
    generalize hx : decide (0 ≤ (GT.mk kd dm ns ks).w 2000) = x at *
    simp only [GT.kind, GT.dim] at h HS ⊢
    clear hx hc hc' he he' hn hB hf h1 h2
    generalize ns.length = n at *
    generalize ks.length = m at *
    cases x
    · go_enter Try.func3, Try.ntmps3
      go_wp2_with fail; refine (HZ.out _).mono ?_; rintro e w1 ⟨rfl, hb1⟩; have hz_w1 := hb1.size; (try simp at hz_w1); have z_w1_0 : w.heap.size < w1.heap.size := (by omega); have rc_w1_0 := bl_rc hb1 (b := w.heap.size) (by (first | (with_reducible exact Nat.le_refl _) | (with_reducible assumption) | omega | (simp; omega) | (simp; done))); have rf_w1_0 := bl_rf hb1 (b := w.heap.size) (by (first | (with_reducible exact Nat.le_refl _) | (with_reducible assumption) | omega | (simp; omega) | (simp; done)))
      go_wp2_with fail
      refine (HS.out w1 _ (by repeat' (first | (with_reducible exact bl_refl _) | (with_reducible assumption) | (with_reducible apply bl_al) | (with_reducible apply bl_dr) | (with_reducible refine bl_st ?_ ?_ _) | (with_reducible refine bl_tr ?_ (by with_reducible assumption)) | (first | (with_reducible exact Nat.le_refl _) | (with_reducible assumption) | omega | (simp; omega) | (simp; done)))) rfl).mono ?_
      rintro e w2 ⟨rfl, hb2, hb2'⟩
      go_wp2
      go_ret
      refine ⟨rfl, ?_⟩
      repeat' (first | (with_reducible exact bl_refl _) | (with_reducible assumption) | (with_reducible apply bl_al) | (with_reducible apply bl_dr) | (with_reducible refine bl_st ?_ ?_ _) | (with_reducible refine bl_tr ?_ (by with_reducible assumption)) | (first | (with_reducible exact Nat.le_refl _) | (with_reducible assumption) | omega | (simp; omega) | (simp; done)))
    · have h' : kd ≠ 2 := by simpa using h
      clear h
      go_enter Try.func3, Try.ntmps3
      go_wp2_with fail; refine (HZ.out _).mono ?_; rintro e w1 ⟨rfl, hb1⟩; have hz_w1 := hb1.size; (try simp at hz_w1); have z_w1_0 : w.heap.size < w1.heap.size := (by omega); have rc_w1_0 := bl_rc hb1 (b := w.heap.size) (by (first | (with_reducible exact Nat.le_refl _) | (with_reducible assumption) | omega | (simp; omega) | (simp; done))); have rf_w1_0 := bl_rf hb1 (b := w.heap.size) (by (first | (with_reducible exact Nat.le_refl _) | (with_reducible assumption) | omega | (simp; omega) | (simp; done)))
      go_wp2_with fail
      refine (HS.out w1 _ (by repeat' (first | (with_reducible exact bl_refl _) | (with_reducible assumption) | (with_reducible apply bl_al) | (with_reducible apply bl_dr) | (with_reducible refine bl_st ?_ ?_ _) | (with_reducible refine bl_tr ?_ (by with_reducible assumption)) | (first | (with_reducible exact Nat.le_refl _) | (with_reducible assumption) | omega | (simp; omega) | (simp; done)))) rfl).mono ?_
      rintro e w2 ⟨rfl, hb2, hb2'⟩
      have B1 := blk_tr (blk_al (blk_tr (blk_new w 25 #[.int .i64 kd, .int .i64 dm, .slice A n c, .slice B m d]) hb1) (.cells #[.int .i64 kd, .int .i64 dm, .slice A n c, .slice B m d] 25)) (by simpa using hb2')
      have q0 := (blk_cell B1 0).trans (rfl : _ = some (Value.int .i64 kd))
      go_wp2
      go_ret
      refine ⟨rfl, ?_⟩
      repeat' (first | (with_reducible exact bl_refl _) | (with_reducible assumption) | (with_reducible apply bl_al) | (with_reducible apply bl_dr) | (with_reducible refine bl_st ?_ ?_ _) | (with_reducible refine bl_tr ?_ (by with_reducible assumption)) | (first | (with_reducible exact Nat.le_refl _) | (with_reducible assumption) | omega | (simp; omega) | (simp; done)))
def sg (X : List Nat) (x : Int) (n : Nat) : List Nat := X.take (min (fit x n) (wid (d3 x)))
theorem sg_none {X : List Nat} {x : Int} {n : Nat} (h : n / wid (d3 x) = 0) : sg X x n = [] := by
  unfold sg fit; rw [h]; simp
theorem sg_some {X : List Nat} {x : Int} {n : Nat} : plc (d3 x) (X.take (fit x n)) 0 = sg X x n := by
  unfold sg plc; simp [List.take_take, Nat.min_comm]
theorem sg_len {X : List Nat} {x : Int} {n : Nat} (hn : X.length = n) (h : n / wid (d3 x) ≠ 0) : (sg X x n).length = wid (d3 x) := by
  have h1 : wid (d3 x) ≤ fit x n := by
    unfold fit
    have := Nat.le_mul_of_pos_left (wid (d3 x)) (Nat.pos_of_ne_zero h)
    exact this
  have := fit_le x n
  unfold sg
  rw [List.length_take, hn]
  omega
set_option maxRecDepth 100000 in
theorem startI_any (A B : Option Addr) (X : List Nat) (n c m d : Nat) (x : Int) (w : World) (hn : X.length = n) (hr : rd1 (.float .f64) w A X) (hl : n ≤ 65536) :
    Calls Try.prog 16 #[.agg #[.int .i64 2, .int .i64 x, .slice A n c, .slice B m d]] w fun e w' => ∃ D cd, e = .returned (.agg (gcells 1 (d3 x) D (sg X x n).length cd)) ∧ w'.ownsRow w.heap.size 33 1 (.slice D (sg X x n).length cd) (sg X x n).length (fls (sg X x n)) ∧ Below w.heap.size w w' := by
  have HL := Lib.hid fun W h => line_any A B X n c m d x W hn h hl
  have HR : Hid (∀ W, Below w.heap.size w W → rd1 (.float .f64) W A X) := fun W hb => rd1_tr hr hb
  have hk := d3_lt x
  by_cases h0 : n / wid (d3 x) = 0
  · have hf0 : fit x n = 0 := by unfold fit; rw [h0]; simp
    rw [sg_none h0]
    rw [hf0] at HL
    have HS := Lib.hid fun g W => lsStart_none (d3 x) hk (some ⟨g, 0, none⟩) 0 W
    have HP := Lib.hid fun W => plainPtE 0 0 0 0 (d3 x) hk W
    simp only [gcells] at HP ⊢
    clear hr hn hf0 h0
    generalize d3 x = k at *
    go_enter Try.func16, Try.ntmps16
    go_wp2_with fail
    refine (HL.out _ (HR.out _ (bl_al (bl_al (bl_refl _) _) _))).mono ?_
    rintro e w1 ⟨g, rfl, hg, hr1, hb1⟩
    go_wp2_with fail
    refine (HS.out _ _).mono ?_
    rintro e w2 ⟨rfl, hb2⟩
    go_wp2_with fail
    refine (HP.out _).mono ?_
    rintro e w3 ⟨rfl, hb3⟩
    have B2 := blk_tr (blk_tr (blk_tr (blk_new (w.alloc (.cells #[.int .i64 2, .int .i64 x, .slice A n c, .slice B m d] 25)) 25 #[.int .i64 0, .int .i64 0, .slice none 0 0, .slice none 0 0]) hb1) hb2) hb3
    simp only [World.size_alloc] at B2
    have r0 := (blk_cell B2 0).trans (rfl : _ = some (Value.int .i64 0))
    have r1 := (blk_cell B2 1).trans (rfl : _ = some (Value.int .i64 0))
    have r2 := (blk_cell B2 2).trans (rfl : _ = some (Value.slice none 0 0))
    have r3 := (blk_cell B2 3).trans (rfl : _ = some (Value.slice none 0 0))
    have fr := fun i => blk_frozen B2 i
    have hlt := blk_lt B2
    go_wp2
    refine bodyPost_ret (v := .agg #[.int .i64 1, .int .i64 k, .slice none 0 0, .slice none 0 0]) (by simp [results, Try.results16, go_sem, *]) rfl ⟨none, 0, rfl, own_nil _ _ _ _, ?_⟩
    repeat' (first | (with_reducible exact bl_refl _) | (with_reducible assumption) | (with_reducible apply bl_al) | (with_reducible apply bl_dr) | (with_reducible refine bl_st ?_ ?_ _) | (with_reducible refine bl_tr ?_ (by with_reducible assumption)) | (first | (with_reducible exact Nat.le_refl _) | (with_reducible assumption) | omega | (simp; omega) | (simp; done)))
  · have hlen := sg_len hn h0
    have hXf : (X.take (fit x n)).length = fit x n := by rw [List.length_take, hn]; exact Nat.min_eq_left (fit_le x n)
    have hfl := fit_le x n
    have HS := Lib.hid fun g W h => lsStart_some (d3 x) hk (some ⟨g, 0, none⟩) (X.take (fit x n)) (fit x n) (fit x n) (n / wid (d3 x)) W hXf rfl (Nat.pos_of_ne_zero h0) h (by unfold maxLen; omega)
    rw [sg_some] at HS
    have hpn := pn_back (d3 x) hk (sg X x n) hlen
    generalize sg X x n = P at *
    have HP := Lib.hid fun W => plainPt_any (d3 x) hk (px P) (py P) (pz (d3 x) P) (pm (d3 x) P) W
    rw [hpn] at HP
    generalize px P = vx at *
    generalize py P = vy at *
    generalize pz (d3 x) P = vz at *
    generalize pm (d3 x) P = vm at *
    clear hr hn h0 hpn hXf hlen hfl
    generalize fit x n = F at *
    generalize d3 x = k at *
    generalize P.length = pl at *
    go_enter Try.func16, Try.ntmps16
    go_wp2_with fail
    refine (HL.out _ (HR.out _ (bl_al (bl_al (bl_refl _) _) _))).mono ?_
    rintro e w1 ⟨g, rfl, hg, hr1, hb1⟩
    go_wp2_with fail
    refine (HS.out _ _ hr1).mono ?_
    rintro e w2 ⟨rfl, hb2⟩
    go_wp2_with fail
    refine (HP.out _).mono ?_
    rintro e w3 ⟨D, cd, rfl, ho, hb3⟩
    have B2 := blk_tr (blk_tr (blk_tr (blk_new (w.alloc (.cells #[.int .i64 2, .int .i64 x, .slice A n c, .slice B m d] 25)) 25 #[.int .i64 0, .int .i64 0, .slice none 0 0, .slice none 0 0]) hb1) hb2) hb3
    simp only [World.size_alloc] at B2
    have r0 := (blk_cell B2 0).trans (rfl : _ = some (Value.int .i64 0))
    have r1 := (blk_cell B2 1).trans (rfl : _ = some (Value.int .i64 0))
    have r2 := (blk_cell B2 2).trans (rfl : _ = some (Value.slice none 0 0))
    have r3 := (blk_cell B2 3).trans (rfl : _ = some (Value.slice none 0 0))
    have fr := fun i => blk_frozen B2 i
    have hlt := blk_lt B2
    have hs1 := hb1.size
    have hs2 := hb2.size
    simp only [World.size_alloc] at hs1
    have hne : (Value.slice D pl cd).ownBlock ≠ some (w.heap.size + 1) := fun e => by have := (own_lt ho e).1; omega
    simp only [gcells]
    go_wp2
    refine bodyPost_ret (v := .agg #[.int .i64 1, .int .i64 k, .slice D pl cd, .slice none 0 0]) (by simp [results, Try.results16, go_sem, *]) rfl ⟨D, cd, rfl, ?_, ?_⟩
    · exact own_far (own_far (own_far (own_far (own_base ho (by omega)) hne _) hne _) hne _) hne _
    · repeat' (first | (with_reducible exact bl_refl _) | (with_reducible assumption) | (with_reducible apply bl_al) | (with_reducible apply bl_dr) | (with_reducible refine bl_st ?_ ?_ _) | (with_reducible refine bl_tr ?_ (by with_reducible assumption)) | (first | (with_reducible exact Nat.le_refl _) | (with_reducible assumption) | omega | (simp; omega) | (simp; done)))
theorem wid_le (k : Nat) : wid k ≤ 4 := by unfold wid; omega
theorem drew_size (w : World) : w.drew.heap.size = w.heap.size := rfl
theorem own_cap {w : World} {base n c : Nat} {t : TypeId} {sz : Nat} {A : Option Addr} {xs : List Value} (h : w.ownsRow base t sz (.slice A n c) n xs) : n ≤ c := by
  rcases h.2 with ⟨hv1, hm1⟩ | ⟨g, cap, cur, hv1, _, _, hnc, _⟩
  · omega
  · injection hv1 with _ _ e; omega
/-- What the operations of 's, is := New(l), StartPoint(l)' bring about. -/
def regR (k N dd : Nat) (XX Y : List Nat) : Nat → Value → World → Prop
  | 1, v, w => ∃ D cd, v = .agg (gcells 2 k D N cd) ∧ ∃ b, w.ownsRow b 33 1 (.slice D N cd) N (fls XX)
  | 3, v, w => ∃ D cd, v = .agg (gcells 1 k D (min N dd) cd) ∧ ∃ b, w.ownsRow b 33 1 (.slice D (min N dd) cd) (min N dd) (fls Y)
  | _, v, w => ∃ b, v = .pointer (some ⟨b, 0, none⟩) ∧ Blk w b 25 #[.int .i64 0, .int .i64 0, .slice none 0 0, .slice none 0 0]
/-- The blocks that a value of these owns. -/
def regB (_ : Nat) (v : Value) (b : Nat) : Prop := v = .pointer (some ⟨b, 0, none⟩) ∨ ∃ kd kk D n c, v = .agg (gcells kd kk D n c) ∧ (Value.slice D n c).ownBlock = some b
theorem regB_own {w w' : World} {i : Nat} {t : TypeId} {kd kk : Int} {D : Option Addr} {n c : Nat} {xs : List Value} (h : w'.ownsRow w.heap.size t 1 (.slice D n c) n xs) : ∀ b, regB i (.agg (gcells kd kk D n c)) b → w.heap.size ≤ b ∧ b < w'.heap.size := by
  rintro b (e | ⟨kd', kk', D', n', c', e, ho⟩)
  · cases e
  · simp only [gcells, Value.agg.injEq] at e
    injection e with e
    simp only [List.cons.injEq, Value.slice.injEq, Value.int.injEq] at e
    obtain ⟨_, _, ⟨rfl, rfl, rfl⟩, _⟩ := e
    exact own_lt h ho
theorem regB_new {w : World} {i : Nat} : ∀ b, regB i (.pointer (some ⟨w.heap.size, 0, none⟩)) b → w.heap.size ≤ b ∧ b < w.heap.size + 1 := by
  rintro b (e | ⟨kd', kk', D', n', c', e, ho⟩)
  · injection e with e
    injection e with e
    injection e with e
    subst e; omega
  · cases e
theorem regM (k N dd : Nat) (XX Y : List Nat) : ∀ (i : Nat) (v : Value) (w w' : World), regR k N dd XX Y i v w → Below w.heap.size w w' → regR k N dd XX Y i v w' := by
  intro i v w w' h hb
  unfold regR at *
  split at h
  · obtain ⟨D, cd, e, b, ho⟩ := h; exact ⟨D, cd, e, b, own_tr ho hb⟩
  · obtain ⟨D, cd, e, b, ho⟩ := h; exact ⟨D, cd, e, b, own_tr ho hb⟩
  · obtain ⟨b, e, ho⟩ := h; exact ⟨b, e, blk_tr ho hb⟩
set_option maxRecDepth 100000 in
set_option maxHeartbeats 4000000 in
theorem start_main (g : GT) (s t : Value) (w : World) (hg : RdG w s t g) (h0 : decide (0 ≤ g.w 2000) = true) (h2 : g.kind = 2) :
    Calls Try.prog 3 #[.agg #[.int .i64 g.kind, .int .i64 g.dim, s, t]] w fun e w' => e = .returned (.bool true) ∧ Below w.heap.size w w' := by
  have HS := Lib.hid fun W b hb hbl => gSmall_one g s t w W b hg hb hbl
  cases hg with
  | mk f hk hd hc hc' he he' hn hB hf =>
    rename_i kd dm X ks A B c d
    obtain ⟨hs1, hs2⟩ := w_small (of_decide_eq_true h0)
    have HZ := Lib.hid fun W => zz2_good kd dm A B X.length c ks.length d W (by omega) (by omega)
    rw [h0] at HS
    simp only [GT.kind, GT.dim] at h2 HS ⊢
    subst h2
    obtain ⟨n, en⟩ : ∃ n, X.length = n := ⟨_, rfl⟩
    have hd4 := d3_lt dm
    have HR : Hid (∀ W, Below w.heap.size w W → rd1 (.float .f64) W A X) := fun W hb => rd1_tr hn hb
    have hM : (sg X dm n).length = min (fit dm n) (wid (d3 dm)) := by
      have := fit_le dm n
      unfold sg; rw [List.length_take, en]; omega
    have HN : Hid (∀ W, Below w.heap.size w W → Calls Try.prog 15 #[.agg #[.int .i64 2, .int .i64 dm, .slice A n c, .slice B ks.length d]] W fun e w' => ∃ D cd, e = .returned (.agg (gcells 2 (d3 dm) D (fit dm n) cd)) ∧ w'.ownsRow W.heap.size 33 1 (.slice D (fit dm n) cd) (fit dm n) (fls (X.take (fit dm n))) ∧ Below W.heap.size W w') := fun W hb => by
      have := newLine_any A B X n c ks.length d dm W en (rd1_tr hn hb) (by omega) (by rw [← en]; exact hc) hc'
      have e2 : cnt 2 dm n * wid (d3 dm) = fit dm n := by unfold cnt fit; rw [if_neg (by decide)]
      rw [e2] at this
      exact this
    have HP : Hid (∀ W, Below w.heap.size w W → Calls Try.prog 16 #[.agg #[.int .i64 2, .int .i64 dm, .slice A n c, .slice B ks.length d]] W fun e w' => ∃ D cd, e = .returned (.agg (gcells 1 (d3 dm) D (min (fit dm n) (wid (d3 dm))) cd)) ∧ w'.ownsRow W.heap.size 33 1 (.slice D (min (fit dm n) (wid (d3 dm))) cd) (min (fit dm n) (wid (d3 dm))) (fls (sg X dm n)) ∧ Below W.heap.size W w') := fun W hb => by
      have := startI_any A B X n c ks.length d dm W en (rd1_tr hn hb) (by omega)
      rw [hM] at this
      exact this
    have HW := Lib.hid fun W => width_any (d3 dm) hd4 W
    have HQ : Hid (∀ (D E : Option Addr) (cd ce : Nat) (W : World), rd1 (.float .f64) W D (sg X dm n) → rd1 (.float .f64) W E (sg X dm n) → Calls Try.prog 18 #[.slice E (min (fit dm n) (wid (d3 dm))) ce, .slice D (min (fit dm n) (wid (d3 dm))) cd] W fun e w' => e = .returned (.bool true) ∧ Below W.heap.size W w') := fun D E cd ce W hD hE => by
      have := sameNums_any E D (sg X dm n) (sg X dm n) ce cd W hE hD (by rw [hM]; exact Nat.le_trans (Nat.min_le_right _ _) (by have := wid_le (d3 dm); omega))
      rw [hM] at this
      simpa using this
    have hwp := wid_pos (d3 dm)
    have hw4 : wid (d3 dm) ≤ 4 := by unfold wid; omega
    have hfl := fit_le dm n
    rw [en] at hs1 hc HZ
    rw [en] at HS ⊢
    have HT : Hid ((X.take (fit dm n)).take (min (fit dm n) (wid (d3 dm))) = sg X dm n) := by
      show (X.take (fit dm n)).take (min (fit dm n) (wid (d3 dm))) = sg X dm n
      rw [List.take_take, show min (min (fit dm n) (wid (d3 dm))) (fit dm n) = min (fit dm n) (wid (d3 dm)) by omega]; rfl
    clear hc hc' he he' hn hB hf hk hd en h0 hM hd4
    generalize hXX : X.take (fit dm n) = XX at *
    clear hXX
    generalize hY : sg X dm n = Y at *
    clear hY HR
    generalize hF : fit dm n = N at *
    clear hF
    generalize wid (d3 dm) = dd at *
    generalize d3 dm = k at *
    generalize ks.length = m at *
    go_enter Try.func3, Try.ntmps3
    go_wp2_with fail; refine (HZ.out _).mono ?_; rintro e w1 ⟨rfl, hb1⟩; have hz_w1 := hb1.size; (try simp at hz_w1); have z_w1_0 : w.heap.size < w1.heap.size := (by omega); have rc_w1_0 := bl_rc hb1 (b := w.heap.size) (by (first | (with_reducible exact Nat.le_refl _) | (with_reducible assumption) | omega | (simp; omega) | (simp; done))); have rf_w1_0 := bl_rf hb1 (b := w.heap.size) (by (first | (with_reducible exact Nat.le_refl _) | (with_reducible assumption) | omega | (simp; omega) | (simp; done)))
    go_wp2_with fail
    refine (HS.out w1 _ (by repeat' (first | (with_reducible exact bl_refl _) | (with_reducible assumption) | (with_reducible apply bl_al) | (with_reducible apply bl_dr) | (with_reducible refine bl_st ?_ ?_ _) | (with_reducible refine bl_tr ?_ (by with_reducible assumption)) | (first | (with_reducible exact Nat.le_refl _) | (with_reducible assumption) | omega | (simp; omega) | (simp; done)))) rfl).mono ?_
    rintro e w2 ⟨rfl, hb2, hb2'⟩
    have B1 := blk_tr (blk_al (blk_tr (blk_new w 25 #[.int .i64 2, .int .i64 dm, .slice A n c, .slice B m d]) hb1) (.cells #[.int .i64 2, .int .i64 dm, .slice A n c, .slice B m d] 25)) (by simpa using hb2')
    have hbw : Below w.heap.size w w2 := bl_tr (bl_tr (bl_al (bl_refl _) _) hb1) hb2
    have hs2 := hb2.size
    have hs1' := hb1.size
    simp only [World.size_alloc] at hs1'
    have hlt : w.heap.size < w2.heap.size := by omega
    have c0 := (blk_cell B1 0).trans (rfl : _ = some (Value.int .i64 2))
    have c1 := (blk_cell B1 1).trans (rfl : _ = some (Value.int .i64 dm))
    have c2 := (blk_cell B1 2).trans (rfl : _ = some (Value.slice A n c))
    have c3 := (blk_cell B1 3).trans (rfl : _ = some (Value.slice B m d))
    clear B1 hb1 hb2 hb2' HS HZ
    go_wp2
    refine wp_region_free [1, 3, 4, 5] 6 (regR k N dd XX Y) (regB) (regM k N dd XX Y) (by kernel_rfl) (by kernel_rfl) ?_; simp only [List.take_succ_cons, List.take_zero, List.drop_succ_cons, List.drop_zero]
    repeat (refine fr_soft rfl (fun K hK => ?_); go_simp; refine hK _ ?_; clear hK K; (try simp only [Act.put, List.setIfInBounds_toArray, List.set_cons_zero, List.set_cons_succ]))
    refine fr_heavy rfl rfl (fun W hW => ?_) (fun v19 => ?_)
    · go_simp
      refine (HN.out W (bl_tr hbw hW)).mono ?_
      rintro e w4 ⟨D, cd, rfl, ho, hb4⟩
      exact ⟨_, rfl, hb4, ⟨D, cd, rfl, _, ho⟩, regB_own ho⟩
    simp only [Act.put, List.setIfInBounds_toArray, List.set_cons_zero, List.set_cons_succ]
    repeat (refine fr_soft rfl (fun K hK => ?_); go_simp; refine hK _ ?_; clear hK K; (try simp only [Act.put, List.setIfInBounds_toArray, List.set_cons_zero, List.set_cons_succ]))
    refine fr_heavy rfl rfl (fun W hW => ?_) (fun v21 => ?_)
    · go_simp
      refine (HP.out W (bl_tr hbw hW)).mono ?_
      rintro e w4 ⟨D, cd, rfl, ho, hb4⟩
      exact ⟨_, rfl, hb4, ⟨D, cd, rfl, _, ho⟩, regB_own ho⟩
    simp only [Act.put, List.setIfInBounds_toArray, List.set_cons_zero, List.set_cons_succ]
    refine fr_heavy rfl rfl (fun W hW => ?_) (fun v3 => ?_)
    · go_simp
      exact ⟨bl_al (bl_refl _) _, ⟨_, rfl, blk_new _ _ _⟩, regB_new⟩
    simp only [Act.put, List.setIfInBounds_toArray, List.set_cons_zero, List.set_cons_succ]
    refine fr_heavy rfl rfl (fun W hW => ?_) (fun v4 => ?_)
    · go_simp
      exact ⟨bl_al (bl_refl _) _, ⟨_, rfl, blk_new _ _ _⟩, regB_new⟩
    simp only [Act.put, List.setIfInBounds_toArray, List.set_cons_zero, List.set_cons_succ]
    refine fr_nil (fun W hW hG => ?_)
    obtain ⟨⟨D, cd, r1, q1, o1⟩, l1⟩ := hG.1 (1, v19) (by simp)
    obtain ⟨⟨E, ce, r2, q2, o2⟩, l2⟩ := hG.1 (3, v21) (by simp)
    obtain ⟨⟨b3, r3, B3⟩, l3⟩ := hG.1 (4, v3) (by simp)
    obtain ⟨⟨b4, r4, B4⟩, l4⟩ := hG.1 (5, v4) (by simp)
    simp only at r1 r2 r3 r4
    subst r1 r2 r3 r4
    have h34 : b3 ≠ b4 := fun e => hG.2 (4, .pointer (some ⟨b3, 0, none⟩)) (by simp) (5, .pointer (some ⟨b4, 0, none⟩)) (by simp) (by simp) b3 (.inl rfl) (.inl (by rw [e]))
    have h13 : (Value.slice D N cd).ownBlock ≠ some b3 := fun e => hG.2 (4, .pointer (some ⟨b3, 0, none⟩)) (by simp) (1, .agg (gcells 2 k D N cd)) (by simp) (by simp) b3 (.inl rfl) (.inr ⟨2, k, D, N, cd, rfl, e⟩)
    have h14 : (Value.slice D N cd).ownBlock ≠ some b4 := fun e => hG.2 (5, .pointer (some ⟨b4, 0, none⟩)) (by simp) (1, .agg (gcells 2 k D N cd)) (by simp) (by simp) b4 (.inl rfl) (.inr ⟨2, k, D, N, cd, rfl, e⟩)
    have h23 : (Value.slice E (min N dd) ce).ownBlock ≠ some b3 := fun e => hG.2 (4, .pointer (some ⟨b3, 0, none⟩)) (by simp) (3, .agg (gcells 1 k E (min N dd) ce)) (by simp) (by simp) b3 (.inl rfl) (.inr ⟨1, k, E, min N dd, ce, rfl, e⟩)
    have h24 : (Value.slice E (min N dd) ce).ownBlock ≠ some b4 := fun e => hG.2 (5, .pointer (some ⟨b4, 0, none⟩)) (by simp) (3, .agg (gcells 1 k E (min N dd) ce)) (by simp) (by simp) b4 (.inl rfl) (.inr ⟨1, k, E, min N dd, ce, rfl, e⟩)
    have y3 := (l3 b3 (.inl rfl)).1
    have y4 := (l4 b4 (.inl rfl)).1
    clear hG l1 l2 l3 l4
    have z3 := blk_lt B3
    have z4 := blk_lt B4
    have h43 := Ne.symm h34
    have x0 := (blk_cell B3 0).trans (rfl : _ = some (Value.int .i64 0))
    have x1 := (blk_cell B3 1).trans (rfl : _ = some (Value.int .i64 0))
    have x2 := (blk_cell B3 2).trans (rfl : _ = some (Value.slice none 0 0))
    have x3 := (blk_cell B3 3).trans (rfl : _ = some (Value.slice none 0 0))
    have x4 := (blk_cell B4 0).trans (rfl : _ = some (Value.int .i64 0))
    have x5 := (blk_cell B4 1).trans (rfl : _ = some (Value.int .i64 0))
    have x6 := (blk_cell B4 2).trans (rfl : _ = some (Value.slice none 0 0))
    have x7 := (blk_cell B4 3).trans (rfl : _ = some (Value.slice none 0 0))
    have f3 := fun i => blk_frozen B3 i
    have f4 := fun i => blk_frozen B4 i
    simp only [gcells]
    go_wp2
    have HB : Below w.heap.size w (World.setCell (World.setCell (World.setCell (World.setCell (World.setCell (World.setCell (World.setCell (World.setCell W ⟨b3, 0, none⟩ (.int .i64 2)) ⟨b3, 1, none⟩ (.int .i64 k)) ⟨b3, 2, none⟩ (.slice D N cd)) ⟨b3, 3, none⟩ (.slice none 0 0)) ⟨b4, 0, none⟩ (.int .i64 1)) ⟨b4, 1, none⟩ (.int .i64 k)) ⟨b4, 2, none⟩ (.slice E (min N dd) ce)) ⟨b4, 3, none⟩ (.slice none 0 0)) := by
      have hb := bl_tr hbw hW
      repeat' (first | (with_reducible exact bl_refl _) | (with_reducible assumption) | (with_reducible apply bl_al) | (with_reducible apply bl_dr) | (with_reducible refine bl_st ?_ ?_ _) | (with_reducible refine bl_tr ?_ (by with_reducible assumption)) | (first | (with_reducible exact Nat.le_refl _) | (with_reducible assumption) | omega | (simp; omega) | (simp; done)))
    have HD : ∃ b, ((World.setCell (World.setCell (World.setCell (World.setCell (World.setCell (World.setCell (World.setCell (World.setCell W ⟨b3, 0, none⟩ (.int .i64 2)) ⟨b3, 1, none⟩ (.int .i64 k)) ⟨b3, 2, none⟩ (.slice D N cd)) ⟨b3, 3, none⟩ (.slice none 0 0)) ⟨b4, 0, none⟩ (.int .i64 1)) ⟨b4, 1, none⟩ (.int .i64 k)) ⟨b4, 2, none⟩ (.slice E (min N dd) ce)) ⟨b4, 3, none⟩ (.slice none 0 0))).ownsRow b 33 1 (.slice D N cd) N (fls XX) := ⟨_, (own_far (own_far (own_far (own_far (own_far (own_far (own_far (own_far o1 h13 _) h13 _) h13 _) h13 _) h14 _) h14 _) h14 _) h14 _)⟩
    have HE : ∃ b, ((World.setCell (World.setCell (World.setCell (World.setCell (World.setCell (World.setCell (World.setCell (World.setCell W ⟨b3, 0, none⟩ (.int .i64 2)) ⟨b3, 1, none⟩ (.int .i64 k)) ⟨b3, 2, none⟩ (.slice D N cd)) ⟨b3, 3, none⟩ (.slice none 0 0)) ⟨b4, 0, none⟩ (.int .i64 1)) ⟨b4, 1, none⟩ (.int .i64 k)) ⟨b4, 2, none⟩ (.slice E (min N dd) ce)) ⟨b4, 3, none⟩ (.slice none 0 0))).ownsRow b 33 1 (.slice E (min N dd) ce) (min N dd) (fls Y) := ⟨_, (own_far (own_far (own_far (own_far (own_far (own_far (own_far (own_far o2 h23 _) h23 _) h23 _) h23 _) h24 _) h24 _) h24 _) h24 _)⟩
    have H3 : Blk (World.setCell (World.setCell (World.setCell (World.setCell (World.setCell (World.setCell (World.setCell (World.setCell W ⟨b3, 0, none⟩ (.int .i64 2)) ⟨b3, 1, none⟩ (.int .i64 k)) ⟨b3, 2, none⟩ (.slice D N cd)) ⟨b3, 3, none⟩ (.slice none 0 0)) ⟨b4, 0, none⟩ (.int .i64 1)) ⟨b4, 1, none⟩ (.int .i64 k)) ⟨b4, 2, none⟩ (.slice E (min N dd) ce)) ⟨b4, 3, none⟩ (.slice none 0 0)) b3 25 #[.int .i64 2, .int .i64 k, .slice D N cd, .slice none 0 0] := blk_eq (blk_far (blk_far (blk_far (blk_far (blk_set (blk_set (blk_set (blk_set B3 _ _) _ _) _ _) _ _) (p := ⟨b4, 0, none⟩) h34 _) (p := ⟨b4, 1, none⟩) h34 _) (p := ⟨b4, 2, none⟩) h34 _) (p := ⟨b4, 3, none⟩) h34 _) rfl
    have H4 : Blk (World.setCell (World.setCell (World.setCell (World.setCell (World.setCell (World.setCell (World.setCell (World.setCell W ⟨b3, 0, none⟩ (.int .i64 2)) ⟨b3, 1, none⟩ (.int .i64 k)) ⟨b3, 2, none⟩ (.slice D N cd)) ⟨b3, 3, none⟩ (.slice none 0 0)) ⟨b4, 0, none⟩ (.int .i64 1)) ⟨b4, 1, none⟩ (.int .i64 k)) ⟨b4, 2, none⟩ (.slice E (min N dd) ce)) ⟨b4, 3, none⟩ (.slice none 0 0)) b4 25 #[.int .i64 1, .int .i64 k, .slice E (min N dd) ce, .slice none 0 0] := blk_eq (blk_set (blk_set (blk_set (blk_set (blk_far (blk_far (blk_far (blk_far B4 (p := ⟨b3, 0, none⟩) h43 _) (p := ⟨b3, 1, none⟩) h43 _) (p := ⟨b3, 2, none⟩) h43 _) (p := ⟨b3, 3, none⟩) h43 _) _ _) _ _) _ _) _ _) rfl
    generalize (World.setCell (World.setCell (World.setCell (World.setCell (World.setCell (World.setCell (World.setCell (World.setCell W ⟨b3, 0, none⟩ (.int .i64 2)) ⟨b3, 1, none⟩ (.int .i64 k)) ⟨b3, 2, none⟩ (.slice D N cd)) ⟨b3, 3, none⟩ (.slice none 0 0)) ⟨b4, 0, none⟩ (.int .i64 1)) ⟨b4, 1, none⟩ (.int .i64 k)) ⟨b4, 2, none⟩ (.slice E (min N dd) ce)) ⟨b4, 3, none⟩ (.slice none 0 0)) = W' at *
    clear x0 x1 x2 x3 x4 x5 x6 x7 f3 f4 B3 B4 h13 h14 h23 h24 o1 o2 z3 z4 hW q1 q2 y3 y4 c0 c1 c2 c3 hlt HN HP hbw h34 h43
    obtain ⟨q1, o1⟩ := HD
    obtain ⟨q2, o2⟩ := HE
    have hcd := own_cap o1
    have hD := rd1_take (rd1_own o1) (min N dd)
    rw [HT.out] at hD
    have hE := rd1_own o2
    clear o1 o2 HT
    have z3 := blk_lt H3
    have z4 := blk_lt H4
    have x1 := (blk_cell H3 1).trans (rfl : _ = some (Value.int .i64 k))
    have x2 := (blk_cell H3 2).trans (rfl : _ = some (Value.slice D N cd))
    have x4 := (blk_cell H4 0).trans (rfl : _ = some (Value.int .i64 1))
    have x5 := (blk_cell H4 1).trans (rfl : _ = some (Value.int .i64 k))
    have x6 := (blk_cell H4 2).trans (rfl : _ = some (Value.slice E (min N dd) ce))
    obtain ⟨M, hM1, hM2⟩ : ∃ M, min N dd = M ∧ (M = N ∧ N ≤ dd ∨ M = dd ∧ dd < N) := ⟨_, rfl, by omega⟩
    simp only [hM1] at HQ H4 x6 ⊢
    skip
    have hMd : M ≤ cd := by omega
    clear hM1
    have fin : ∀ (w5 : World) (T : Array Value), True := fun _ _ => trivial
    clear fin
    rcases hM2 with ⟨rfl, hMN⟩ | ⟨rfl, hMN⟩
    all_goals
      refine wp_region_calm (by kernel_rfl) (by kernel_rfl) ?_
      repeat (go_big_quiet_step ((first | (go_at_call 17; with_reducible exact calm_of_same (HW.out _)))))
      refine wpQuiet_nil ?_; intro w5 hb5
      have hB5 := bl_tr HB hb5
      replace H3 := blk_tr H3 hb5
      replace H4 := blk_tr H4 hb5
      replace hD := rd1_tr hD hb5
      replace hE := rd1_tr hE hb5
      clear x1 x2 x4 x5 x6 z3 z4 hb5 HB
      have z3 := blk_lt H3
      have z4 := blk_lt H4
      have x1 := (blk_cell H3 1).trans (rfl : _ = some (Value.int .i64 k))
      have x2 := (blk_cell H3 2).trans (rfl : _ = some (Value.slice D _ cd))
      have x4 := (blk_cell H4 0).trans (rfl : _ = some (Value.int .i64 1))
      have x5 := (blk_cell H4 1).trans (rfl : _ = some (Value.int .i64 k))
      have x6 := (blk_cell H4 2).trans (rfl : _ = some (Value.slice E _ ce))
      cases hq0 : ((M : Int) == 0)
      all_goals
        go_wp2
        refine wp_region_calm (by kernel_rfl) (by kernel_rfl) ?_
        repeat (go_big_quiet_step ((first | (go_at_call 18; with_reducible exact calm_of (HQ.out D E cd ce _ (rd1_tr hD (later_below _ _)) (rd1_tr hE (later_below _ _)))))))
        refine wpQuiet_nil ?_; intro w6 hb6
        go_wp2
        go_ret
        refine ⟨rfl, ?_⟩
        repeat' (first | (with_reducible exact bl_refl _) | (with_reducible assumption) | (with_reducible apply bl_al) | (with_reducible apply bl_dr) | (with_reducible refine bl_st ?_ ?_ _) | (with_reducible refine bl_tr ?_ (by with_reducible assumption)) | (first | (with_reducible exact Nat.le_refl _) | (with_reducible assumption) | omega | (simp; omega) | (simp; done)))
end Go.Proofs.Ytbigadbnijpcjaa
