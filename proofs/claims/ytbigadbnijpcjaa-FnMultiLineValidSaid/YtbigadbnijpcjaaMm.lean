/-
  Contracts: NewMultiLineString, impl.multiLine, impl.MultiLineValid.
-/
import Derived.Test.YtbigadbnijpcjaaMk
import Derived.Test.YtbigadbnijpcjaaGwt
namespace Go.Proofs.Ytbigadbnijpcjaa
open Go.RowKit Fl
theorem u8_and_k (k : Nat) (hk : k < 4) : bits .and .u8 3 (k : Int) = (k : Int) ∧ bits .and .u8 (k : Int) (k : Int) = (k : Int) := by
  match k, hk with
  | 0, _ | 1, _ | 2, _ | 3, _ => exact ⟨by decide, by decide⟩
theorem set_same (cur : Array Value) (i : Nat) (v : Value) (h : cur[i]? = some v) : cur.setIfInBounds i v = cur := by
  apply Array.ext_getElem?
  intro j
  rw [Array.getElem?_setIfInBounds]
  split
  · rename_i e; subst e
    split
    · exact h.symm
    · rename_i hx; rw [Array.getElem?_eq_none (by omega)]
  · rfl
set_option maxRecDepth 100000 in
set_option maxHeartbeats 800000 in
theorem newMLS_any (k lo : Nat) (hk : k < 4) (P : Option Addr) (ls : List (List Nat)) (n c : Nat) (w : World) (hn : ls.length = n) (hn0 : 0 < n) (hr : rdM w lo k P ls) (hl : n ≤ 65536) (hlo : lo ≤ w.heap.size) :
    Calls Try.prog 145 #[.slice P n c] w fun e w' => ∃ D cd, e = .returned (.agg #[.slice D n cd, .int .u8 k]) ∧ rdM w' lo k D ls ∧ Below w.heap.size w w' := by
  have HN := Lib.hid hn
  obtain ⟨cs, hg, hlw, hx⟩ := hr
  have HLW := Lib.hid hlw
  obtain ⟨b, rfl, _, hb, hc⟩ := hx (by omega)
  clear hlw
  have hlen : cs.length = n * 2 := by rw [hg.1, hn]
  obtain ⟨ha3, hakk⟩ := u8_and_k k hk
  have HT := Lib.hid fun A N cap W => lsCtype_any k A N cap W
  have HFc := Lib.hid fun A N cap W => lsForce_same k A N cap W
  have HC := Lib.hid hc
  have HG := Lib.hid hg
  have HL := Lib.hid hlen
  have hnz : ((n : Int) == 0) = false := beq_eq_false_iff_ne.2 (by omega)
  clear hn hx hc hlen
  go_enter Try.func145, Try.ntmps145
  go_wp2
  go_loopw [3, 5, 13] (fun t _ i wr => ∃ j : Nat, j ≤ n ∧ i = .int .i64 j ∧ t = .int .u8 (if j = 0 then 3 else k) ∧ Below w.heap.size w wr ∧ Blk wr w.heap.size 147 #[.slice none 0 0, .int .u8 0]) (fun _ _ i _ => n - (intOf i).toNat)
  case atStart =>
    refine ⟨0, Nat.zero_le _, rfl, rfl, ?_, blk_new _ _ _⟩
    repeat' (first | (with_reducible exact bl_refl _) | (with_reducible assumption) | (with_reducible apply bl_al) | (with_reducible apply bl_dr) | (with_reducible refine bl_st ?_ ?_ _) | (with_reducible refine bl_tr ?_ (by with_reducible assumption)) | (first | (with_reducible exact Nat.le_refl _) | (with_reducible assumption) | omega | (simp; omega) | (simp; done)))
  case round =>
    obtain ⟨j, hj, rfl, rfl, hbr, hBr⟩ := hrel
    by_cases hlt : j < n
    · obtain ⟨X, eX⟩ : ∃ X, ls[j]? = some X := ⟨_, List.getElem?_eq_getElem (by have := HN.out; omega)⟩
      obtain ⟨g0, A, cA, g1, _⟩ := HG.out.2.2 j X eX
      have c0 := (bl_rc hbr hb _).trans (HC.out _ _ g0)
      have c1 := (bl_rc hbr hb _).trans (HC.out _ _ g1)
      have hz := hbr.size
      have hbw : b < wr.heap.size := by omega
      have hbn : ¬ b = wr.heap.size := by omega
      clear g0 g1 eX
      generalize X.length = N at *
      by_cases h0 : j = 0
      · subst h0
        simp only [if_true]
        go_wp2_with fail; refine (HT.out _ _ _ _).mono ?_; rintro e w1 ⟨rfl, hb1⟩
        go_wp2
        go_roundw
        case rel => exact ⟨1, by omega, by go_num, by simp, by repeat' (first | (with_reducible exact bl_refl _) | (with_reducible assumption) | (with_reducible apply bl_al) | (with_reducible apply bl_dr) | (with_reducible refine bl_st ?_ ?_ _) | (with_reducible refine bl_tr ?_ (by with_reducible assumption)) | (first | (with_reducible exact Nat.le_refl _) | (with_reducible assumption) | omega | (simp; omega) | (simp; done))), blk_tr (blk_al hBr _) hb1⟩
        case measure => simp [intOf]; omega
      · rw [if_neg h0]
        go_wp2_with fail; refine (HT.out _ _ _ _).mono ?_; rintro e w1 ⟨rfl, hb1⟩
        go_wp2
        go_roundw
        case rel => exact ⟨j + 1, by omega, by go_num, by rw [if_neg (by omega)], by repeat' (first | (with_reducible exact bl_refl _) | (with_reducible assumption) | (with_reducible apply bl_al) | (with_reducible apply bl_dr) | (with_reducible refine bl_st ?_ ?_ _) | (with_reducible refine bl_tr ?_ (by with_reducible assumption)) | (first | (with_reducible exact Nat.le_refl _) | (with_reducible assumption) | omega | (simp; omega) | (simp; done))), blk_tr (blk_al hBr _) hb1⟩
        case measure => simp [intOf]; omega
    · obtain rfl : j = n := by omega
      rw [if_neg (by omega)]
      obtain ⟨D, d, w2, hr2, hown, hb2⟩ := app_rd (P := Try.prog) (ty := 145) (c' := c) elem_LS (own_nil wr wr.heap.size 113 2) (rdC_tr (w := w) (m := j) (A := some ⟨b, 0, none⟩) (size := 2) (ys := cs) ⟨HL.out, fun _ => ⟨_, rfl, hb, fun i u hu => by rw [add_off, Nat.zero_add]; exact HC.out i u hu⟩⟩ hbr) (HG.out.2.1) (Nat.le_refl _) (by unfold maxLen; omega) (by omega)
      simp only [Nat.zero_add, List.nil_append] at hr2 hown
      have hB2 := blk_tr hBr hb2
      have hbr2 := bl_tr hbr hb2
      have hlow := hbr.size
      have hbl := blk_lt hBr
      have HG2 := Lib.hid (goodC_tr HG.out hbr2)
      obtain ⟨g, cap, cur, hv, hge, hBlk, hnc, hcm, hcs, hxs⟩ := (hown.2).resolve_left (fun h => by omega)
      obtain ⟨rfl, rfl⟩ : D = some ⟨g, 0, none⟩ ∧ d = cap := by injection hv; constructor <;> assumption
      have hcell : ∀ i u, cs[i]? = some u → cur[i]? = some u := fun i u hu => by
        rw [← hxs, List.getElem?_take] at hu
        split at hu
        · simpa using hu
        · cases hu
      have HCC := Lib.hid hcell
      have HXS := Lib.hid (⟨hge, hnc, hcm, hcs, hxs⟩ : wr.heap.size ≤ g ∧ j ≤ d ∧ d ≤ maxLen ∧ cur.size = d * 2 ∧ cur.toList.take (j * 2) = cs)
      have hgb : w.heap.size < g := by omega
      clear hcell hxs hcs hcm hown hv hb2 hBr
      go_wp2_with (first | (at_builtin; refine list_append _ _ _ rfl rfl rfl rfl hr2 ?_))
      go_loopw [6, 26] (fun _ i wr => ∃ q : Nat, q ≤ j ∧ i = .int .i64 q ∧ Below w.heap.size w wr ∧ Blk wr w.heap.size 147 #[.slice none 0 0, .int .u8 0] ∧ Blk wr g 113 cur) (fun _ i _ => j - (intOf i).toNat)
      case atStart => exact ⟨0, Nat.zero_le _, rfl, hbr2, hB2, hBlk⟩
      case round =>
        obtain ⟨q, hq, rfl, hbr3, hB3, hBk3⟩ := hrel
        clear hbr2 hB2 hBlk
        by_cases hlt2 : q < j
        · obtain ⟨X, eX⟩ : ∃ X, ls[q]? = some X := ⟨_, List.getElem?_eq_getElem (by have := HN.out; omega)⟩
          obtain ⟨g0, A, cA, g1, _⟩ := HG.out.2.2 q X eX
          have k0 := HCC.out _ _ g0
          have k1 := HCC.out _ _ g1
          have c0 := (blk_cell hBk3 (q * 2)).trans k0
          have c1 := (blk_cell hBk3 (q * 2 + 1)).trans k1
          have z3 := blk_lt hBk3
          clear g0 g1 eX
          generalize X.length = N at *
          go_wp2_with fail; refine (HFc.out _ _ _ _).mono ?_; rintro e w4 ⟨rfl, hb4⟩
          have hBk4 := blk_tr hBk3 hb4
          have hB4 := blk_tr hB3 hb4
          have c2 := (blk_cell hBk4 (q * 2)).trans k0
          have c3 := (blk_cell hBk4 (q * 2 + 1)).trans k1
          have f2 := fun i => blk_frozen hBk4 i
          have hbr4 := bl_tr hbr3 hb4
          go_wp2
          go_roundw
          case rel =>
            refine ⟨q + 1, by omega, by go_num, ?_, ?_, ?_⟩
            · repeat' (first | (with_reducible exact bl_refl _) | (with_reducible assumption) | (with_reducible apply bl_al) | (with_reducible apply bl_dr) | (with_reducible refine bl_st ?_ ?_ _) | (with_reducible refine bl_tr ?_ (by with_reducible assumption)) | (first | (with_reducible exact Nat.le_refl _) | (with_reducible assumption) | omega | (simp; omega) | (simp; done)))
            · exact blk_far (blk_far hB4 (by dsimp only; omega) _) (by dsimp only; omega) _
            · exact blk_eq (blk_set (blk_set hBk4 _ _) _ _) (by rw [set_same cur _ _ k0, set_same cur _ _ k1])
          case measure => simp [intOf]; omega
        · obtain rfl : q = j := by omega
          have r0 := (blk_cell hB3 0).trans (rfl : _ = some (Value.slice none 0 0))
          have r1 := (blk_cell hB3 1).trans (rfl : _ = some (Value.int .u8 0))
          have fr := fun i => blk_frozen hB3 i
          go_wp2
          refine bodyPost_ret (v := .agg #[.slice (some ⟨g, 0, none⟩) q d, .int .u8 k]) (by simp [results, Try.results145, go_sem, *]) rfl ⟨_, _, rfl, ?_, ?_⟩
          · refine ⟨cs, goodC_tr HG.out (by repeat' (first | (with_reducible exact bl_refl _) | (with_reducible assumption) | (with_reducible apply bl_al) | (with_reducible apply bl_dr) | (with_reducible refine bl_st ?_ ?_ _) | (with_reducible refine bl_tr ?_ (by with_reducible assumption)) | (first | (with_reducible exact Nat.le_refl _) | (with_reducible assumption) | omega | (simp; omega) | (simp; done)))), HLW.out, fun _ => ⟨g, rfl, by omega, ?_, fun i u hu => ?_⟩⟩
            · simp; exact blk_lt hBk3
            · rw [cell_far _ (by dsimp only; omega), cell_far _ (by dsimp only; omega), blk_cell hBk3]
              exact HCC.out i u hu
          · repeat' (first | (with_reducible exact bl_refl _) | (with_reducible assumption) | (with_reducible apply bl_al) | (with_reducible apply bl_dr) | (with_reducible refine bl_st ?_ ?_ _) | (with_reducible refine bl_tr ?_ (by with_reducible assumption)) | (first | (with_reducible exact Nat.le_refl _) | (with_reducible assumption) | omega | (simp; omega) | (simp; done)))
/-- The lines that a plain geometry has as its parts. -/
def rdKL (w : World) (k : Nat) (B : Option Addr) (ls : List (List Nat)) : Prop := 0 < ls.length → ∃ b off, B = some ⟨b, off, none⟩ ∧ b < w.heap.size ∧ ∀ (i : Nat) (X : List Nat), ls[i]? = some X →
  w.cell? ⟨b, off + i * 4, none⟩ = some (.int .i64 2) ∧ w.cell? ⟨b, off + i * 4 + 1, none⟩ = some (.int .i64 k) ∧ w.cell? ⟨b, off + i * 4 + 3, none⟩ = some (.slice none 0 0) ∧ ∃ A c, w.cell? ⟨b, off + i * 4 + 2, none⟩ = some (.slice A X.length c) ∧ rd1 (.float .f64) w A X
theorem fit_good {k : Nat} (hk : k < 4) {n : Nat} (h : n = n / wid k * wid k) : fit (k : Int) n = n := by
  unfold fit; rw [d3_nat hk]; exact h.symm
theorem line_good (k : Nat) (hk : k < 4) (A B : Option Addr) (X : List Nat) (n c m d : Nat) (w : World) (hn : X.length = n) (hr : rd1 (.float .f64) w A X) (hl : n ≤ 65536) (h : n = n / wid k * wid k) :
    Calls Try.prog 64 #[.agg #[.int .i64 2, .int .i64 k, .slice A n c, .slice B m d]] w fun e w' => ∃ g, e = .returned (.agg #[.int .u8 k, .slice (some ⟨g, 0, none⟩) n n]) ∧ w.heap.size ≤ g ∧ rd1 (.float .f64) w' (some ⟨g, 0, none⟩) X ∧ Below w.heap.size w w' := by
  have := line_any A B X n c m d k w hn hr hl
  rw [d3_nat hk, fit_good hk h, List.take_of_length_le (by omega)] at this
  exact this.mono fun e w' ⟨g, h1, h0, h2, h3⟩ => ⟨g, h1, h0, h2, h3⟩
/-- 'append(x, ys...)', the ys lying in a block that was made for it; what grows is told. -/
theorem app_new2 {P : Program} {t ty e : TypeId} {size bytes : Nat} (E : ElemOk P t e size bytes) {w : World} {base : Nat} {A : Option Addr} {n c m g : Nat} {xs : List Value} (ys : Array Value)
    (h1 : w.ownsRow base e size (.slice A n c) n xs) (hys : ys.size = m * size) (ho : ∀ u ∈ ys.toList, u.oneCell' = true) (hg : g = w.heap.size) (hb : base ≤ w.heap.size) (hn : n + m ≤ maxLen) (hby : (n + m) * bytes ≤ 140737488355328) :
    ∃ D d w', (Builtin.append_ #[t, t] ty #[.slice A n c, .slice (some ⟨g, 0, none⟩) m m]).run P (w.alloc (.cells ys e)) = .ok (.slice D (n + m) d) w' ∧
      w'.ownsRow base e size (.slice D (n + m) d) (n + m) (xs ++ ys.toList) ∧ Below base w w' ∧ (w.alloc (.cells ys e)).grownBy w' (Value.slice A n c).ownBlock ∧
      ((Value.slice D (n + m) d).ownBlock = (Value.slice A n c).ownBlock ∨ (Value.slice D (n + m) d).ownBlock = some (w.heap.size + 1)) ∧ w.heap.size < w'.heap.size := by
  subst hg
  have hB := blk_new w e ys
  obtain ⟨D, d, w', hr, hown, hbw, hgr, hob⟩ := app_rd2 (ty := ty) E (c' := m) (h1.alloc (.cells ys e)) (B := some ⟨w.heap.size, 0, none⟩) (m := m) (ys := ys.toList)
    ⟨by simpa using hys, fun _ => ⟨_, rfl, by simp, fun j u hu => by
      rw [add_off, blk_cell hB]; simpa using hu⟩⟩ ho (by simp; omega) hn hby rfl
  refine ⟨D, d, w', hr, hown, ((Below.refl _ _).alloc hb _).trans hbw, hgr, ?_, by have := hbw.size; simp at this; omega⟩
  rcases hob with h | h
  · exact .inl h
  · right; simpa using h
theorem rd1_grow {α : Type} {f : α → Value} {w w' : World} {A : Option Addr} {l : List α} {row : Option Nat} (h : rd1 f w A l) (hg : w.grownBy w' row) (hne : 0 < l.length → ∀ b o, A = some ⟨b, o, none⟩ → row ≠ some b) : rd1 f w' A l := fun hl => by
  obtain ⟨b, off, rfl, hb, hc⟩ := h hl
  obtain ⟨_, _, _, hs, hk⟩ := hg
  have e := hk b hb (fun e => hne hl b off rfl e.symm)
  refine ⟨b, off, rfl, by omega, fun i x hx => ?_⟩
  have := hc i x hx
  unfold World.cell? at this ⊢
  rwa [e]
/-- No numbers lie in the block that grows. -/
def awayC (v : Value) (cs : List Value) (ls : List (List Nat)) : Prop := ∀ (i : Nat) (X : List Nat), ls[i]? = some X → 0 < X.length → ∀ A m c, cs[i * 2 + 1]? = some (.slice A m c) → ∀ b o, A = some ⟨b, o, none⟩ → v.ownBlock ≠ some b
theorem goodC_grow {w w' : World} {k : Nat} {cs : List Value} {ls : List (List Nat)} {v : Value} (h : goodC w k cs ls) (ha : awayC v cs ls) (hg : w.grownBy w' v.ownBlock) : goodC w' k cs ls :=
  ⟨h.1, h.2.1, fun i X hi => by
    obtain ⟨h1, A, c, h2, h3⟩ := h.2.2 i X hi
    exact ⟨h1, A, c, h2, rd1_grow h3 hg (fun hl b o e => ha i X hi hl A _ c h2 b o e)⟩⟩
theorem awayC_next {w : World} {k : Nat} {cs : List Value} {ls : List (List Nat)} {v u : Value} {H : Nat} (h : goodC w k cs ls) (ha : awayC v cs ls) (hH : w.heap.size ≤ H) (hu : u.ownBlock = v.ownBlock ∨ u.ownBlock = some H) : awayC u cs ls := by
  intro i X hi hl A m c hc b o e
  rcases hu with hu | hu
  · rw [hu]; exact ha i X hi hl A m c hc b o e
  · rw [hu]
    intro e2
    injection e2 with e2
    subst e2
    obtain ⟨_, A', c', h2, h3⟩ := h.2.2 i X hi
    have : A' = A := by rw [h2] at hc; injection hc with hc; injection hc
    subst this
    obtain ⟨b', o', e', hb, _⟩ := h3 hl
    rw [e'] at e
    injection e with e
    injection e with e
    omega
theorem awayC_snoc {w : World} {k : Nat} {cs : List Value} {ls : List (List Nat)} {v : Value} {A : Option Addr} {X : List Nat} {c : Nat} (h : goodC w k cs ls) (ha : awayC v cs ls) (hn : ∀ b o, A = some ⟨b, o, none⟩ → v.ownBlock ≠ some b) : awayC v (cs ++ [.int .u8 k, .slice A X.length c]) (ls ++ [X]) := by
  intro i Y hi hl A' m c' hc b o e
  have hx := h.1
  rcases Nat.lt_or_ge i ls.length with hlt | hlt
  · rw [List.getElem?_append_left hlt] at hi
    rw [List.getElem?_append_left (by omega)] at hc
    exact ha i Y hi hl A' m c' hc b o e
  · rw [List.getElem?_append_right hlt] at hi
    have h0 : i = ls.length := by
      have := (List.getElem?_eq_some_iff.1 hi).1
      simp at this; omega
    subst h0
    rw [List.getElem?_append_right (by omega), show ls.length * 2 + 1 - cs.length = 1 by omega] at hc
    have : A = A' := by
      simp at hc; exact hc.1
    subst this
    exact hn b o e
set_option maxRecDepth 100000 in
set_option maxHeartbeats 800000 in
theorem multiLine_some (k : Nat) (hk : k < 4) (S : Value) (B : Option Addr) (ls : List (List Nat)) (n d : Nat) (w : World) (hn : ls.length = n) (hn0 : 0 < n) (hr : rdKL w k B ls) (hl : n ≤ 65536) (hX : ∀ X ∈ ls, X.length = X.length / wid k * wid k ∧ X.length ≤ 65536) :
    Calls Try.prog 88 #[.agg #[.int .i64 5, .int .i64 k, S, .slice B n d]] w fun e w' => ∃ D cd, e = .returned (.agg #[.slice D n cd, .int .u8 k]) ∧ rdM w' (w.heap.size + 1 + 1) k D ls ∧ Below w.heap.size w w' := by
  have HN := Lib.hid hn
  obtain ⟨b, off, rfl, hb, hc⟩ := hr (by omega)
  have HC := Lib.hid hc
  have HX := Lib.hid hX
  have HL := Lib.hid fun A X c W (h1 : X.length = X.length / wid k * wid k ∧ X.length ≤ 65536) h => line_good k hk A none X X.length c 0 0 W rfl h h1.2 h1.1
  have HM := Lib.hid fun P c W h h' => newMLS_any k (w.heap.size + 1 + 1) hk P ls n c W hn hn0 h hl h'
  clear hn hc hX hr
  go_enter Try.func88, Try.ntmps88
  go_wp2
  go_loopw [3, 5, 9] (fun p _ i wr => ∃ (j : Nat) (D : Option Addr) (cd : Nat) (cs : List Value), j ≤ n ∧ i = .int .i64 j ∧ p = .slice D j cd ∧ Below w.heap.size w wr ∧ w.heap.size + 1 + 1 ≤ wr.heap.size ∧ Blk wr w.heap.size 25 #[.int .i64 5, .int .i64 k, S, .slice (some ⟨b, off, none⟩) n d] ∧
    Blk wr (w.heap.size + 1) 147 #[.slice none 0 0, .int .u8 0] ∧ wr.ownsRow (w.heap.size + 1 + 1) 113 2 (.slice D j cd) j cs ∧ goodC wr k cs (ls.take j) ∧ awayC (.slice D j cd) cs (ls.take j) ∧ lowC (w.heap.size + 1 + 1) cs (ls.take j)) (fun _ _ i _ => n - (intOf i).toNat)
  case atStart =>
    refine ⟨0, none, 0, [], Nat.zero_le _, rfl, rfl, ?_, by simp, blk_al (blk_new _ _ _) _, blk_at _ _ _ (by simp), own_nil _ _ _ _, goodC_nil _ _, fun i X h => by simp at h, fun i X h => by simp at h⟩
    repeat' (first | (with_reducible exact bl_refl _) | (with_reducible assumption) | (with_reducible apply bl_al) | (with_reducible apply bl_dr) | (with_reducible refine bl_st ?_ ?_ _) | (with_reducible refine bl_tr ?_ (by with_reducible assumption)) | (first | (with_reducible exact Nat.le_refl _) | (with_reducible assumption) | omega | (simp; omega) | (simp; done)))
  case round =>
    obtain ⟨j, D, cd, cs, hj, rfl, rfl, hbr, hsz, hG, hR, hown, hgood, haway, hlow⟩ := hrel
    by_cases hlt : j < n
    · obtain ⟨X, eX⟩ : ∃ X, ls[j]? = some X := ⟨_, List.getElem?_eq_getElem (by have := HN.out; omega)⟩
      obtain ⟨c0, c1, c3, A, cA, c2, hrd⟩ := HC.out j X eX
      have hXX := HX.out X (List.mem_of_getElem? eX)
      have d0 := (bl_rc hbr hb _).trans c0
      have d1 := (bl_rc hbr hb _).trans c1
      have d2 := (bl_rc hbr hb _).trans c2
      have d3 := (bl_rc hbr hb _).trans c3
      have hz := hbr.size
      have hbw : b < wr.heap.size := by omega
      have hbn : ¬ b = wr.heap.size := by omega
      have HLx := Lib.hid fun W h => HL.out A X cA W hXX h
      have HR : Hid (∀ W, Below wr.heap.size wr W → rd1 (.float .f64) W A X) := fun W hb => rd1_tr (rd1_tr hrd hbr) hb
      have HTk : Hid (ls.take (j + 1) = ls.take j ++ [X]) := by
        show ls.take (j + 1) = ls.take j ++ [X]
        rw [List.take_add_one, eX]; rfl
      have HE := Lib.hid (rfl : X.length = X.length)
      have k0 := (blk_cell hG 0).trans (rfl : _ = some (Value.int .i64 5))
      have z0 := blk_lt hG
      clear c0 c1 c2 c3 hrd eX hXX
      obtain ⟨N, hN⟩ : ∃ N, X.length = N := ⟨_, rfl⟩
      have HNN := Lib.hid hN
      rw [hN] at d2 HLx
      clear hN
      go_wp2_with fail
      refine (HLx.out _ (HR.out _ (bl_al (bl_refl _) _))).mono ?_
      rintro e w4 ⟨g, rfl, hgl, hr4, hb4⟩
      have hown4 := own_tr (own_tr hown (bl_al (bl_refl _) (.cells #[.int .i64 2, .int .i64 k, .slice A N cA, .slice none 0 0] 25))) hb4
      have hgood4 := goodC_tr (goodC_tr hgood (bl_al (bl_refl _) (.cells #[.int .i64 2, .int .i64 k, .slice A N cA, .slice none 0 0] 25))) hb4
      have hG4 := blk_tr (blk_al hG (.cells #[.int .i64 2, .int .i64 k, .slice A N cA, .slice none 0 0] 25)) hb4
      have hR4 := blk_tr (blk_al hR (.cells #[.int .i64 2, .int .i64 k, .slice A N cA, .slice none 0 0] 25)) hb4
      have hbr4 := bl_tr (bl_al hbr (.cells #[.int .i64 2, .int .i64 k, .slice A N cA, .slice none 0 0] 25)) hb4
      have hs4 := hb4.size
      simp only [World.size_alloc] at hs4
      obtain ⟨D', cd', w', hrun, hown', hbw', hgr, hob, hlt'⟩ := app_new2 (P := Try.prog) (t := 145) (ty := 145) elem_LS #[.int .u8 k, .slice (some ⟨g, 0, none⟩) N N] hown4 (m := 1) (g := w4.heap.size) rfl (by simp [Value.oneCell']) rfl (by omega) (by unfold maxLen; omega) (by omega)
      have hG' := blk_grown (blk_al hG4 _) hgr (fun e => by have := (own_lt hown4 e).1; omega)
      have hR' := blk_grown (blk_al hR4 _) hgr (fun e => by have := (own_lt hown4 e).1; omega)
      have hgD : ∀ b o, (some ⟨g, 0, none⟩ : Option Addr) = some ⟨b, o, none⟩ → (Value.slice D j cd).ownBlock ≠ some b := fun b o e e2 => by
        injection e with e; injection e with e
        have := (own_lt hown e2).2
        simp only [World.size_alloc] at hgl
        omega
      have hgood5 := goodC_tr hgood4 (bl_al (bl_refl _) (.cells #[.int .u8 k, .slice (some ⟨g, 0, none⟩) N N] 113))
      have hr5 := rd1_tr hr4 (bl_al (bl_refl _) (.cells #[.int .u8 k, .slice (some ⟨g, 0, none⟩) N N] 113))
      have hgood6 := goodC_snoc (A := some ⟨g, 0, none⟩) (X := X) (c := N) hgood5 hr5
      have haway6 := awayC_snoc (X := X) (c := N) hgood5 haway hgD
      have hlow7 := lowC_snoc (X := X) (c := N) hgood5 hlow (A := some ⟨g, 0, none⟩) (fun b o e => by injection e with e; injection e with e; simp only [World.size_alloc] at hgl; omega)
      have hgood7 := goodC_grow hgood6 haway6 hgr
      have haway7 := awayC_next (u := .slice D' (j + 1) cd') hgood6 haway6 (by simp) hob
      rw [HNN.out] at hgood7 haway7 hlow7
      have hbr' := hbr4.trans (hbw'.mono (by omega))
      clear hlow hgood hgood4 hgood5 hgood6 haway haway6 hown hown4 hG hR hG4 hR4 hgr hbw' hr4 hr5 hb4
      go_wp2_with (first | (at_builtin; refine list_append _ _ _ rfl rfl rfl rfl hrun ?_))
      go_roundw
      case rel =>
        refine ⟨j + 1, D', cd', _, by omega, by go_num, rfl, hbr', by omega, hG', hR', hown', ?_, ?_, ?_⟩
        · rw [HTk.out]; exact hgood7
        · rw [HTk.out]; exact haway7
        · rw [HTk.out]; exact hlow7
      case measure => simp [intOf]; omega
    · obtain rfl : j = n := by omega
      have e1 : ls.take j = ls := List.take_of_length_le (by have := HN.out; omega)
      rw [e1] at hgood hlow
      have hnz : ((j : Int) == 0) = false := beq_eq_false_iff_ne.2 (by omega)
      have hM := rdM_own hown hgood hlow (Nat.le_refl _)
      go_wp2_with fail
      refine (HM.out _ _ _ hM hsz).mono ?_
      rintro e w3 ⟨D', cd', rfl, hM3, hb3⟩
      have hR3 := blk_tr hR hb3
      have hbr3 := bl_tr hbr hb3
      have r0 := (blk_cell hR3 0).trans (rfl : _ = some (Value.slice none 0 0))
      have r1 := (blk_cell hR3 1).trans (rfl : _ = some (Value.int .u8 0))
      have fr := fun i => blk_frozen hR3 i
      have z3 := blk_lt hR3
      clear hR hb3 hM hgood haway hown hG
      go_wp2
      refine bodyPost_ret (v := .agg #[.slice D' j cd', .int .u8 k]) (by simp [results, Try.results88, go_sem, *]) rfl ⟨_, _, rfl, ?_, ?_⟩
      · exact rdM_low (rdM_low hM3 _ (by dsimp only; omega)) _ (by dsimp only; omega)
      · repeat' (first | (with_reducible exact bl_refl _) | (with_reducible assumption) | (with_reducible apply bl_al) | (with_reducible apply bl_dr) | (with_reducible refine bl_st ?_ ?_ _) | (with_reducible refine bl_tr ?_ (by with_reducible assumption)) | (first | (with_reducible exact Nat.le_refl _) | (with_reducible assumption) | omega | (simp; omega) | (simp; done)))
end Go.Proofs.Ytbigadbnijpcjaa
