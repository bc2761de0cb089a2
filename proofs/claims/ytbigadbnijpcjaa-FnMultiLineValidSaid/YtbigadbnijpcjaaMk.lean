/-
  Contracts: multi line strings of one type of coordinates: NewMultiLineString, MultiLineString.Validate.
-/
import Derived.Test.YtbigadbnijpcjaaVn
namespace Go.Proofs.Ytbigadbnijpcjaa
open Go.RowKit Fl
/-- The cells of a list of line strings. -/
def goodC (w : World) (k : Nat) (cs : List Value) (ls : List (List Nat)) : Prop := cs.length = ls.length * 2 ∧ (∀ u ∈ cs, u.oneCell' = true) ∧ ∀ (i : Nat) (X : List Nat), ls[i]? = some X →
  cs[i * 2]? = some (.int .u8 k) ∧ ∃ A c, cs[i * 2 + 1]? = some (.slice A X.length c) ∧ rd1 (.float .f64) w A X
theorem goodC_nil (w : World) (k : Nat) : goodC w k [] [] := ⟨rfl, by simp, fun i X h => by simp at h⟩
theorem goodC_tr {w w1 : World} {k : Nat} {cs : List Value} {ls : List (List Nat)} (h : goodC w k cs ls) (hb : Below w.heap.size w w1) : goodC w1 k cs ls :=
  ⟨h.1, h.2.1, fun i X hi => by
    obtain ⟨h1, A, c, h2, h3⟩ := h.2.2 i X hi
    exact ⟨h1, A, c, h2, rd1_tr h3 hb⟩⟩
theorem goodC_snoc {w : World} {k : Nat} {cs : List Value} {ls : List (List Nat)} {A : Option Addr} {X : List Nat} {c : Nat} (h : goodC w k cs ls) (hr : rd1 (.float .f64) w A X) : goodC w k (cs ++ [.int .u8 k, .slice A X.length c]) (ls ++ [X]) := by
  refine ⟨by simp [h.1]; omega, fun u hu => ?_, fun i Y hi => ?_⟩
  · rcases List.mem_append.1 hu with hu | hu
    · exact h.2.1 u hu
    · simp at hu
      rcases hu with rfl | rfl <;> rfl
  · rcases Nat.lt_or_ge i ls.length with hl | hl
    · rw [List.getElem?_append_left hl] at hi
      obtain ⟨h1, A', c', h2, h3⟩ := h.2.2 i Y hi
      have hx := h.1
      exact ⟨by rw [List.getElem?_append_left (by omega)]; exact h1, A', c', by rw [List.getElem?_append_left (by omega)]; exact h2, h3⟩
    · rw [List.getElem?_append_right hl] at hi
      have h0 : i = ls.length := by
        have := (List.getElem?_eq_some_iff.1 hi).1
        simp at this; omega
      subst h0
      rw [Nat.sub_self] at hi
      obtain rfl : X = Y := by simpa using hi
      have hx := h.1
      refine ⟨?_, A, c, ?_, hr⟩
      · rw [List.getElem?_append_right (by omega), hx, Nat.sub_self]; rfl
      · rw [List.getElem?_append_right (by omega), show ls.length * 2 + 1 - cs.length = 1 by omega]; rfl
/-- The numbers lie in blocks from lo on. -/
def lowC (lo : Nat) (cs : List Value) (ls : List (List Nat)) : Prop := ∀ (i : Nat) (X : List Nat), ls[i]? = some X → 0 < X.length → ∀ A m c, cs[i * 2 + 1]? = some (.slice A m c) → ∀ b o, A = some ⟨b, o, none⟩ → lo ≤ b
theorem lowC_snoc {w : World} {k lo : Nat} {cs : List Value} {ls : List (List Nat)} {A : Option Addr} {X : List Nat} {c : Nat} (h : goodC w k cs ls) (ha : lowC lo cs ls) (hn : ∀ b o, A = some ⟨b, o, none⟩ → lo ≤ b) : lowC lo (cs ++ [.int .u8 k, .slice A X.length c]) (ls ++ [X]) := by
  intro i Y hi hl A' m c' hc b o e
  have hx := h.1
  rcases Nat.lt_or_ge i ls.length with hlt | hlt
  · rw [List.getElem?_append_left hlt] at hi
    rw [List.getElem?_append_left (by omega)] at hc
    exact ha i Y hi hl A' m c' hc b o e
  · rw [List.getElem?_append_right hlt] at hi
    have h0 : i = ls.length := by
      have := (List.getElem?_eq_some_iff.1 hi).1
      simp at this; omega
    subst h0
    rw [List.getElem?_append_right (by omega), show ls.length * 2 + 1 - cs.length = 1 by omega] at hc
    have : A = A' := by
      simp at hc; exact hc.1
    subst this
    exact hn b o e
/-- A list of line strings lies at P, in blocks from lo on. -/
def rdM (w : World) (lo k : Nat) (P : Option Addr) (ls : List (List Nat)) : Prop := ∃ cs, goodC w k cs ls ∧ lowC lo cs ls ∧ (0 < ls.length → ∃ b, P = some ⟨b, 0, none⟩ ∧ lo ≤ b ∧ b < w.heap.size ∧ ∀ (j : Nat) (u : Value), cs[j]? = some u → w.cell? ⟨b, j, none⟩ = some u)
theorem rdM_tr {w w1 : World} {lo k : Nat} {P : Option Addr} {ls : List (List Nat)} (h : rdM w lo k P ls) (hb : Below w.heap.size w w1) : rdM w1 lo k P ls := by
  obtain ⟨cs, hg, hlw, hx⟩ := h
  refine ⟨cs, goodC_tr hg hb, hlw, fun hl => ?_⟩
  obtain ⟨b, e, hlo, hlt, hc⟩ := hx hl
  exact ⟨b, e, hlo, Nat.lt_of_lt_of_le hlt hb.size, fun j u hu => (bl_rc hb hlt _).trans (hc j u hu)⟩
theorem rd1_low {α : Type} {f : α → Value} {w : World} {A : Option Addr} {l : List α} {p : Addr} {lo : Nat} (h : rd1 f w A l) (v : Value) (hl : 0 < l.length → ∀ b o, A = some ⟨b, o, none⟩ → lo ≤ b) (hp : p.block < lo) : rd1 f (w.setCell p v) A l := fun h0 => by
  obtain ⟨b, off, rfl, hb, hc⟩ := h h0
  have := hl h0 b off rfl
  exact ⟨b, off, rfl, by simpa using hb, fun i x hx => by rw [cell_far v (by omega)]; exact hc i x hx⟩
theorem rdM_low {w : World} {lo k : Nat} {P : Option Addr} {ls : List (List Nat)} (h : rdM w lo k P ls) {p : Addr} (v : Value) (hp : p.block < lo) : rdM (w.setCell p v) lo k P ls := by
  obtain ⟨cs, hg, hlw, hx⟩ := h
  refine ⟨cs, ⟨hg.1, hg.2.1, fun i X hi => ?_⟩, hlw, fun hl => ?_⟩
  · obtain ⟨h1, A, c, h2, h3⟩ := hg.2.2 i X hi
    exact ⟨h1, A, c, h2, rd1_low h3 v (fun h0 b o e => hlw i X hi h0 A _ c h2 b o e) hp⟩
  · obtain ⟨b, e, hlo, hlt, hc⟩ := hx hl
    exact ⟨b, e, hlo, by simpa using hlt, fun j u hu => by rw [cell_far v (by omega)]; exact hc j u hu⟩
theorem rdM_own {w : World} {base n c k lo : Nat} {t : TypeId} {D : Option Addr} {cs : List Value} {ls : List (List Nat)} (h : w.ownsRow base t 2 (.slice D n c) n cs) (hg : goodC w k cs ls) (hlw : lowC lo cs ls) (hlo : lo ≤ base) : rdM w lo k D ls := by
  refine ⟨cs, hg, hlw, fun hl => ?_⟩
  have h1 := h.1
  have h2 := hg.1
  obtain ⟨g, cap, hv, hle, hlt⟩ := h.form (by omega)
  obtain ⟨rfl, rfl⟩ : D = some ⟨g, 0, none⟩ ∧ c = cap := by injection hv; constructor <;> assumption
  refine ⟨g, rfl, by omega, hlt, fun j u hu => ?_⟩
  have := h.cells (g := g) rfl j u hu
  rwa [add_off, Nat.zero_add] at this
theorem elem_LS : ElemOk Try.prog 145 113 2 32 := elemOk (z := .agg #[.int .u8 0, .slice none 0 0]) Try.underlying145 (by omega) (by kernel_rfl) rfl
theorem seqForce_same (k : Nat) (A : Option Addr) (n c : Nat) (w : World) :
    Calls Try.prog 194 #[.agg #[.int .u8 k, .slice A n c], .int .u8 k] w fun e w' => e = .returned (.agg #[.int .u8 k, .slice A n c]) ∧ Below w.heap.size w w' := by
  go_enter Try.func194, Try.ntmps194
  go_wp2
  refine bodyPost_ret (v := .agg #[.int .u8 k, .slice A n c]) (by simp [results, Try.results194, go_sem, ]) rfl ⟨rfl, ?_⟩
  repeat' (first | (with_reducible exact bl_refl _) | (with_reducible assumption) | (with_reducible apply bl_al) | (with_reducible apply bl_dr) | (with_reducible refine bl_st ?_ ?_ _) | (with_reducible refine bl_tr ?_ (by with_reducible assumption)) | (first | (with_reducible exact Nat.le_refl _) | (with_reducible assumption) | omega | (simp; omega) | (simp; done)))
set_option maxRecDepth 100000 in
theorem lsForce_same (k : Nat) (A : Option Addr) (n c : Nat) (w : World) :
    Calls Try.prog 173 #[.agg #[.int .u8 k, .slice A n c], .int .u8 k] w fun e w' => e = .returned (.agg #[.int .u8 k, .slice A n c]) ∧ Below w.heap.size w w' := by
  go_enter Try.func173, Try.ntmps173
  go_wp2_with fail; refine (seqForce_same _ _ _ _ _).mono ?_; rintro e w1 ⟨rfl, hb1⟩; have hz_w1 := hb1.size; (try simp at hz_w1); have z_w1_0 : w.heap.size < w1.heap.size := (by omega); have rc_w1_0 := bl_rc hb1 (b := w.heap.size) (by (first | (with_reducible exact Nat.le_refl _) | (with_reducible assumption) | omega | (simp; omega) | (simp; done))); have rf_w1_0 := bl_rf hb1 (b := w.heap.size) (by (first | (with_reducible exact Nat.le_refl _) | (with_reducible assumption) | omega | (simp; omega) | (simp; done))); have z_w1_1 : w.heap.size + 1 < w1.heap.size := (by omega); have rc_w1_1 := bl_rc hb1 (b := w.heap.size + 1) (by (first | (with_reducible exact Nat.le_refl _) | (with_reducible assumption) | omega | (simp; omega) | (simp; done))); have rf_w1_1 := bl_rf hb1 (b := w.heap.size + 1) (by (first | (with_reducible exact Nat.le_refl _) | (with_reducible assumption) | omega | (simp; omega) | (simp; done)))
  go_wp2
  refine bodyPost_ret (v := .agg #[.int .u8 k, .slice A n c]) (by simp [results, Try.results173, go_sem, *]) rfl ⟨rfl, ?_⟩
  repeat' (first | (with_reducible exact bl_refl _) | (with_reducible assumption) | (with_reducible apply bl_al) | (with_reducible apply bl_dr) | (with_reducible refine bl_st ?_ ?_ _) | (with_reducible refine bl_tr ?_ (by with_reducible assumption)) | (first | (with_reducible exact Nat.le_refl _) | (with_reducible assumption) | omega | (simp; omega) | (simp; done)))
set_option maxRecDepth 100000 in
theorem mlsValid_any (k lo : Nat) (hk : k < 4) (P : Option Addr) (ls : List (List Nat)) (n c ct : Nat) (w : World) (hn : ls.length = n) (hr : rdM w lo k P ls) (hl : n ≤ 65536) (hX : ∀ X ∈ ls, X.length = X.length / wid k * wid k ∧ X.length ≤ 65536) :
    Calls Try.prog 89 #[.agg #[.slice P n c, .int .u8 ct]] w fun e w' => errIf (ls.all fun X => LV k X (X.length / wid k)) e ∧ Below w.heap.size w w' := by
  have HN := Lib.hid hn
  obtain ⟨cs, hg, _, hx⟩ := hr
  have HX := Lib.hid hX
  have HV := Lib.hid fun A X cap W (h1 : X.length = X.length / wid k * wid k ∧ X.length ≤ 65536) h => lsValid_any k hk A X X.length cap (X.length / wid k) W rfl h1.1 h (by omega)
  clear hn hX
  go_enter Try.func89, Try.ntmps89
  go_wp2
  go_loopw [9] (fun i wr => ∃ j : Nat, j ≤ n ∧ i = .int .i64 j ∧ (ls.take j).all (fun X => LV k X (X.length / wid k)) = true ∧ Below w.heap.size w wr) (fun i _ => n - (intOf i).toNat)
  case atStart =>
    refine ⟨0, Nat.zero_le _, rfl, rfl, ?_⟩
    repeat' (first | (with_reducible exact bl_refl _) | (with_reducible assumption) | (with_reducible apply bl_al) | (with_reducible apply bl_dr) | (with_reducible refine bl_st ?_ ?_ _) | (with_reducible refine bl_tr ?_ (by with_reducible assumption)) | (first | (with_reducible exact Nat.le_refl _) | (with_reducible assumption) | omega | (simp; omega) | (simp; done)))
  case round =>
    obtain ⟨j, hj, rfl, hall, hbr⟩ := hrel
    have HA := Lib.hid hall
    clear hall
    by_cases hlt : j < n
    · obtain ⟨X, eX⟩ : ∃ X, ls[j]? = some X := ⟨_, List.getElem?_eq_getElem (by have := HN.out; omega)⟩
      obtain ⟨b, rfl, _, hb, hc⟩ := hx (by have := HN.out; omega)
      obtain ⟨g0, A, cA, g1, hrd⟩ := hg.2.2 j X eX
      have c0 := (bl_rc hbr hb _).trans (hc _ _ g0)
      have c1 := (bl_rc hbr hb _).trans (hc _ _ g1)
      have hrd' := rd1_tr hrd hbr
      have HVx := Lib.hid fun W h => HV.out A X cA W (HX.out X (List.mem_of_getElem? eX)) h
      have hz := hbr.size
      have hbw : b < wr.heap.size := by omega
      have hbn : ¬ b = wr.heap.size := by omega
      have HT : Hid ((ls.take (j + 1)).all (fun X => LV k X (X.length / wid k)) = LV k X (X.length / wid k)) := by
        show (ls.take (j + 1)).all (fun X => LV k X (X.length / wid k)) = _
        rw [List.take_add_one, eX, List.all_append, HA.out]; simp
      have HF : Hid (LV k X (X.length / wid k) = false → ls.all (fun X => LV k X (X.length / wid k)) = false) := fun h => by
        cases e : ls.all (fun X => LV k X (X.length / wid k))
        · rfl
        · have := List.all_eq_true.1 e X (List.mem_of_getElem? eX); rw [h] at this; cases this
      clear g0 g1 hc hrd eX hg hx HV HX
      generalize LV k X (X.length / wid k) = lv at *
      have hmov : ∀ W, Below wr.heap.size wr W → rd1 (.float .f64) W A X := fun W hb => rd1_tr hrd' hb
      have HR := Lib.hid hmov
      clear hmov hrd'
      generalize X.length = N at *
      cases lv
      · go_wp2_with fail
        refine (HVx.out _ (HR.out _ (bl_al (bl_refl _) _))).mono ?_
        rintro e w3 ⟨⟨t, v, rfl⟩, hb3⟩
        go_wp2_with fail
        refine (wrap_any _ _ _ _ _ _ _).mono ?_
        rintro e w4 ⟨⟨t', v', rfl⟩, hb4⟩
        go_wp2
        go_ret
        refine ⟨?_, ?_⟩
        · rw [HF.out trivial]; exact ⟨_, _, rfl⟩
        · repeat' (first | (with_reducible exact bl_refl _) | (with_reducible assumption) | (with_reducible apply bl_al) | (with_reducible apply bl_dr) | (with_reducible refine bl_st ?_ ?_ _) | (with_reducible refine bl_tr ?_ (by with_reducible assumption)) | (first | (with_reducible exact Nat.le_refl _) | (with_reducible assumption) | omega | (simp; omega) | (simp; done)))
      · go_wp2_with fail
        refine (HVx.out _ (HR.out _ (bl_al (bl_refl _) _))).mono ?_
        rintro e w3 ⟨he, hb3⟩
        cases (show e = .returned .nilIface from he)
        go_wp2
        go_roundw
        case rel => exact ⟨j + 1, by omega, by go_num, HT.out, by repeat' (first | (with_reducible exact bl_refl _) | (with_reducible assumption) | (with_reducible apply bl_al) | (with_reducible apply bl_dr) | (with_reducible refine bl_st ?_ ?_ _) | (with_reducible refine bl_tr ?_ (by with_reducible assumption)) | (first | (with_reducible exact Nat.le_refl _) | (with_reducible assumption) | omega | (simp; omega) | (simp; done)))⟩
        case measure => simp [intOf]; omega
    · obtain rfl : j = n := by omega
      have e1 : ls.take j = ls := List.take_of_length_le (by have := HN.out; omega)
      rw [e1] at HA
      go_wp2
      go_ret
      refine ⟨?_, hbr⟩
      rw [HA.out]; rfl
end Go.Proofs.Ytbigadbnijpcjaa
