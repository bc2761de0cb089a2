/-
  The law FnMultiLineValid: its walk.
-/
import Derived.Test.YtbigadbnijpcjaaMl
import Derived.Test.YtbigadbnijpcjaaGsm
namespace Go.Proofs.Ytbigadbnijpcjaa
open Go.RowKit Fl
theorem elem_Geom : ElemOk Try.prog 23 25 4 64 := elemOk (z := .agg #[.int .i64 0, .int .i64 0, .slice none 0 0, .slice none 0 0]) Try.underlying23 (by omega) (by kernel_rfl) rfl
def kC (k : Nat) (x : Ln) : List Value := [.int .i64 2, .int .i64 k, .slice x.A x.X.length x.c, .slice none 0 0]
def kCs (k : Nat) : List Ln → List Value
  | [] => []
  | x :: l => kC k x ++ kCs k l
theorem kCs_len (k : Nat) : ∀ l, (kCs k l).length = l.length * 4
  | [] => rfl
  | x :: l => by simp [kCs, kC, kCs_len k l]; omega
theorem kCs_one (k : Nat) : ∀ l, ∀ u ∈ kCs k l, u.oneCell' = true
  | [], u, h => by simp [kCs] at h
  | x :: l, u, h => by
    simp only [kCs, List.mem_append] at h
    rcases h with h | h
    · simp [kC] at h
      rcases h with rfl | rfl | rfl | rfl <;> rfl
    · exact kCs_one k l u h
theorem kCs_append (k : Nat) : ∀ a b, kCs k (a ++ b) = kCs k a ++ kCs k b
  | [], b => rfl
  | x :: a, b => by simp [kCs, kCs_append k a b]
theorem kCs_get (k : Nat) : ∀ (l : List Ln) (i r : Nat) (x : Ln), l[i]? = some x → r < 4 → (kCs k l)[i * 4 + r]? = (kC k x)[r]?
  | [], i, r, x, h, _ => by simp at h
  | y :: l, 0, r, x, h, hr => by
    obtain rfl : y = x := by simpa using h
    simp only [kCs, Nat.zero_mul, Nat.zero_add]
    rw [List.getElem?_append_left (by simp [kC]; omega)]
  | y :: l, i + 1, r, x, h, hr => by
    simp only [kCs]
    have h4 : (kC k y).length = 4 := rfl
    rw [List.getElem?_append_right (by omega), h4, show (i + 1) * 4 + r - 4 = i * 4 + r by omega]
    exact kCs_get k l i r x (by simpa using h) hr
def kt (k : Nat) (x : Ln) : GT := .mk 2 k x.X []
theorem wl_mem : ∀ (ks : List GT) (l : Int), 0 ≤ wl ks l → l ≤ 2000 → ∀ t ∈ ks, t.nums.length ≤ 2000
  | [], _, _, _, t, ht => by simp at ht
  | ⟨kd, dm, ns, kk⟩ :: ks, l, h, hl, t, ht => by
    rw [wl] at h
    by_cases h0 : l < 0
    · rw [if_pos h0] at h; omega
    · rw [if_neg h0] at h
      have h1 : 0 ≤ (GT.mk kd dm ns kk).w l := by
        by_cases hx : (GT.mk kd dm ns kk).w l < 0
        · rw [wl_neg _ _ hx] at h; omega
        · omega
      have h2 : (GT.mk kd dm ns kk).w l ≤ l := by rcases GT.w_le (GT.mk kd dm ns kk) l with h | h <;> omega
      rcases List.mem_cons.1 ht with rfl | ht
      · rw [GT.w] at h1
        split at h1
        · omega
        · simp only [GT.nums]; omega
      · exact wl_mem ks _ h (by omega) t ht
theorem rdg_lines {w : World} {k n d base : Nat} {D : Option Addr} {l : List Ln} (hk : k < 4) (hn : l.length = n) (ho : w.ownsRow base 25 4 (.slice D n d) n (kCs k l)) (hl : ∀ x ∈ l, rd1 (.float .f64) w x.A x.X ∧ x.X.length ≤ x.c ∧ x.c ≤ maxLen) (hd : d ≤ maxLen) :
    RdG w (.slice none 0 0) (.slice D n d) (.mk 5 k [] (l.map (kt k))) := by
  have hn' : n = (l.map (kt k)).length := by simp [hn]
  have hcap := own_cap ho
  have hget : ∀ (i : Nat) (t : GT), (l.map (kt k))[i]? = some t → ∃ x, l[i]? = some x ∧ t = kt k x := fun i t h => by
    rw [List.getElem?_map] at h
    cases hj : l[i]? with
    | none => rw [hj] at h; cases h
    | some x => rw [hj] at h; exact ⟨x, rfl, by simpa using h.symm⟩
  have e : RdG w (.slice none ([] : List Nat).length 0) (.slice D (l.map (kt k)).length d) (.mk 5 k [] (l.map (kt k))) := by
    refine .mk (fun i => match l[i]? with | some x => (x.v, .slice none 0 0) | none => (.slice none 0 0, .slice none 0 0)) (by unfold i64; omega) (by unfold i64; omega) (Nat.le_refl _) (Nat.zero_le _) (by rw [← hn']; exact hcap) hd (rd1_nil _ _) (fun h0 => ?_) (fun i t hi => ?_)
    · obtain ⟨g, cap, hv, hle, hlt⟩ := ho.form (by rw [hn']; exact h0)
      obtain ⟨rfl, rfl⟩ : D = some ⟨g, 0, none⟩ ∧ d = cap := by injection hv; constructor <;> assumption
      refine ⟨g, 0, rfl, hlt, fun i t hi => ?_⟩
      obtain ⟨x, hx, rfl⟩ := hget i t hi
      have hc : ∀ r, r < 4 → ∀ u, (kC k x)[r]? = some u → w.cell? ⟨g, 0 + i * 4 + r, none⟩ = some u := fun r hr u hu => by
        have := ho.cells (g := g) rfl (i * 4 + r) u (by rw [kCs_get k l i r x hx hr]; exact hu)
        rw [add_off] at this
        rwa [Nat.zero_add] at this ⊢
      simp only [hx]
      exact ⟨hc 0 (by omega) _ rfl, hc 1 (by omega) _ rfl, hc 2 (by omega) _ rfl, hc 3 (by omega) _ rfl⟩
    · obtain ⟨x, hx, rfl⟩ := hget i t hi
      obtain ⟨h1, h2, h3⟩ := hl x (List.mem_of_getElem? hx)
      simp only [hx]
      exact RdG.mk (kids := []) (fun _ => (.slice none 0 0, .slice none 0 0)) (by unfold i64; omega) (by unfold i64; omega) h2 h3 (Nat.le_refl _) (Nat.zero_le _) h1 (fun h => by simp at h) (fun i k h => by simp at h)
  rw [hn']
  exact e
theorem own_capm {w : World} {base n c : Nat} {t : TypeId} {sz : Nat} {A : Option Addr} {xs : List Value} (h : w.ownsRow base t sz (.slice A n c) n xs) : c ≤ maxLen := by
  rcases h.2 with ⟨hv1, hm1⟩ | ⟨g, cap, cur, hv1, _, _, _, hcm, _⟩
  · injection hv1 with _ _ e; omega
  · injection hv1 with _ _ e; omega
theorem rdKL_tr {w w1 : World} {k : Nat} {B : Option Addr} {ls : List (List Nat)} (hr : rdKL w k B ls) (hb : Below w.heap.size w w1) : rdKL w1 k B ls := fun h0 => by
  obtain ⟨b, off, e, hlt, hc⟩ := hr h0
  refine ⟨b, off, e, Nat.lt_of_lt_of_le hlt hb.size, fun i X hi => ?_⟩
  obtain ⟨c0, c1, c3, A, c, c2, hrd⟩ := hc i X hi
  exact ⟨(bl_rc hb hlt _).trans c0, (bl_rc hb hlt _).trans c1, (bl_rc hb hlt _).trans c3, A, c, (bl_rc hb hlt _).trans c2, rd1_tr hrd hb⟩
theorem ml_zz (B : Option Addr) (l : List Ln) (n c : Nat) (x : Int) (w : World) (hn : l.length = n) (hr : rdLn w B l) (hf : fits6 l = false) :
    Calls Try.prog 9 #[.slice B n c, .int .i64 x] w fun e w' => e = .returned (.bool true) ∧ Below w.heap.size w w' := by
  have HZ := Lib.hid fun W h => zz6_any B l n c W hn h
  rw [hf] at HZ
  have HR := Lib.hid hr
  clear hf hr hn
  go_enter Try.func9, Try.ntmps9
  go_wp2_with fail
  refine (HZ.out _ HR.out).mono ?_
  rintro e w1 ⟨rfl, hb1⟩
  go_wp2
  go_ret
  exact ⟨rfl, hb1⟩
set_option maxRecDepth 100000 in
set_option maxHeartbeats 1000000 in
theorem ml_main (k : Nat) (hk : k < 4) (B : Option Addr) (l : List Ln) (n c : Nat) (w : World) (hn : l.length = n) (hr : rdLn w B l) (hf : fits6 l = true) :
    Calls Try.prog 9 #[.slice B n c, .int .i64 k] w fun e w' => e = .returned (.bool true) ∧ Below w.heap.size w w' := by
  have HZ := Lib.hid fun W h => zz6_any B l n c W hn h
  rw [hf] at HZ
  have HR := Lib.hid hr
  have HN := Lib.hid hn
  have hf' := hf
  unfold fits6 at hf'
  simp only [Bool.and_eq_true, decide_eq_true_eq] at hf'
  have hn31 : n ≤ 2147483647 := by omega
  have HF : Hid (∀ x ∈ l, x.X.length ≤ 2147483647) := fun x hx => by have := List.all_eq_true.1 hf'.2 x hx; simpa using this
  clear hf hf' hr hn
  go_enter Try.func9, Try.ntmps9
  go_wp2_with fail
  refine (HZ.out _ HR.out).mono ?_
  rintro e w1 ⟨rfl, hb1⟩
  clear HZ
  have hR1 := rdLn_tr HR.out hb1
  have HR1 := Lib.hid hR1
  clear hR1
  go_wp2
  go_loopw [6, 8, 9, 10, 18] (fun wt _ _ _ i wr => ∃ (j : Nat) (D : Option Addr) (d : Nat), j ≤ n ∧ i = .int .i64 j ∧ wt = .bool ((l.take j).all fun x => LV k x.X (x.X.length / wid k)) ∧ ((l.take j).all fun x => decide (x.X.length % wid k = 0)) = true ∧
    Below w1.heap.size w1 wr ∧ w1.heap.size + 1 ≤ wr.heap.size ∧ Blk wr w1.heap.size 25 #[.int .i64 5, .int .i64 k, .slice none 0 0, .slice D j d] ∧ wr.ownsRow (w1.heap.size + 1) 25 4 (.slice D j d) j (kCs k (l.take j)) ∧ d ≤ maxLen) (fun _ _ _ _ i _ => n - (intOf i).toNat)
  case atStart =>
    refine ⟨0, none, 0, Nat.zero_le _, rfl, rfl, rfl, ?_, by simp, blk_new _ _ _, own_nil _ _ _ _, Nat.zero_le _⟩
    repeat' (first | (with_reducible exact bl_refl _) | (with_reducible assumption) | (with_reducible apply bl_al) | (with_reducible apply bl_dr) | (with_reducible refine bl_st ?_ ?_ _) | (with_reducible refine bl_tr ?_ (by with_reducible assumption)) | (first | (with_reducible exact Nat.le_refl _) | (with_reducible assumption) | omega | (simp; omega) | (simp; done)))
  case round =>
    obtain ⟨j, D, d, hj, rfl, rfl, hgood, hbr, hsz, hG, hown, hdm⟩ := hrel
    have HGd := Lib.hid hgood
    clear hgood
    by_cases hlt : j < n
    · obtain ⟨x, ex⟩ : ∃ x, l[j]? = some x := ⟨_, List.getElem?_eq_getElem (by have := HN.out; omega)⟩
      obtain ⟨b, off, rfl, hb, hc⟩ := HR1.out.1 (by have := HN.out; omega)
      have c0 := (bl_rc hbr hb _).trans (hc j x ex)
      obtain ⟨hrx, hxc, hcm⟩ := HR1.out.2 x (List.mem_of_getElem? ex)
      have hx31 := HF.out x (List.mem_of_getElem? ex)
      unfold Ln.v at c0
      have HTk : Hid (l.take (j + 1) = l.take j ++ [x]) := by
        show l.take (j + 1) = l.take j ++ [x]
        rw [List.take_add_one, ex]; rfl
      have HRx := Lib.hid hrx
      clear hc ex hrx
      by_cases hmod : x.X.length % wid k = 0
      · have HLO := Lib.hid fun W => lineOf_ok k hk x.A x.X.length x.c W hmod hx31
        have HLV : Hid (∀ W, Below w1.heap.size w1 W → Calls Try.prog 44 #[.slice x.A x.X.length x.c, .int .i64 k] W fun e w' => e = .returned (.bool (LV k x.X (x.X.length / wid k))) ∧ Below W.heap.size W w') := fun W hb =>
          lineValid_any k hk x.A x.X x.X.length x.c (x.X.length / wid k) W rfl (by have := Nat.div_add_mod x.X.length (wid k); rw [hmod, Nat.mul_comm] at this; omega) (rd1_tr HRx.out hb) hx31
        have HAl : Hid (((l.take (j + 1)).all fun x => LV k x.X (x.X.length / wid k)) = (((l.take j).all fun x => LV k x.X (x.X.length / wid k)) && LV k x.X (x.X.length / wid k))) := by
          show ((l.take (j + 1)).all fun x => LV k x.X (x.X.length / wid k)) = _
          rw [HTk.out, List.all_append]; simp
        have HGn : Hid (((l.take (j + 1)).all fun x => decide (x.X.length % wid k = 0)) = true) := by
          show ((l.take (j + 1)).all fun x => decide (x.X.length % wid k = 0)) = true
          rw [HTk.out, List.all_append, HGd.out]; simp [hmod]
        have HKC : Hid (kCs k (l.take (j + 1)) = kCs k (l.take j) ++ [.int .i64 2, .int .i64 k, .slice x.A x.X.length x.c, .slice none 0 0]) := by
          show kCs k (l.take (j + 1)) = _
          rw [HTk.out, kCs_append]; rfl
        clear hmod HTk HGd HRx
        generalize (l.take j).all (fun x => LV k x.X (x.X.length / wid k)) = wt at *
        generalize LV k x.X (x.X.length / wid k) = lv at *
        generalize kCs k (l.take j) = kc at *
        generalize x.X.length = N at *
        obtain ⟨xA, xX, xc⟩ := x
        simp only at *
        go_wp2_with fail
        refine (HLO.out _).mono ?_
        rintro e w3 ⟨rfl, hb3⟩
        have hG3 := blk_tr hG hb3
        have hown3 := own_tr hown hb3
        have hs3 := hb3.size
        have q3 := (blk_cell hG3 3).trans (rfl : _ = some (Value.slice D j d))
        have z3 := blk_lt hG3
        have n3 : ¬ w1.heap.size = w3.heap.size := by omega
        obtain ⟨D', d', w', hrun, hown', hbw', hk', hob, hlt'⟩ := app_new (P := Try.prog) (t := 23) (ty := 23) elem_Geom (w := w3.alloc (.cells #[.int .i64 2, .int .i64 k, .slice xA N xc, .slice none 0 0] 25)) #[.int .i64 2, .int .i64 k, .slice xA N xc, .slice none 0 0] (own_tr hown3 (bl_al (bl_refl _) _)) (m := 1) (g := w3.heap.size + 1) rfl (by simp [Value.oneCell']) (by simp) (by simp; omega) (by unfold maxLen; omega) (by omega)
        have hG' := hk' _ _ _ (blk_al hG3 _) (fun e => by have := (own_lt hown3 e).1; omega)
        have k3 := (blk_cell hG' 3).trans (rfl : _ = some (Value.slice D j d))
        have f3 := fun i => blk_frozen hG' i
        have z4 := blk_lt hG'
        simp at hlt'
        have hbr' : Below w1.heap.size w1 w' := (bl_al (bl_tr hbr hb3) _).trans (hbw'.mono (by omega))
        have hne : (Value.slice D' (j + 1) d').ownBlock ≠ some w1.heap.size := fun e => by have := (own_lt hown' e).1; omega
        have hdm' : d' ≤ maxLen := own_capm hown'
        have hownF := own_far (p := ⟨w1.heap.size, 3, none⟩) hown' hne (.slice D' (j + 1) d')
        have hGF := blk_set hG' 3 (.slice D' (j + 1) d')
        have hbF : Below w1.heap.size w1 (w'.setCell ⟨w1.heap.size, 3, none⟩ (.slice D' (j + 1) d')) := bl_st hbr' (Nat.le_refl _) _
        have hLV2 := HLV.out
        clear hk' hG hG3 hown hown3 hob hbw'
        cases wt
        · go_wp2_with (first | (at_builtin; refine list_append _ _ _ rfl rfl rfl rfl hrun ?_))
          go_roundw
          case rel =>
            refine ⟨j + 1, D', d', by omega, by go_num, ?_, HGn.out, hbF, by simp; omega, blk_eq hGF rfl, ?_, hdm'⟩
            · rw [HAl.out]; rfl
            · rw [HKC.out]; exact hownF
          case measure => simp [intOf]; omega
        · go_wp2_with (first | (at_builtin; refine list_append _ _ _ rfl rfl rfl rfl hrun ?_))
          refine (hLV2 _ hbF).mono ?_
          rintro e w5 ⟨rfl, hb5⟩
          have hz5 := hb5.size
          simp at hz5
          go_wp2
          go_roundw
          case rel =>
            refine ⟨j + 1, D', d', by omega, by go_num, ?_, HGn.out, bl_tr hbF hb5, by omega, blk_tr (blk_eq hGF rfl) hb5, ?_, hdm'⟩
            · rw [HAl.out]; rfl
            · rw [HKC.out]; exact own_tr hownF hb5
          case measure => simp [intOf]; omega
      · have HLO := Lib.hid fun W => lineOf_bad k x.A x.X.length x.c W (.inr (.inr ⟨k, hk, rfl, hmod⟩)) hx31
        clear hmod HTk HGd HRx
        generalize (l.take j).all (fun x => LV k x.X (x.X.length / wid k)) = wt at *
        generalize x.X.length = N at *
        go_wp2_with fail
        refine (HLO.out _).mono ?_
        rintro e w3 ⟨rfl, hb3⟩
        go_wp2
        go_ret
        refine ⟨rfl, ?_⟩
        repeat' (first | (with_reducible exact bl_refl _) | (with_reducible assumption) | (with_reducible apply bl_al) | (with_reducible apply bl_dr) | (with_reducible refine bl_st ?_ ?_ _) | (with_reducible refine bl_tr ?_ (by with_reducible assumption)) | (first | (with_reducible exact Nat.le_refl _) | (with_reducible assumption) | omega | (simp; omega) | (simp; done)))
    · obtain rfl : j = n := by omega
      have e1 : l.take j = l := List.take_of_length_le (by have := HN.out; omega)
      rw [e1] at hown HGd ⊢
      have hlr : ∀ x ∈ l, rd1 (.float .f64) wr x.A x.X ∧ x.X.length ≤ x.c ∧ x.c ≤ maxLen := (rdLn_tr HR1.out hbr).2
      have hT := rdg_lines hk HN.out hown hlr hdm
      have HS := Lib.hid fun W b hb hbl => gSmall_one _ _ _ wr W b hT hb hbl
      simp only [GT.kind, GT.dim] at HS
      have q0 := (blk_cell hG 0).trans (rfl : _ = some (Value.int .i64 5))
      have q1 := (blk_cell hG 1).trans (rfl : _ = some (Value.int .i64 k))
      have q2 := (blk_cell hG 2).trans (rfl : _ = some (Value.slice none 0 0))
      have q3 := (blk_cell hG 3).trans (rfl : _ = some (Value.slice D j d))
      have z3 := blk_lt hG
      have n3 : ¬ w1.heap.size = wr.heap.size := by omega
      cases hsm : decide (0 ≤ (GT.mk 5 k [] (l.map (kt k))).w 2000)
      · rw [hsm] at HS
        generalize (l.all fun x => LV k x.X (x.X.length / wid k)) = wt at *
        clear hsm hT hlr hown
        go_wp2_with fail
        refine (HS.out wr _ (bl_refl _) rfl).mono ?_
        rintro e w3 ⟨rfl, hb3, hb3'⟩
        go_wp2
        go_ret
        refine ⟨rfl, ?_⟩
        repeat' (first | (with_reducible exact bl_refl _) | (with_reducible assumption) | (with_reducible apply bl_al) | (with_reducible apply bl_dr) | (with_reducible refine bl_st ?_ ?_ _) | (with_reducible refine bl_tr ?_ (by with_reducible assumption)) | (first | (with_reducible exact Nat.le_refl _) | (with_reducible assumption) | omega | (simp; omega) | (simp; done)))
      · rw [hsm] at HS
        have h0 := of_decide_eq_true hsm
        have hsmall := w_small h0
        have hw0 : 0 ≤ wl (l.map (kt k)) 1999 := by
          rw [GT.w] at h0
          split at h0
          · omega
          · simpa using h0
        have hmem : ∀ X ∈ l.map Ln.X, X.length = X.length / wid k * wid k ∧ X.length ≤ 65536 := fun X hX => by
          obtain ⟨x, hx, rfl⟩ := List.mem_map.1 hX
          have h1 := List.all_eq_true.1 HGd.out x hx
          have h2 := wl_mem _ _ hw0 (by omega) (kt k x) (List.mem_map.2 ⟨x, hx, rfl⟩)
          simp only [decide_eq_true_eq] at h1
          have h3 : x.X.length ≤ 2000 := h2
          refine ⟨?_, by omega⟩
          have := Nat.div_add_mod x.X.length (wid k)
          rw [h1, Nat.mul_comm] at this; omega
        have hKL : rdKL wr k D (l.map Ln.X) := fun h0 => by
          obtain ⟨g, cap, hv, hle, hlt'⟩ := hown.form (by have := HN.out; simp at h0; omega)
          obtain ⟨rfl, rfl⟩ : D = some ⟨g, 0, none⟩ ∧ d = cap := by injection hv; constructor <;> assumption
          refine ⟨g, 0, rfl, hlt', fun i X hi => ?_⟩
          rw [List.getElem?_map] at hi
          cases hx : l[i]? with
          | none => rw [hx] at hi; cases hi
          | some x =>
            rw [hx] at hi
            obtain rfl : x.X = X := by simpa using hi
            have hc : ∀ r, r < 4 → ∀ u, (kC k x)[r]? = some u → wr.cell? ⟨g, 0 + i * 4 + r, none⟩ = some u := fun r hr u hu => by
              have := hown.cells (g := g) rfl (i * 4 + r) u (by rw [kCs_get k l i r x hx hr]; exact hu)
              rw [add_off] at this
              rwa [Nat.zero_add] at this ⊢
            exact ⟨hc 0 (by omega) _ rfl, hc 1 (by omega) _ rfl, hc 3 (by omega) _ rfl, x.A, x.c, hc 2 (by omega) _ rfl, (hlr x (List.mem_of_getElem? hx)).1⟩
        have hj2 : j ≤ 65536 := by have := hsmall.2; have := HN.out; simp at *; omega
        have hall : ((l.map Ln.X).all fun X => LV k X (X.length / wid k)) = (l.all fun x => LV k x.X (x.X.length / wid k)) := by rw [List.all_map]; rfl
        have HV : Hid (∀ W, Below wr.heap.size wr W → Calls Try.prog 45 #[.agg #[.int .i64 5, .int .i64 k, .slice none 0 0, .slice D j d]] W fun e w' => e = .returned (.bool (l.all fun x => LV k x.X (x.X.length / wid k))) ∧ Below W.heap.size W w') := fun W hb => by
          rw [← hall]
          exact mlValid_any k hk (.slice none 0 0) D (l.map Ln.X) j d W (by simp [HN.out]) (rdKL_tr hKL hb) hj2 hmem
        clear hsm h0 hsmall hw0 hmem hKL hall hT hlr hown
        generalize (l.all fun x => LV k x.X (x.X.length / wid k)) = wt at *
        go_wp2_with fail
        refine (HS.out wr _ (bl_refl _) rfl).mono ?_
        rintro e w3 ⟨rfl, hb3, hb3'⟩
        have hG3 := blk_tr hG hb3
        have q0 := (blk_cell hG3 0).trans (rfl : _ = some (Value.int .i64 5))
        have q1 := (blk_cell hG3 1).trans (rfl : _ = some (Value.int .i64 k))
        have q2 := (blk_cell hG3 2).trans (rfl : _ = some (Value.slice none 0 0))
        have q3 := (blk_cell hG3 3).trans (rfl : _ = some (Value.slice D j d))
        go_wp2_with fail
        refine (HV.out _ hb3).mono ?_
        rintro e w4 ⟨rfl, hb4⟩
        go_wp2
        go_ret
        refine ⟨?_, ?_⟩
        · first | done | (cases wt <;> rfl)
        · repeat' (first | (with_reducible exact bl_refl _) | (with_reducible assumption) | (with_reducible apply bl_al) | (with_reducible apply bl_dr) | (with_reducible refine bl_st ?_ ?_ _) | (with_reducible refine bl_tr ?_ (by with_reducible assumption)) | (first | (with_reducible exact Nat.le_refl _) | (with_reducible assumption) | omega | (simp; omega) | (simp; done)))
end Go.Proofs.Ytbigadbnijpcjaa
