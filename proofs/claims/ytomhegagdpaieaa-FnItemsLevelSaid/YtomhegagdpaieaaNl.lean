/-
  Contracts: nJoin (the least box around items), nLevel.
-/
import Derived.Test.YtomhegagdpaieaaHz
import Derived.Test.YtomhegagdpaieaaOwn
import Derived.Test.YtomhegagdpaieaaOpenIt
namespace Go.Proofs.Ytomhegagdpaieaa
open Go.RowKit Fl
theorem elem_XY : ElemOk Try.prog 26 24 2 16 := elemOk (z := .agg #[.float .f64 0, .float .f64 0]) Try.underlying26 (by omega) (by kernel_rfl) rfl
theorem xyCells_one : ∀ ps, ∀ u ∈ xyCells ps, u.oneCell' = true
  | [], u, h => by simp [xyCells] at h
  | p :: ps, u, h => by
    simp only [xyCells, List.mem_cons] at h
    rcases h with rfl | rfl | h
    · rfl
    · rfl
    · exact xyCells_one ps u h
theorem xyCells_append : ∀ ps qs, xyCells (ps ++ qs) = xyCells ps ++ xyCells qs
  | [], qs => rfl
  | p :: ps, qs => by simp [xyCells, xyCells_append ps qs]
theorem pts_snoc {l : List It} {k : Nat} {t : It} (h : l[k]? = some t) : xyCells (pts (l.take (k + 1))) = xyCells (pts (l.take k)) ++ [.float .f64 t.a, .float .f64 t.b, .float .f64 t.c, .float .f64 t.d] := by
  have hk : k < l.length := (List.getElem?_eq_some_iff.1 h).1
  have hp : l[k] = t := by
    have := List.getElem?_eq_getElem hk
    rw [h] at this; exact (Option.some.inj this).symm
  rw [List.take_succ_eq_append_getElem hk, hp, pts_append, xyCells_append]; rfl
set_option maxRecDepth 100000 in
theorem nJoin_any (A : Option Addr) (l : List It) (n c : Nat) (w : World) (hn : l.length = n) (hr : rdIt w A l) (h : n ≤ 65536) :
    Calls Try.prog 39 #[.slice A n c] w fun e w' => e = .returned (.agg #[.bool (stOf (pts l)).f, .float .f64 (stOf (pts l)).a, .float .f64 (stOf (pts l)).b, .float .f64 (stOf (pts l)).c, .float .f64 (stOf (pts l)).d]) ∧ Below w.heap.size w w' := by
  have HN := Lib.hid hn
  clear hn
  go_enter Try.func39, Try.ntmps39
  go_wp2
  go_loopw [8, 3, 5] (fun i s _ wr => ∃ (k : Nat) (D : Option Addr) (d : Nat), k ≤ n ∧ i = .int .i64 k ∧ s = .slice D (k * 2) d ∧ Below w.heap.size w wr ∧ w.heap.size + 1 ≤ wr.heap.size ∧ Blk wr w.heap.size 48 #[.bool false, .float .f64 0, .float .f64 0, .float .f64 0, .float .f64 0] ∧
    wr.ownsRow (w.heap.size + 1) 24 2 (.slice D (k * 2) d) (k * 2) (xyCells (pts (l.take k)))) (fun i _ _ _ => n - (intOf i).toNat)
  case atStart =>
    refine ⟨0, none, 0, Nat.zero_le _, rfl, rfl, ?_, ?_, blk_new _ _ _, own_nil _ _ _ _⟩
    · repeat' (first | (with_reducible exact bl_refl _) | (with_reducible assumption) | (with_reducible apply bl_al) | (with_reducible apply bl_dr) | (with_reducible refine bl_st ?_ ?_ _) | (with_reducible refine bl_tr ?_ (by with_reducible assumption)) | (first | (with_reducible exact Nat.le_refl _) | (with_reducible assumption) | omega | (simp; omega) | (simp; done)))
    · simp
  case round =>
    obtain ⟨k, D, d, hk, rfl, rfl, hbw, hsz, hB, hown⟩ := hrel
    by_cases hlt : k < n
    · obtain ⟨t, et⟩ : ∃ t, l[k]? = some t := ⟨_, List.getElem?_eq_getElem (by have := HN.out; omega)⟩
      obtain ⟨b, off, rfl, hb, hx⟩ := hr (by have := HN.out; omega)
      obtain ⟨c0, c1, c2, c3, c4⟩ := hx k t et
      have d0 := (bl_rc hbw hb _).trans c0
      have d1 := (bl_rc hbw hb _).trans c1
      have d2 := (bl_rc hbw hb _).trans c2
      have d3 := (bl_rc hbw hb _).trans c3
      have d4 := (bl_rc hbw hb _).trans c4
      have HS := Lib.hid (pts_snoc et)
      clear c0 c1 c2 c3 c4 et hx hr
      obtain ⟨D', d', w', hr, hown', hbw', hk', _, hlt'⟩ := app_new (P := Try.prog) (t := 26) (ty := 26) (w := wr.alloc (.cells #[.float .f64 t.a, .float .f64 t.b, .float .f64 t.c, .float .f64 t.d, .int .i64 t.id] 73)) elem_XY #[.float .f64 t.a, .float .f64 t.b, .float .f64 t.c, .float .f64 t.d] (own_tr hown (bl_al (bl_refl _) _)) (m := 2) (g := wr.heap.size + 1) rfl (xyCells_one [(t.a, t.b), (t.c, t.d)]) (by simp) (by simp; omega) (by unfold maxLen; omega) (by omega)
      have hB' := hk' _ _ _ (blk_al hB _) (fun e => by have := (own_lt hown e).1; omega)
      have hw' : Below w.heap.size w w' := (bl_al hbw _).trans (hbw'.mono (by omega))
      clear hk' hB hown hbw hbw'
      simp at hlt'
      go_wp2_with (first | (at_builtin; refine list_append _ _ _ rfl rfl rfl rfl hr ?_))
      go_roundw
      case rel =>
        refine ⟨k + 1, D', d', by omega, by go_num, by rw [show (k + 1) * 2 = k * 2 + 2 by omega], hw', by omega, hB', ?_⟩
        rw [show (k + 1) * 2 = k * 2 + 2 by omega, HS.out]
        exact hown'
      case measure => simp [intOf]; omega
    · obtain rfl : k = n := by omega
      have e1 : l.take k = l := List.take_of_length_le (by have := HN.out; omega)
      rw [e1] at hown
      have hl2 : k * 2 = (pts l).length := by rw [pts_length, HN.out]
      rw [hl2] at hown ⊢
      have HO := Lib.hid (own_rdXY hown)
      have hl3 : (pts l).length ≤ maxLen := by unfold maxLen; omega
      have HE := Lib.hid fun W h => eOf_any D d (pts l) W h hl3
      obtain ⟨ev, hev⟩ : ∃ ev, stOf (pts l) = ev := ⟨_, rfl⟩
      rw [hev] at HE
      have HV := Lib.hid hev
      generalize (pts l).length = pl at *
      clear hown hl2 hev
      go_wp2_with fail
      refine (HE.out _ HO.out).mono ?_
      rintro e w1 ⟨rfl, hb1⟩
      have hB1 := blk_tr hB hb1
      have hf := fun i => blk_frozen hB1 i
      have k0 := (blk_cell hB1 0).trans (rfl : _ = some (Value.bool false))
      have k1 := (blk_cell hB1 1).trans (rfl : _ = some (Value.float .f64 0))
      have k2 := (blk_cell hB1 2).trans (rfl : _ = some (Value.float .f64 0))
      have k3 := (blk_cell hB1 3).trans (rfl : _ = some (Value.float .f64 0))
      have k4 := (blk_cell hB1 4).trans (rfl : _ = some (Value.float .f64 0))
      go_wp2
      refine bodyPost_ret (v := .agg #[.bool ev.f, .float .f64 ev.a, .float .f64 ev.b, .float .f64 ev.c, .float .f64 ev.d]) (by simp [results, Try.results39, go_sem, *]) rfl ⟨by rw [HV.out], ?_⟩
      repeat' (first | (with_reducible exact bl_refl _) | (with_reducible assumption) | (with_reducible apply bl_al) | (with_reducible apply bl_dr) | (with_reducible refine bl_st ?_ ?_ _) | (with_reducible refine bl_tr ?_ (by with_reducible assumption)) | (first | (with_reducible exact Nat.le_refl _) | (with_reducible assumption) | omega | (simp; omega) | (simp; done)))
theorem field_box (f : Bool) (a b c d : Nat) (W : World) : (Instr.field 48 (.agg #[.bool f, .float .f64 a, .float .f64 b, .float .f64 c, .float .f64 d]) 1).run Try.prog W = .ok (.agg #[.float .f64 a, .float .f64 b, .float .f64 c, .float .f64 d]) W := by kernel_rfl
set_option maxRecDepth 100000 in
theorem nLevel_any (A : Option Addr) (l : List It) (n c : Nat) (w : World) (hn : l.length = n) (hr : rdIt w A l) (h : n ≤ 65536) (x y : Nat)
    (hx : Ieee.double.sub (stOf (pts l)).c (stOf (pts l)).a = some x) (hy : Ieee.double.sub (stOf (pts l)).d (stOf (pts l)).b = some y) :
    Calls Try.prog 18 #[.slice A n c] w fun e w' => e = .returned (.bool (fgt x y)) ∧ Below w.heap.size w w' := by
  have HJ := Lib.hid fun W h' => nJoin_any A l n c W hn h' h
  have hX := fun t W => run_sub hx t W
  have hY := fun t W => run_sub hy t W
  clear hx hy hn
  generalize stOf (pts l) = ev at *
  have hfd := fun W => field_box ev.f ev.a ev.b ev.c ev.d W
  go_enter Try.func18, Try.ntmps18
  go_wp2_with fail
  refine (HJ.out _ hr).mono ?_
  rintro e w1 ⟨rfl, hb1⟩
  go_wp2
  go_ret
  refine ⟨rfl, ?_⟩
  repeat' (first | (with_reducible exact bl_refl _) | (with_reducible assumption) | (with_reducible apply bl_al) | (with_reducible apply bl_dr) | (with_reducible refine bl_st ?_ ?_ _) | (with_reducible refine bl_tr ?_ (by with_reducible assumption)) | (first | (with_reducible exact Nat.le_refl _) | (with_reducible assumption) | omega | (simp; omega) | (simp; done)))
end Go.Proofs.Ytomhegagdpaieaa
