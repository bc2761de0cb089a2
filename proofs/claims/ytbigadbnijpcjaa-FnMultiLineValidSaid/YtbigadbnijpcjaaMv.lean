/-
  Contract: impl.MultiLineValid.
-/
import Derived.Test.YtbigadbnijpcjaaMm
namespace Go.Proofs.Ytbigadbnijpcjaa
open Go.RowKit Fl
theorem make_LS0 (W : World) : (Instr.makeSlice 145 (.int .i64 0) (.int .i64 0)).run Try.prog W = .ok (.slice (some ⟨W.heap.size, 0, none⟩) 0 0) (W.alloc (.cells (madeCells #[.int .u8 0, .slice none 0 0] 0) 113)) := by
  obtain ⟨i0, hi, hz0, hz1, hz2⟩ := info_parts (show (Try.prog.info? 113).map (fun i => (i.zero, i.size, i.bytes)) = some (some (.agg #[.int .u8 0, .slice none 0 0]), 2, 32) by kernel_rfl)
  have := run_make W 145 113 i0 _ Try.underlying145 hi hz0 .i64 .i64 (0 : Int) (0 : Int) (by omega) (by omega) (by rw [hz2]; omega) (by omega)
  rw [hz1] at this
  exact this
set_option maxRecDepth 100000 in
theorem mlsForce_empty (k : Nat) (w : World) :
    Calls Try.prog 144 #[.agg #[.slice none 0 0, .int .u8 0], .int .u8 k] w fun e w' => (∃ g, e = .returned (.agg #[.slice (some ⟨g, 0, none⟩) 0 0, .int .u8 k])) ∧ Below w.heap.size w w' := by
  have hmk := make_LS0
  have z0 : w.heap.size < w.heap.size + 1 + 1 + 1 := by omega
  have z1 : w.heap.size + 1 < w.heap.size + 1 + 1 + 1 := by omega
  go_enter Try.func144, Try.ntmps144
  go_wp2
  clear hmk
  go_loopw [6, 14] (fun _ i wr => i = .int .i64 0 ∧ Below w.heap.size w wr ∧ Blk wr (w.heap.size + 1) 147 #[.slice none 0 0, .int .u8 0]) (fun _ _ _ => 0)
  case atStart =>
    refine ⟨rfl, ?_, blk_al (blk_at _ _ _ (by simp)) _⟩
    repeat' (first | (with_reducible exact bl_refl _) | (with_reducible assumption) | (with_reducible apply bl_al) | (with_reducible apply bl_dr) | (with_reducible refine bl_st ?_ ?_ _) | (with_reducible refine bl_tr ?_ (by with_reducible assumption)) | (first | (with_reducible exact Nat.le_refl _) | (with_reducible assumption) | omega | (simp; omega) | (simp; done)))
  case round =>
    obtain ⟨rfl, hbr, hB⟩ := hrel
    have r0 := (blk_cell hB 0).trans (rfl : _ = some (Value.slice none 0 0))
    have r1 := (blk_cell hB 1).trans (rfl : _ = some (Value.int .u8 0))
    have fr := fun i => blk_frozen hB i
    have z2 := blk_lt hB
    go_wp2
    refine bodyPost_ret (v := .agg #[.slice (some ⟨w.heap.size + 1 + 1, 0, none⟩) 0 0, .int .u8 k]) (by simp [results, Try.results144, go_sem, *]) rfl ⟨⟨_, rfl⟩, ?_⟩
    repeat' (first | (with_reducible exact bl_refl _) | (with_reducible assumption) | (with_reducible apply bl_al) | (with_reducible apply bl_dr) | (with_reducible refine bl_st ?_ ?_ _) | (with_reducible refine bl_tr ?_ (by with_reducible assumption)) | (first | (with_reducible exact Nat.le_refl _) | (with_reducible assumption) | omega | (simp; omega) | (simp; done)))
set_option maxRecDepth 100000 in
theorem multiLine_none (k : Nat) (hk : k < 4) (S : Value) (B : Option Addr) (d : Nat) (w : World) :
    Calls Try.prog 88 #[.agg #[.int .i64 5, .int .i64 k, S, .slice B 0 d]] w fun e w' => (∃ g, e = .returned (.agg #[.slice (some ⟨g, 0, none⟩) 0 0, .int .u8 k])) ∧ Below w.heap.size w w' := by
  have HD := Lib.hid fun W => dimOf_any k hk W
  have HF := Lib.hid fun W => mlsForce_empty k W
  have z0 : w.heap.size < w.heap.size + 1 + 1 := by omega
  go_enter Try.func88, Try.ntmps88
  go_wp2
  go_loopw [3, 5, 9] (fun p _ i wr => i = .int .i64 0 ∧ p = .slice none 0 0 ∧ Below w.heap.size w wr ∧ Blk wr w.heap.size 25 #[.int .i64 5, .int .i64 k, S, .slice B 0 d] ∧ Blk wr (w.heap.size + 1) 147 #[.slice none 0 0, .int .u8 0]) (fun _ _ _ _ => 0)
  case atStart =>
    refine ⟨rfl, rfl, ?_, blk_al (blk_new _ _ _) _, blk_at _ _ _ (by simp)⟩
    repeat' (first | (with_reducible exact bl_refl _) | (with_reducible assumption) | (with_reducible apply bl_al) | (with_reducible apply bl_dr) | (with_reducible refine bl_st ?_ ?_ _) | (with_reducible refine bl_tr ?_ (by with_reducible assumption)) | (first | (with_reducible exact Nat.le_refl _) | (with_reducible assumption) | omega | (simp; omega) | (simp; done)))
  case round =>
    obtain ⟨rfl, rfl, hbr, hG, hR⟩ := hrel
    have k1 := (blk_cell hG 1).trans (rfl : _ = some (Value.int .i64 k))
    go_wp2_with fail
    refine (HD.out _).mono ?_
    rintro e W ⟨rfl, rfl⟩
    go_wp2_with fail
    refine (HF.out _).mono ?_
    rintro e w2 ⟨⟨g, rfl⟩, hb2⟩
    have hR2 := blk_tr hR hb2
    have r0 := (blk_cell hR2 0).trans (rfl : _ = some (Value.slice none 0 0))
    have r1 := (blk_cell hR2 1).trans (rfl : _ = some (Value.int .u8 0))
    have fr := fun i => blk_frozen hR2 i
    have z2 := blk_lt hR2
    go_wp2
    refine bodyPost_ret (v := .agg #[.slice (some ⟨g, 0, none⟩) 0 0, .int .u8 k]) (by simp [results, Try.results88, go_sem, *]) rfl ⟨⟨_, rfl⟩, ?_⟩
    repeat' (first | (with_reducible exact bl_refl _) | (with_reducible assumption) | (with_reducible apply bl_al) | (with_reducible apply bl_dr) | (with_reducible refine bl_st ?_ ?_ _) | (with_reducible refine bl_tr ?_ (by with_reducible assumption)) | (first | (with_reducible exact Nat.le_refl _) | (with_reducible assumption) | omega | (simp; omega) | (simp; done)))
set_option maxRecDepth 100000 in
theorem multiLine_nil (x : Int) (S : Value) (B : Option Addr) (d : Nat) (w : World) :
    Calls Try.prog 88 #[.agg #[.int .i64 5, .int .i64 x, S, .slice B 0 d]] w fun e w' => (∃ g, e = .returned (.agg #[.slice (some ⟨g, 0, none⟩) 0 0, .int .u8 (d3 x)])) ∧ Below w.heap.size w w' := by
  have HD := Lib.hid fun W => dimOf_all x W
  have HF := Lib.hid fun W => mlsForce_empty (d3 x) W
  have z0 : w.heap.size < w.heap.size + 1 + 1 := by omega
  go_enter Try.func88, Try.ntmps88
  go_wp2
  go_loopw [3, 5, 9] (fun p _ i wr => i = .int .i64 0 ∧ p = .slice none 0 0 ∧ Below w.heap.size w wr ∧ Blk wr w.heap.size 25 #[.int .i64 5, .int .i64 x, S, .slice B 0 d] ∧ Blk wr (w.heap.size + 1) 147 #[.slice none 0 0, .int .u8 0]) (fun _ _ _ _ => 0)
  case atStart =>
    refine ⟨rfl, rfl, ?_, blk_al (blk_new _ _ _) _, blk_at _ _ _ (by simp)⟩
    repeat' (first | (with_reducible exact bl_refl _) | (with_reducible assumption) | (with_reducible apply bl_al) | (with_reducible apply bl_dr) | (with_reducible refine bl_st ?_ ?_ _) | (with_reducible refine bl_tr ?_ (by with_reducible assumption)) | (first | (with_reducible exact Nat.le_refl _) | (with_reducible assumption) | omega | (simp; omega) | (simp; done)))
  case round =>
    obtain ⟨rfl, rfl, hbr, hG, hR⟩ := hrel
    have k1 := (blk_cell hG 1).trans (rfl : _ = some (Value.int .i64 x))
    go_wp2_with fail
    refine (HD.out _).mono ?_
    rintro e W ⟨rfl, rfl⟩
    go_wp2_with fail
    refine (HF.out _).mono ?_
    rintro e w2 ⟨⟨g, rfl⟩, hb2⟩
    have hR2 := blk_tr hR hb2
    have r0 := (blk_cell hR2 0).trans (rfl : _ = some (Value.slice none 0 0))
    have r1 := (blk_cell hR2 1).trans (rfl : _ = some (Value.int .u8 0))
    have fr := fun i => blk_frozen hR2 i
    have z2 := blk_lt hR2
    go_wp2
    refine bodyPost_ret (v := .agg #[.slice (some ⟨g, 0, none⟩) 0 0, .int .u8 (d3 x)]) (by simp [results, Try.results88, go_sem, *]) rfl ⟨⟨_, rfl⟩, ?_⟩
    repeat' (first | (with_reducible exact bl_refl _) | (with_reducible assumption) | (with_reducible apply bl_al) | (with_reducible apply bl_dr) | (with_reducible refine bl_st ?_ ?_ _) | (with_reducible refine bl_tr ?_ (by with_reducible assumption)) | (first | (with_reducible exact Nat.le_refl _) | (with_reducible assumption) | omega | (simp; omega) | (simp; done)))
set_option maxRecDepth 100000 in
theorem mlValid_nil (x : Int) (S : Value) (B : Option Addr) (d : Nat) (w : World) :
    Calls Try.prog 45 #[.agg #[.int .i64 5, .int .i64 x, S, .slice B 0 d]] w fun e w' => e = .returned (.bool true) ∧ Below w.heap.size w w' := by
  have HM := Lib.hid fun W => multiLine_nil x S B d W
  have HV := Lib.hid fun P c W => mlsValid_any 0 0 (by omega) P [] 0 c (d3 x) W rfl ⟨[], goodC_nil _ _, fun i X h => by simp at h, fun h => by simp at h⟩ (by omega) (fun X h => by simp at h)
  go_enter Try.func45, Try.ntmps45
  go_wp2_with fail
  refine (HM.out _).mono ?_
  rintro e w1 ⟨⟨g, rfl⟩, hb1⟩
  go_wp2_with fail
  refine (HV.out _ _ _).mono ?_
  rintro e w2 ⟨he, hb2⟩
  cases (show e = .returned .nilIface from he)
  go_wp2
  go_ret
  refine ⟨rfl, ?_⟩
  repeat' (first | (with_reducible exact bl_refl _) | (with_reducible assumption) | (with_reducible apply bl_al) | (with_reducible apply bl_dr) | (with_reducible refine bl_st ?_ ?_ _) | (with_reducible refine bl_tr ?_ (by with_reducible assumption)) | (first | (with_reducible exact Nat.le_refl _) | (with_reducible assumption) | omega | (simp; omega) | (simp; done)))
set_option maxRecDepth 100000 in
theorem mlValid_any (k : Nat) (hk : k < 4) (S : Value) (B : Option Addr) (ls : List (List Nat)) (n d : Nat) (w : World) (hn : ls.length = n) (hr : rdKL w k B ls) (hl : n ≤ 65536) (hX : ∀ X ∈ ls, X.length = X.length / wid k * wid k ∧ X.length ≤ 65536) :
    Calls Try.prog 45 #[.agg #[.int .i64 5, .int .i64 k, S, .slice B n d]] w fun e w' => e = .returned (.bool (ls.all fun X => LV k X (X.length / wid k))) ∧ Below w.heap.size w w' := by
  have HR : Hid (∀ W, Below w.heap.size w W → rdKL W k B ls) := fun W hb h0 => by
    obtain ⟨b, off, e, hlt, hc⟩ := hr h0
    refine ⟨b, off, e, Nat.lt_of_lt_of_le hlt hb.size, fun i X hi => ?_⟩
    obtain ⟨c0, c1, c3, A, c, c2, hrd⟩ := hc i X hi
    exact ⟨(bl_rc hb hlt _).trans c0, (bl_rc hb hlt _).trans c1, (bl_rc hb hlt _).trans c3, A, c, (bl_rc hb hlt _).trans c2, rd1_tr hrd hb⟩
  have HM : Hid (∀ W, Below w.heap.size w W → Calls Try.prog 88 #[.agg #[.int .i64 5, .int .i64 k, S, .slice B n d]] W fun e w' => (∃ D cd, e = .returned (.agg #[.slice D n cd, .int .u8 k]) ∧ rdM w' 0 k D ls) ∧ Below W.heap.size W w') := fun W hb => by
    rcases Nat.eq_zero_or_pos n with h0 | h0
    · subst h0
      obtain rfl : ls = [] := List.eq_nil_of_length_eq_zero hn
      refine (multiLine_none k hk S B d W).mono ?_
      rintro e w' ⟨⟨g, rfl⟩, hb'⟩
      exact ⟨⟨_, _, rfl, [], goodC_nil _ _, fun i X h => by simp at h, fun h => by simp at h⟩, hb'⟩
    · refine (multiLine_some k hk S B ls n d W hn h0 (HR.out W hb) hl hX).mono ?_
      rintro e w' ⟨D, cd, rfl, ⟨cs, h1, _, h3⟩, hb'⟩
      refine ⟨⟨D, cd, rfl, cs, h1, fun i X _ _ A m c _ b o _ => Nat.zero_le _, fun hl => ?_⟩, hb'⟩
      obtain ⟨b, e, _, h5, h6⟩ := h3 hl
      exact ⟨b, e, Nat.zero_le _, h5, h6⟩
  have HV := Lib.hid fun P c W h => mlsValid_any k 0 hk P ls n c k W hn h hl hX
  clear hn hr hX
  cases hv : (ls.all fun X => LV k X (X.length / wid k))
  · rw [hv] at HV
    clear hv
    go_enter Try.func45, Try.ntmps45
    go_wp2_with fail
    refine (HM.out _ (bl_al (bl_refl _) _)).mono ?_
    rintro e w1 ⟨⟨D, cd, rfl, hM⟩, hb1⟩
    go_wp2_with fail
    refine (HV.out _ _ _ hM).mono ?_
    rintro e w2 ⟨⟨t, v, rfl⟩, hb2⟩
    go_wp2
    go_ret
    refine ⟨rfl, ?_⟩
    repeat' (first | (with_reducible exact bl_refl _) | (with_reducible assumption) | (with_reducible apply bl_al) | (with_reducible apply bl_dr) | (with_reducible refine bl_st ?_ ?_ _) | (with_reducible refine bl_tr ?_ (by with_reducible assumption)) | (first | (with_reducible exact Nat.le_refl _) | (with_reducible assumption) | omega | (simp; omega) | (simp; done)))
  · rw [hv] at HV
    clear hv
    go_enter Try.func45, Try.ntmps45
    go_wp2_with fail
    refine (HM.out _ (bl_al (bl_refl _) _)).mono ?_
    rintro e w1 ⟨⟨D, cd, rfl, hM⟩, hb1⟩
    go_wp2_with fail
    refine (HV.out _ _ _ hM).mono ?_
    rintro e w2 ⟨he, hb2⟩
    cases (show e = .returned .nilIface from he)
    go_wp2
    go_ret
    refine ⟨rfl, ?_⟩
    repeat' (first | (with_reducible exact bl_refl _) | (with_reducible assumption) | (with_reducible apply bl_al) | (with_reducible apply bl_dr) | (with_reducible refine bl_st ?_ ?_ _) | (with_reducible refine bl_tr ?_ (by with_reducible assumption)) | (first | (with_reducible exact Nat.le_refl _) | (with_reducible assumption) | omega | (simp; omega) | (simp; done)))
end Go.Proofs.Ytbigadbnijpcjaa
