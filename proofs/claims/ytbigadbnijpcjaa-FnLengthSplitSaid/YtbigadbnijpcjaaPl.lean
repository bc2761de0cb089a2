/-
  Contracts: places with whole coordinates: formedBelow, formed, walk of a line; GeomOf, figure, lineString of a line.
-/
import Derived.Test.YtbigadbnijpcjaaPs
import Derived.Test.YtbigadbnijpcjaaRoot
namespace Go.Proofs.Ytbigadbnijpcjaa
open Go.RowKit Fl
/-- Places lie at A, two cells each. -/
def rdPl (w : World) (A : Option Addr) (l : List (Int × Int)) : Prop := 0 < l.length → ∃ b off, A = some ⟨b, off, none⟩ ∧ b < w.heap.size ∧ ∀ (i : Nat) (t : Int × Int), l[i]? = some t →
  w.cell? ⟨b, off + i * 2, none⟩ = some (.int .i64 t.1) ∧ w.cell? ⟨b, off + i * 2 + 1, none⟩ = some (.int .i64 t.2)
theorem rdPl_tr {w w1 : World} {A : Option Addr} {l : List (Int × Int)} (h : rdPl w A l) (hb : Below w.heap.size w w1) : rdPl w1 A l := fun hl => by
  obtain ⟨b, off, e, hlt, hc⟩ := h hl
  refine ⟨b, off, e, Nat.lt_of_lt_of_le hlt hb.size, fun i t ht => ?_⟩
  obtain ⟨h0, h1⟩ := hc i t ht
  exact ⟨(bl_rc hb hlt _).trans h0, (bl_rc hb hlt _).trans h1⟩
def okPl (M : Nat) (p : Int × Int) : Bool := !(decide (min p.1 p.2 < -(M : Int)) || decide ((M : Int) < max p.1 p.2))
theorem okPl_bound {M : Nat} {p : Int × Int} : okPl M p = true ↔ bound M p := by
  unfold okPl bound
  simp only [Bool.not_eq_true', Bool.or_eq_false_iff, decide_eq_false_iff_not]
  omega
set_option maxRecDepth 100000 in
theorem formedBelow_line (A B : Option Addr) (l : List (Int × Int)) (n c d M : Nat) (dp : Nat) (w : World) (hn : l.length = n) (hr : rdPl w A l) (hl : n ≤ 2147483647) (hM : M ≤ 100000000) :
    Calls Try.prog 94 #[.agg #[.int .i64 2, .slice A n c, .slice B 0 d], .int .i64 M, .int .i64 dp] w fun e w' => e = .returned (.bool (l.all (okPl M))) ∧ Below w.heap.size w w' := by
  have HN := Lib.hid hn
  clear hn
  go_enter Try.func94, Try.ntmps94
  go_wp2
  go_loopw [17, 8] (fun i _ wr => ∃ k : Nat, k ≤ n ∧ i = .int .i64 k ∧ (l.take k).all (okPl M) = true ∧ Below w.heap.size w wr ∧ Blk wr w.heap.size 69 #[.int .i64 2, .slice A n c, .slice B 0 d]) (fun i _ _ => n - (intOf i).toNat)
  case atStart =>
    refine ⟨0, Nat.zero_le _, rfl, rfl, ?_, blk_new _ _ _⟩
    repeat' (first | (with_reducible exact bl_refl _) | (with_reducible assumption) | (with_reducible apply bl_al) | (with_reducible apply bl_dr) | (with_reducible refine bl_st ?_ ?_ _) | (with_reducible refine bl_tr ?_ (by with_reducible assumption)) | (first | (with_reducible exact Nat.le_refl _) | (with_reducible assumption) | omega | (simp; omega) | (simp; done)))
  case round =>
    obtain ⟨k, hk, rfl, hall, hbw, hB⟩ := hrel
    have HA := Lib.hid hall
    clear hall
    have b0 := (blk_cell hB 0).trans (rfl : _ = some (Value.int .i64 2))
    have b1 := (blk_cell hB 1).trans (rfl : _ = some (Value.slice A n c))
    have b2 := (blk_cell hB 2).trans (rfl : _ = some (Value.slice B 0 d))
    by_cases hlt : k < n
    · obtain ⟨t, et⟩ : ∃ t, l[k]? = some t := ⟨_, List.getElem?_eq_getElem (by have := HN.out; omega)⟩
      obtain ⟨b, off, rfl, hbl, hc⟩ := rdPl_tr hr hbw (by have := HN.out; omega)
      obtain ⟨c0, c1⟩ := hc k t et
      have ET := Lib.hid et
      have hsz := hbw.size
      clear hc hr et
      obtain ⟨x, y⟩ := t
      simp only at c0 c1
      have hF : ¬ bound M (x, y) → Hid (l.all (okPl M) = false) := fun h => by
        show l.all (okPl M) = false
        cases e : l.all (okPl M)
        · rfl
        · exact absurd (okPl_bound.1 (List.all_eq_true.1 e _ (List.mem_of_getElem? ET.out))) h
      have hT : bound M (x, y) → Hid ((l.take (k + 1)).all (okPl M) = true) := fun h => by
        show (l.take (k + 1)).all (okPl M) = true
        rw [List.take_add_one, ET.out, List.all_append, HA.out]
        simp [okPl_bound.2 h]
      have HF := Lib.hid hF
      have HT := Lib.hid hT
      have hbe : bound M (x, y) ↔ (-(M : Int) ≤ x ∧ x ≤ M) ∧ (-(M : Int) ≤ y ∧ y ≤ M) := by unfold bound; simp only; omega
      have HE := Lib.hid hbe
      clear hF hT hbe
      go_wp2
      all_goals first
        | (go_ret
           refine ⟨?_, ?_⟩
           · rw [(HF.out (fun h => by have := HE.out.1 h; omega)).out]; rfl
           · repeat' (first | (with_reducible exact bl_refl _) | (with_reducible assumption) | (with_reducible apply bl_al) | (with_reducible apply bl_dr) | (with_reducible refine bl_st ?_ ?_ _) | (with_reducible refine bl_tr ?_ (by with_reducible assumption)) | (first | (with_reducible exact Nat.le_refl _) | (with_reducible assumption) | omega | (simp; omega) | (simp; done))))
        | (go_roundw
           case rel => exact ⟨k + 1, by omega, by go_num, (HT.out (HE.out.2 (by omega))).out, by repeat' (first | (with_reducible exact bl_refl _) | (with_reducible assumption) | (with_reducible apply bl_al) | (with_reducible apply bl_dr) | (with_reducible refine bl_st ?_ ?_ _) | (with_reducible refine bl_tr ?_ (by with_reducible assumption)) | (first | (with_reducible exact Nat.le_refl _) | (with_reducible assumption) | omega | (simp; omega) | (simp; done))), blk_al hB _⟩
           case measure => simp [intOf]; omega)
    · obtain rfl : k = n := by omega
      have e1 : l.take k = l := List.take_of_length_le (by have := HN.out; omega)
      rw [e1] at HA
      go_wp2
      go_ret
      refine ⟨?_, hbw⟩
      rw [HA.out]; rfl
set_option maxRecDepth 100000 in
theorem formed_line (A B : Option Addr) (l : List (Int × Int)) (n c d M : Nat) (w : World) (hn : l.length = n) (hr : rdPl w A l) (hl : n ≤ 2147483647) (hM : M ≤ 100000000) :
    Calls Try.prog 51 #[.agg #[.int .i64 2, .slice A n c, .slice B 0 d], .int .i64 M] w fun e w' => e = .returned (.bool (l.all (okPl M))) ∧ Below w.heap.size w w' := by
  have HF := Lib.hid fun W h => formedBelow_line A B l n c d M 100 W hn h hl hM
  have HR : Hid (∀ W, Below w.heap.size w W → rdPl W A l) := fun W hb => rdPl_tr hr hb
  clear hn hr
  generalize l.all (okPl M) = r at *
  go_enter Try.func51, Try.ntmps51
  go_wp2_with fail
  refine (HF.out _ (HR.out _ (by repeat' (first | (with_reducible exact bl_refl _) | (with_reducible assumption) | (with_reducible apply bl_al) | (with_reducible apply bl_dr) | (with_reducible refine bl_st ?_ ?_ _) | (with_reducible refine bl_tr ?_ (by with_reducible assumption)) | (first | (with_reducible exact Nat.le_refl _) | (with_reducible assumption) | omega | (simp; omega) | (simp; done)))))).mono ?_
  rintro e w1 ⟨rfl, hb1⟩
  go_wp2
  go_ret
  refine ⟨rfl, ?_⟩
  repeat' (first | (with_reducible exact bl_refl _) | (with_reducible assumption) | (with_reducible apply bl_al) | (with_reducible apply bl_dr) | (with_reducible refine bl_st ?_ ?_ _) | (with_reducible refine bl_tr ?_ (by with_reducible assumption)) | (first | (with_reducible exact Nat.le_refl _) | (with_reducible assumption) | omega | (simp; omega) | (simp; done)))
set_option maxRecDepth 100000 in
theorem walk_any (A : Option Addr) (l : List (Int × Int)) (n c L M : Nat) (w : World) (hn : l.length = n) (hr : rdPl w A l) (hl : n ≤ 2147483647) (hM : M ≤ 100000000) :
    Calls Try.prog 19 #[.slice A n c, .int .i64 L, .int .i64 M] w fun e w' => e = .returned (.bool (decide (L ≤ n) && decide (n ≤ 100) && l.all (okPl M))) ∧ Below w.heap.size w w' := by
  have HF := Lib.hid fun W h => formed_line A none l n c 0 M W hn h hl hM
  have HR : Hid (∀ W, Below w.heap.size w W → rdPl W A l) := fun W hb => rdPl_tr hr hb
  clear hn hr
  generalize l.all (okPl M) = r at *
  by_cases h1 : L ≤ n
  · by_cases h2 : n ≤ 100
    · have e : (decide (L ≤ n) && decide (n ≤ 100) && r) = r := by simp [h1, h2]
      rw [e]
      clear e
      go_enter Try.func19, Try.ntmps19
      go_wp2_with fail
      refine (HF.out _ (HR.out _ (by repeat' (first | (with_reducible exact bl_refl _) | (with_reducible assumption) | (with_reducible apply bl_al) | (with_reducible apply bl_dr) | (with_reducible refine bl_st ?_ ?_ _) | (with_reducible refine bl_tr ?_ (by with_reducible assumption)) | (first | (with_reducible exact Nat.le_refl _) | (with_reducible assumption) | omega | (simp; omega) | (simp; done)))))).mono ?_
      rintro e w1 ⟨rfl, hb1⟩
      go_wp2
      go_ret
      refine ⟨rfl, ?_⟩
      repeat' (first | (with_reducible exact bl_refl _) | (with_reducible assumption) | (with_reducible apply bl_al) | (with_reducible apply bl_dr) | (with_reducible refine bl_st ?_ ?_ _) | (with_reducible refine bl_tr ?_ (by with_reducible assumption)) | (first | (with_reducible exact Nat.le_refl _) | (with_reducible assumption) | omega | (simp; omega) | (simp; done)))
    · have e : (decide (L ≤ n) && decide (n ≤ 100) && r) = false := by simp [h2]
      rw [e]
      clear e HF HR
      go_enter Try.func19, Try.ntmps19
      go_wp2
      go_ret
      refine ⟨rfl, ?_⟩
      repeat' (first | (with_reducible exact bl_refl _) | (with_reducible assumption) | (with_reducible apply bl_al) | (with_reducible apply bl_dr) | (with_reducible refine bl_st ?_ ?_ _) | (with_reducible refine bl_tr ?_ (by with_reducible assumption)) | (first | (with_reducible exact Nat.le_refl _) | (with_reducible assumption) | omega | (simp; omega) | (simp; done)))
  · have e : (decide (L ≤ n) && decide (n ≤ 100) && r) = false := by simp [h1]
    rw [e]
    clear e HF HR
    go_enter Try.func19, Try.ntmps19
    go_wp2
    go_ret
    refine ⟨rfl, ?_⟩
    repeat' (first | (with_reducible exact bl_refl _) | (with_reducible assumption) | (with_reducible apply bl_al) | (with_reducible apply bl_dr) | (with_reducible refine bl_st ?_ ?_ _) | (with_reducible refine bl_tr ?_ (by with_reducible assumption)) | (first | (with_reducible exact Nat.le_refl _) | (with_reducible assumption) | omega | (simp; omega) | (simp; done)))
end Go.Proofs.Ytbigadbnijpcjaa
