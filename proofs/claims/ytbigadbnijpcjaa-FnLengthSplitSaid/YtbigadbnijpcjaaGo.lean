/-
  Contracts: GeomOf, figure, lineString of a line with whole places.
-/
import Derived.Test.YtbigadbnijpcjaaPl
import Derived.Test.YtbigadbnijpcjaaGeo
namespace Go.Proofs.Ytbigadbnijpcjaa
open Go.RowKit Fl
/-- The numbers of places. -/
def nums : List (Int × Int) → List Nat
  | [] => []
  | p :: ps => fz p.1 :: fz p.2 :: nums ps
theorem nums_length : ∀ l, (nums l).length = l.length * 2
  | [] => rfl
  | p :: ps => by simp [nums, nums_length ps]; omega
theorem nums_append : ∀ a b, nums (a ++ b) = nums a ++ nums b
  | [], b => rfl
  | p :: a, b => by simp [nums, nums_append a b]
theorem nums_snoc {l : List (Int × Int)} {k : Nat} {x y : Int} (h : l[k]? = some (x, y)) : nums (l.take (k + 1)) = nums (l.take k) ++ [fz x, fz y] := by
  rw [List.take_add_one, h, nums_append]; rfl
def zGeom : Array Value := #[.int .i64 0, .int .i64 0, .slice none 0 0, .slice none 0 0]
set_option maxRecDepth 100000 in
theorem geomOf_line (A B : Option Addr) (l : List (Int × Int)) (n c d : Nat) (w : World) (hn : l.length = n) (hr : rdPl w A l) (hl : n ≤ 65536) :
    Calls Try.prog 82 #[.agg #[.int .i64 2, .slice A n c, .slice B 0 d]] w fun e w' => ∃ D cd, e = .returned (.agg #[.int .i64 2, .int .i64 0, .slice D (n * 2) cd, .slice none 0 0]) ∧ rd1 (.float .f64) w' D (nums l) ∧ (∀ b o, D = some ⟨b, o, none⟩ → w.heap.size + 1 + 1 + 1 ≤ b) ∧ Below w.heap.size w w' := by
  have HN := Lib.hid hn
  clear hn
  go_enter Try.func82, Try.ntmps82
  go_wp2
  go_loopw [14, 5] (fun i _ wr => ∃ (k : Nat) (D : Option Addr) (cd : Nat), k ≤ n ∧ i = .int .i64 k ∧ Below w.heap.size w wr ∧ w.heap.size + 1 + 1 + 1 ≤ wr.heap.size ∧ Blk wr w.heap.size 69 #[.int .i64 2, .slice A n c, .slice B 0 d] ∧ Blk wr (w.heap.size + 1) 25 zGeom ∧
    Blk wr (w.heap.size + 1 + 1) 25 #[.int .i64 2, .int .i64 0, .slice D (k * 2) cd, .slice none 0 0] ∧ wr.ownsRow (w.heap.size + 1 + 1 + 1) 33 1 (.slice D (k * 2) cd) (k * 2) (fls (nums (l.take k)))) (fun i _ _ => n - (intOf i).toNat)
  case atStart =>
    refine ⟨0, none, 0, Nat.zero_le _, rfl, ?_, by simp, blk_al (blk_al (blk_new _ _ _) _) _, blk_al (blk_at _ _ _ (by simp)) _, blk_at _ _ _ (by simp), own_nil _ _ _ _⟩
    repeat' (first | (with_reducible exact bl_refl _) | (with_reducible assumption) | (with_reducible apply bl_al) | (with_reducible apply bl_dr) | (with_reducible refine bl_st ?_ ?_ _) | (with_reducible refine bl_tr ?_ (by with_reducible assumption)) | (first | (with_reducible exact Nat.le_refl _) | (with_reducible assumption) | omega | (simp; omega) | (simp; done)))
  case round =>
    obtain ⟨k, D, cd, hk, rfl, hbw, hsz, hS, hZ, hG, hown⟩ := hrel
    by_cases hlt : k < n
    · obtain ⟨t, et⟩ : ∃ t, l[k]? = some t := ⟨_, List.getElem?_eq_getElem (by have := HN.out; omega)⟩
      obtain ⟨b, off, rfl, hb, hx⟩ := hr (by have := HN.out; omega)
      obtain ⟨x, y⟩ := t
      obtain ⟨c0, c1⟩ := hx k _ et
      simp only at c0 c1
      have d0 := (bl_rc hbw hb _).trans c0
      have d1 := (bl_rc hbw hb _).trans c1
      have HS := Lib.hid (nums_snoc et)
      clear c0 c1 et hx hr
      have g0 := (blk_cell hG 2).trans (rfl : _ = some (Value.slice D (k * 2) cd))
      obtain ⟨D', d', w', hr, hown', hbw', hk', _, hlt'⟩ := app_new (P := Try.prog) (t := 22) (ty := 22) (w := wr.alloc (.cells #[.int .i64 x, .int .i64 y] 45)) elem_f64 #[.float .f64 (fz x), .float .f64 (fz y)] (own_tr hown (bl_al (bl_refl _) _)) (m := 2) (g := wr.heap.size + 1) rfl (fls_one [fz x, fz y]) (by simp) (by simp; omega) (by unfold maxLen; omega) (by omega)
      have hS' := hk' _ _ _ (blk_al hS _) (fun e => by have := (own_lt hown e).1; omega)
      have hZ' := hk' _ _ _ (blk_al hZ _) (fun e => by have := (own_lt hown e).1; omega)
      have hG' := hk' _ _ _ (blk_al hG _) (fun e => by have := (own_lt hown e).1; omega)
      have hw' : Below w.heap.size w w' := (bl_al hbw _).trans (hbw'.mono (by omega))
      clear hk' hown hbw hbw'
      simp at hlt'
      have hne : ¬ w.heap.size + 1 + 1 = wr.heap.size := by omega
      have hlt2 : w.heap.size + 1 + 1 < w'.heap.size := by omega
      have hlt3 : w.heap.size + 1 + 1 < wr.heap.size := by omega
      have gf := fun i => blk_frozen hG' i
      have gc := (blk_cell hG' 2).trans (rfl : _ = some (Value.slice D (k * 2) cd))
      go_wp2_with (first | (at_builtin; refine list_append _ _ _ rfl rfl rfl rfl hr ?_))
      go_roundw
      case rel =>
        refine ⟨k + 1, D', d', by omega, by go_num, ?_, by (try simp); omega, ?_, ?_, ?_, ?_⟩
        · repeat' (first | (with_reducible exact bl_refl _) | (with_reducible assumption) | (with_reducible apply bl_al) | (with_reducible apply bl_dr) | (with_reducible refine bl_st ?_ ?_ _) | (with_reducible refine bl_tr ?_ (by with_reducible assumption)) | (first | (with_reducible exact Nat.le_refl _) | (with_reducible assumption) | omega | (simp; omega) | (simp; done)))
        · exact blk_far hS' (by simp; omega) _
        · exact blk_far hZ' (by simp) _
        · exact blk_eq (blk_set hG' _ _) (by simp [show (k + 1) * 2 = k * 2 + 2 by omega])
        · rw [HS.out, show (k + 1) * 2 = k * 2 + 2 by omega]
          exact own_far (by simpa [fls] using hown') (fun e => by have := (own_lt hown' e).1; simp at this; omega) _
      case measure => simp [intOf]; omega
    · obtain rfl : k = n := by omega
      have e1 : l.take k = l := List.take_of_length_le (by have := HN.out; omega)
      rw [e1] at hown
      have HR : Hid (rd1 (.float .f64) wr D (nums l)) := rd1_own hown
      have HA : Hid (∀ b o, D = some ⟨b, o, none⟩ → w.heap.size + 1 + 1 + 1 ≤ b) := fun b o e => (own_lt hown (g := b) (by rw [e]; rfl)).1
      have HA' : Hid (∀ b o, D = some ⟨b, o, none⟩ → b ≠ w.heap.size + 1) := fun b o e => by have := HA.out b o e; omega
      have b2 := (blk_cell hS 2).trans (rfl : _ = some (Value.slice B 0 d))
      have g0 := (blk_cell hG 0).trans (rfl : _ = some (Value.int .i64 2))
      have g1 := (blk_cell hG 1).trans (rfl : _ = some (Value.int .i64 0))
      have g2 := (blk_cell hG 2).trans (rfl : _ = some (Value.slice D (k * 2) cd))
      have g3 := (blk_cell hG 3).trans (rfl : _ = some (Value.slice none 0 0))
      clear hown e1
      go_wp2
      go_loopw [33, 7] (fun i _ wz => i = .int .i64 0 ∧ wz = wr) (fun _ _ _ => 0)
      case atStart => exact ⟨rfl, rfl⟩
      case round =>
        obtain ⟨rfl, rfl⟩ := hrel
        have z0 := (blk_cell hZ 0).trans (rfl : _ = some (Value.int .i64 0))
        have z1 := (blk_cell hZ 1).trans (rfl : _ = some (Value.int .i64 0))
        have z2 := (blk_cell hZ 2).trans (rfl : _ = some (Value.slice none 0 0))
        have z3 := (blk_cell hZ 3).trans (rfl : _ = some (Value.slice none 0 0))
        have zf := fun i => blk_frozen hZ i
        have zl := blk_lt hZ
        go_wp2
        refine bodyPost_ret (v := .agg #[.int .i64 2, .int .i64 0, .slice D (k * 2) cd, .slice none 0 0]) (by simp [results, Try.results82, go_sem, *]) rfl ⟨D, cd, rfl, ?_, HA.out, ?_⟩
        · exact rd1_far (rd1_far (rd1_far (rd1_far HR.out _ HA'.out) _ HA'.out) _ HA'.out) _ HA'.out
        · repeat' (first | (with_reducible exact bl_refl _) | (with_reducible assumption) | (with_reducible apply bl_al) | (with_reducible apply bl_dr) | (with_reducible refine bl_st ?_ ?_ _) | (with_reducible refine bl_tr ?_ (by with_reducible assumption)) | (first | (with_reducible exact Nat.le_refl _) | (with_reducible assumption) | omega | (simp; omega) | (simp; done)))
set_option maxRecDepth 100000 in
theorem figure_line (A : Option Addr) (l : List (Int × Int)) (n c : Nat) (w : World) (hn : l.length = n) (hr : rdPl w A l) (hl : n ≤ 65536) :
    Calls Try.prog 36 #[.agg #[.int .i64 2, .slice A n c, .slice none 0 0]] w fun e w' => ∃ D cd, e = .returned (.agg #[.int .i64 2, .int .i64 0, .slice D (n * 2) cd, .slice none 0 0]) ∧ rd1 (.float .f64) w' D (nums l) ∧ (∀ b o, D = some ⟨b, o, none⟩ → w.heap.size + 1 ≤ b) ∧ Below w.heap.size w w' := by
  have HG := Lib.hid fun W h => geomOf_line A none l n c 0 W hn h hl
  have HR : Hid (∀ W, Below w.heap.size w W → rdPl W A l) := fun W hb => rdPl_tr hr hb
  clear hn hr
  go_enter Try.func36, Try.ntmps36
  go_wp2_with fail
  refine (HG.out _ (HR.out _ (by repeat' (first | (with_reducible exact bl_refl _) | (with_reducible assumption) | (with_reducible apply bl_al) | (with_reducible apply bl_dr) | (with_reducible refine bl_st ?_ ?_ _) | (with_reducible refine bl_tr ?_ (by with_reducible assumption)) | (first | (with_reducible exact Nat.le_refl _) | (with_reducible assumption) | omega | (simp; omega) | (simp; done)))))).mono ?_
  rintro e w1 ⟨D, cd, rfl, hr1, hD, hb1⟩
  have HB : Hid (∀ b o, D = some ⟨b, o, none⟩ → b ≠ w.heap.size + 1) := fun b o e => by have := hD b o e; simp at this; omega
  have B1 := blk_tr (blk_at (w.alloc (.cells #[.int .i64 2, .slice A n c, .slice none 0 0] 69)) 25 zGeom (b := w.heap.size + 1) (by simp)) hb1
  have r0 := (blk_cell B1 0).trans (rfl : _ = some (Value.int .i64 0))
  have r1 := (blk_cell B1 1).trans (rfl : _ = some (Value.int .i64 0))
  have r2 := (blk_cell B1 2).trans (rfl : _ = some (Value.slice none 0 0))
  have r3 := (blk_cell B1 3).trans (rfl : _ = some (Value.slice none 0 0))
  have fr := fun i => blk_frozen B1 i
  have hlt := blk_lt B1
  go_wp2
  refine bodyPost_ret (v := .agg #[.int .i64 2, .int .i64 0, .slice D (n * 2) cd, .slice none 0 0]) (by simp [results, Try.results36, go_sem, *]) rfl ⟨D, cd, rfl, ?_, ?_, ?_⟩
  · exact rd1_far (rd1_far (rd1_far (rd1_far hr1 _ HB.out) _ HB.out) _ HB.out) _ HB.out
  · exact fun b o e => by have := hD b o e; simp at this; omega
  · repeat' (first | (with_reducible exact bl_refl _) | (with_reducible assumption) | (with_reducible apply bl_al) | (with_reducible apply bl_dr) | (with_reducible refine bl_st ?_ ?_ _) | (with_reducible refine bl_tr ?_ (by with_reducible assumption)) | (first | (with_reducible exact Nat.le_refl _) | (with_reducible assumption) | omega | (simp; omega) | (simp; done)))
set_option maxRecDepth 100000 in
theorem lineString_any (A : Option Addr) (l : List (Int × Int)) (n c : Nat) (w : World) (hn : l.length = n) (hr : rdPl w A l) (hl : n ≤ 65536) :
    Calls Try.prog 21 #[.slice A n c] w fun e w' => ∃ D cd, e = .returned (.agg #[.int .i64 2, .int .i64 0, .slice D (n * 2) cd, .slice none 0 0]) ∧ rd1 (.float .f64) w' D (nums l) ∧ Below w.heap.size w w' := by
  have HG := Lib.hid fun W h => figure_line A l n c W hn h hl
  have HR : Hid (∀ W, Below w.heap.size w W → rdPl W A l) := fun W hb => rdPl_tr hr hb
  clear hn hr
  go_enter Try.func21, Try.ntmps21
  go_wp2_with fail
  refine (HG.out _ (HR.out _ (by repeat' (first | (with_reducible exact bl_refl _) | (with_reducible assumption) | (with_reducible apply bl_al) | (with_reducible apply bl_dr) | (with_reducible refine bl_st ?_ ?_ _) | (with_reducible refine bl_tr ?_ (by with_reducible assumption)) | (first | (with_reducible exact Nat.le_refl _) | (with_reducible assumption) | omega | (simp; omega) | (simp; done)))))).mono ?_
  rintro e w1 ⟨D, cd, rfl, hr1, hD, hb1⟩
  have HB : Hid (∀ b o, D = some ⟨b, o, none⟩ → b ≠ w.heap.size) := fun b o e => by have := hD b o e; simp at this; omega
  have B1 := blk_tr (blk_new w 25 zGeom) hb1
  have r0 := (blk_cell B1 0).trans (rfl : _ = some (Value.int .i64 0))
  have r1 := (blk_cell B1 1).trans (rfl : _ = some (Value.int .i64 0))
  have r2 := (blk_cell B1 2).trans (rfl : _ = some (Value.slice none 0 0))
  have r3 := (blk_cell B1 3).trans (rfl : _ = some (Value.slice none 0 0))
  have fr := fun i => blk_frozen B1 i
  have hlt := blk_lt B1
  go_wp2
  refine bodyPost_ret (v := .agg #[.int .i64 2, .int .i64 0, .slice D (n * 2) cd, .slice none 0 0]) (by simp [results, Try.results21, go_sem, *]) rfl ⟨D, cd, rfl, ?_, ?_⟩
  · exact rd1_far (rd1_far (rd1_far (rd1_far hr1 _ HB.out) _ HB.out) _ HB.out) _ HB.out
  · repeat' (first | (with_reducible exact bl_refl _) | (with_reducible assumption) | (with_reducible apply bl_al) | (with_reducible apply bl_dr) | (with_reducible refine bl_st ?_ ?_ _) | (with_reducible refine bl_tr ?_ (by with_reducible assumption)) | (first | (with_reducible exact Nat.le_refl _) | (with_reducible assumption) | omega | (simp; omega) | (simp; done)))
end Go.Proofs.Ytbigadbnijpcjaa
