/-
  Contract: impl.bulk: items as the index takes them.
-/
import Derived.Test.YtomhegagdpaieaaRt
namespace Go.Proofs.Ytomhegagdpaieaa
open Go.RowKit Fl
def itIn (cs : Array Value) (l : List It) : Prop := ∀ (i : Nat) (t : It), l[i]? = some t →
  cs[i * 5]? = some (.float .f64 t.a) ∧ cs[i * 5 + 1]? = some (.float .f64 t.b) ∧ cs[i * 5 + 2]? = some (.float .f64 t.c) ∧ cs[i * 5 + 3]? = some (.float .f64 t.d) ∧ cs[i * 5 + 4]? = some (.int .i64 t.id)
theorem set5 (cs : Array Value) (o : Nat) (v0 v1 v2 v3 v4 : Value) (h : o + 4 < cs.size) : let ds := ((((cs.setIfInBounds o v0).setIfInBounds (o + 1) v1).setIfInBounds (o + 2) v2).setIfInBounds (o + 3) v3).setIfInBounds (o + 4) v4
    ds[o]? = some v0 ∧ ds[o + 1]? = some v1 ∧ ds[o + 2]? = some v2 ∧ ds[o + 3]? = some v3 ∧ ds[o + 4]? = some v4 ∧ ∀ j, (j < o ∨ o + 4 < j) → ds[j]? = cs[j]? := by
  intro ds
  refine ⟨?_, ?_, ?_, ?_, ?_, ?_⟩ <;> simp only [ds, Array.getElem?_setIfInBounds] <;> (try intro j hj) <;> simp <;> (try omega)
  rw [if_neg (by omega), if_neg (by omega), if_neg (by omega), if_neg (by omega), if_neg (by omega)]
theorem itIn_snoc {cs : Array Value} {l : List It} {k : Nat} {t : It} (ht : l[k]? = some t) (hs : k * 5 + 4 < cs.size) (h : itIn cs (l.take k)) :
    itIn (((((cs.setIfInBounds (k * 5) (.float .f64 t.a)).setIfInBounds (k * 5 + 1) (.float .f64 t.b)).setIfInBounds (k * 5 + 2) (.float .f64 t.c)).setIfInBounds (k * 5 + 3) (.float .f64 t.d)).setIfInBounds (k * 5 + 4) (.int .i64 t.id)) (l.take (k + 1)) := by
  obtain ⟨s0, s1, s2, s3, s4, sj⟩ := set5 cs (k * 5) (.float .f64 t.a) (.float .f64 t.b) (.float .f64 t.c) (.float .f64 t.d) (.int .i64 t.id) hs
  intro i q hq
  have hi : i < k + 1 := by
    have := (List.getElem?_eq_some_iff.1 hq).1
    simp at this; omega
  by_cases e : i = k
  · subst e
    have : q = t := by
      rw [List.getElem?_take_of_lt (by omega), ht] at hq; exact (Option.some.inj hq).symm
    subst this
    exact ⟨s0, s1, s2, s3, s4⟩
  · have hq' : (l.take k)[i]? = some q := by
      rw [List.getElem?_take_of_lt (by omega)] at hq ⊢; exact hq
    obtain ⟨h0, h1, h2, h3, h4⟩ := h i q hq'
    exact ⟨(sj _ (by omega)).trans h0, (sj _ (by omega)).trans h1, (sj _ (by omega)).trans h2, (sj _ (by omega)).trans h3, (sj _ (by omega)).trans h4⟩
theorem info_bulk : (Try.prog.info? 109).map (fun i => (i.zero, i.size, i.bytes)) = some (some (.agg #[.float .f64 0, .float .f64 0, .float .f64 0, .float .f64 0, .int .i64 0]), 5, 40) := by kernel_rfl
theorem make_bulk (n : Nat) (hn : n ≤ 65536) (W : World) :
    (Instr.makeSlice 76 (.int .i64 (n : Int)) (.int .i64 (n : Int))).run Try.prog W = .ok (.slice (some ⟨W.heap.size, 0, none⟩) n n) (W.alloc (.cells (madeCells #[.float .f64 0, .float .f64 0, .float .f64 0, .float .f64 0, .int .i64 0] (n * 5)) 109)) := by
  obtain ⟨i0, hi, hz0, hz1, hz2⟩ := info_parts info_bulk
  have := run_make W 76 109 i0 _ Try.underlying76 hi hz0 .i64 .i64 (n : Int) (n : Int) (by omega) (by omega) (by rw [hz2]; omega) (by omega)
  rw [hz1] at this
  simp only [Int.toNat_natCast] at this
  exact this
set_option maxHeartbeats 400000 in
theorem bulk_any (A : Option Addr) (cap n : Nat) (l : List It) (w : World) (hn : l.length = n) (h : rdIt w A l) (hl : n ≤ 65536) :
    Calls Try.prog 38 #[.slice A n cap] w fun e w' => ∃ g, e = .returned (.slice (some ⟨g, 0, none⟩) n n) ∧ rdIt w' (some ⟨g, 0, none⟩) l ∧ Below w.heap.size w w' := by
  have hmk := make_bulk n hl
  have HN := Lib.hid hn
  clear hn
  go_enter Try.func38, Try.ntmps38
  go_wp2
  clear hmk
  go_loopw [11, 4, 5] (fun i _ _ wr => ∃ k : Nat, k ≤ n ∧ i = .int .i64 k ∧ Below w.heap.size w wr ∧ ∃ cs, Blk wr w.heap.size 109 cs ∧ cs.size = n * 5 ∧ itIn cs (l.take k)) (fun i _ _ _ => n - (intOf i).toNat)
  case atStart =>
    refine ⟨0, Nat.zero_le _, rfl, ?_, _, blk_new _ _ _, size_madeCells _ _, ?_⟩
    · repeat' (first | (with_reducible exact bl_refl _) | (with_reducible assumption) | (with_reducible apply bl_al) | (with_reducible apply bl_dr) | (with_reducible refine bl_st ?_ ?_ _) | (with_reducible refine bl_tr ?_ (by with_reducible assumption)) | (first | (with_reducible exact Nat.le_refl _) | (with_reducible assumption) | omega | (simp; omega) | (simp; done)))
    · intro i p hp; simp at hp
  case round =>
    obtain ⟨k, hk, rfl, hbw, cs, hB, hcs, hin⟩ := hrel
    by_cases hlt : k < n
    · obtain ⟨t, et⟩ : ∃ t, l[k]? = some t := ⟨_, List.getElem?_eq_getElem (by have := HN.out; omega)⟩
      obtain ⟨b, off, rfl, hbl, hc⟩ := rdIt_tr h hbw (by have := HN.out; omega)
      obtain ⟨c0, c1, c2, c3, c4⟩ := hc k t et
      have HS := Lib.hid (itIn_snoc et (by omega) hin)
      have HC := Lib.hid hcs
      have hlc : k * 5 + 4 < cs.size := by omega
      have hsz := hbw.size
      have hwr : w.heap.size < wr.heap.size := blk_lt hB
      clear et hc hin hcs h
      go_wp2_with fail
      have hz : wr.heap.size < wr.heap.size + 1 := by omega
      refine wp_region_calm_tail 9 (by kernel_rfl) (by kernel_rfl) ?_; simp only [List.take_succ_cons, List.take_zero, List.drop_succ_cons, List.drop_zero]
      repeat (go_big_quiet_step ((first | (go_at_call 60; with_reducible exact calm_of (box_any _ _ _ _ _)))))
      refine wpQuiet_nil ?_; intro w1 hb1
      have hB1 := blk_tr (blk_al hB (.cells #[.float .f64 t.a, .float .f64 t.b, .float .f64 t.c, .float .f64 t.d, .int .i64 t.id] 73)) hb1
      have hf := fun i => blk_frozen hB1 i
      have k0 : w1.cell? ⟨w.heap.size, k * 5, none⟩ = some (cs[k * 5]'(by omega)) := by rw [blk_cell hB1]; exact Array.getElem?_eq_getElem _
      have k1 : w1.cell? ⟨w.heap.size, k * 5 + 1, none⟩ = some (cs[k * 5 + 1]'(by omega)) := by rw [blk_cell hB1]; exact Array.getElem?_eq_getElem _
      have k2 : w1.cell? ⟨w.heap.size, k * 5 + 2, none⟩ = some (cs[k * 5 + 2]'(by omega)) := by rw [blk_cell hB1]; exact Array.getElem?_eq_getElem _
      have k3 : w1.cell? ⟨w.heap.size, k * 5 + 3, none⟩ = some (cs[k * 5 + 3]'(by omega)) := by rw [blk_cell hB1]; exact Array.getElem?_eq_getElem _
      have k4 : w1.cell? ⟨w.heap.size, k * 5 + 4, none⟩ = some (cs[k * 5 + 4]'(by omega)) := by rw [blk_cell hB1]; exact Array.getElem?_eq_getElem _
      go_wp2
      go_roundw
      case rel =>
        refine ⟨k + 1, by omega, by go_num, ?_, _, blk_set (blk_set (blk_set (blk_set (blk_set hB1 _ _) _ _) _ _) _ _) _ _, ?_, HS.out⟩
        · repeat' (first | (with_reducible exact bl_refl _) | (with_reducible assumption) | (with_reducible apply bl_al) | (with_reducible apply bl_dr) | (with_reducible refine bl_st ?_ ?_ _) | (with_reducible refine bl_tr ?_ (by with_reducible assumption)) | (first | (with_reducible exact Nat.le_refl _) | (with_reducible assumption) | omega | (simp; omega) | (simp; done)))
        · simp; exact HC.out
      case measure => simp [intOf]; omega
    · obtain rfl : k = n := by omega
      have e1 : l.take k = l := List.take_of_length_le (Nat.le_of_eq HN.out)
      rw [e1] at hin
      go_wp2
      go_ret
      refine ⟨_, rfl, fun _ => ⟨_, 0, rfl, blk_lt hB, fun i t ht => ?_⟩, hbw⟩
      obtain ⟨h0, h1, h2, h3, h4⟩ := hin i t ht
      simp only [Nat.zero_add]
      exact ⟨(blk_cell hB _).trans h0, (blk_cell hB _).trans h1, (blk_cell hB _).trans h2, (blk_cell hB _).trans h3, (blk_cell hB _).trans h4⟩
end Go.Proofs.Ytomhegagdpaieaa
