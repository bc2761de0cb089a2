/-
  Contracts: rtree.itemsAreHorizontal, DoorHorizontal, impl.ItemsLevel.
-/
import Derived.Test.YtomhegagdpaieaaBk
import Derived.Test.YtomhegagdpaieaaLp
import Derived.Laws.FloatArith
namespace Go.Proofs.Ytomhegagdpaieaa
open Go.RowKit Fl
theorem run_sub {a b x : Nat} (h : Ieee.double.sub a b = some x) (t : TypeId) (W : World) : (binOp BinOp.sub t (.float .f64 a) (.float .f64 b)).run Try.prog W = .ok (.float .f64 x) W :=
  run_float_arith W BinOp.sub t FloatKind.f64 a b x h
def bxc (p : Nat × Nat × Nat × Nat) : Array Value := #[.float .f64 p.1, .float .f64 p.2.1, .float .f64 p.2.2.1, .float .f64 p.2.2.2]
theorem jn_snoc {l : List It} {k : Nat} {t : It} (h : l[k]? = some t) (p : Nat × Nat × Nat × Nat) : (l.take (k + 1)).foldl jn p = jn ((l.take k).foldl jn p) t := by
  have hk : k < l.length := (List.getElem?_eq_some_iff.1 h).1
  have hp : l[k] = t := by
    have := List.getElem?_eq_getElem hk
    rw [h] at this; exact (Option.some.inj this).symm
  rw [List.take_succ_eq_append_getElem hk, List.foldl_append, hp]; rfl
set_option maxRecDepth 100000 in
theorem horiz_any (A : Option Addr) (n : Nat) (t0 : It) (l : List It) (w : World) (hn : (t0 :: l).length = n) (h : rdIt w A (t0 :: l)) (hl : n ≤ 65536) (x y : Nat)
    (hx : Ieee.double.sub (l.foldl jn (t0.a, t0.b, t0.c, t0.d)).2.2.1 (l.foldl jn (t0.a, t0.b, t0.c, t0.d)).1 = some x) (hy : Ieee.double.sub (l.foldl jn (t0.a, t0.b, t0.c, t0.d)).2.2.2 (l.foldl jn (t0.a, t0.b, t0.c, t0.d)).2.1 = some y) :
    Calls Try.prog 59 #[.slice A n n] w fun e w' => e = .returned (.bool (fgt x y)) ∧ Below w.heap.size w w' := by
  have HN := Lib.hid hn
  have hn1 : 1 ≤ n := by rw [← hn]; simp
  obtain ⟨b, off, rfl, hb, hc⟩ := h (by simp)
  obtain ⟨c0, c1, c2, c3, c4⟩ := hc 0 t0 rfl
  have HC := Lib.hid hc
  have HX := Lib.hid hx
  have HY := Lib.hid hy
  simp only [Nat.zero_mul, Nat.add_zero] at c0 c1 c2 c3 c4
  clear hn h hc hx hy
  by_cases h1 : n = 1
  · subst h1
    obtain rfl : l = [] := List.eq_nil_of_length_eq_zero (by have := HN.out; simpa using this)
    go_enter Try.func59, Try.ntmps59
    go_wp2
    clear c0 c1 c2 c3 c4
    go_loopw [13, 5] (fun i _ wr => i = .int .i64 0 ∧ Below w.heap.size w wr ∧ Blk wr w.heap.size 106 (bxc (t0.a, t0.b, t0.c, t0.d))) (fun i _ _ => 0)
    case atStart =>
      refine ⟨rfl, ?_, blk_at _ _ _ (by simp)⟩
      repeat' (first | (with_reducible exact bl_refl _) | (with_reducible assumption) | (with_reducible apply bl_al) | (with_reducible apply bl_dr) | (with_reducible refine bl_st ?_ ?_ _) | (with_reducible refine bl_tr ?_ (by with_reducible assumption)) | (first | (with_reducible exact Nat.le_refl _) | (with_reducible assumption) | omega | (simp; omega) | (simp; done)))
    case round =>
      obtain ⟨rfl, hbw, hB⟩ := hrel
      have e0 := (blk_cell hB 0).trans (rfl : _ = some (Value.float .f64 t0.a))
      have e1 := (blk_cell hB 1).trans (rfl : _ = some (Value.float .f64 t0.b))
      have e2 := (blk_cell hB 2).trans (rfl : _ = some (Value.float .f64 t0.c))
      have e3 := (blk_cell hB 3).trans (rfl : _ = some (Value.float .f64 t0.d))
      have hX := fun t W => run_sub HX.out t W
      have hY := fun t W => run_sub HY.out t W
      simp only [List.foldl_nil] at hX hY
      go_wp2
      go_ret
      exact ⟨rfl, hbw⟩
  have h2 : 2 ≤ n := by omega
  go_enter Try.func59, Try.ntmps59
  go_wp2
  clear c0 c1 c2 c3 c4
  go_loopw [13, 5] (fun i _ wr => ∃ k : Nat, k ≤ n - 1 ∧ i = .int .i64 k ∧ Below w.heap.size w wr ∧ Blk wr w.heap.size 106 (bxc ((l.take k).foldl jn (t0.a, t0.b, t0.c, t0.d)))) (fun i _ _ => n - 1 - (intOf i).toNat)
  case atStart =>
    refine ⟨0, Nat.zero_le _, rfl, ?_, blk_at _ _ _ (by simp)⟩
    repeat' (first | (with_reducible exact bl_refl _) | (with_reducible assumption) | (with_reducible apply bl_al) | (with_reducible apply bl_dr) | (with_reducible refine bl_st ?_ ?_ _) | (with_reducible refine bl_tr ?_ (by with_reducible assumption)) | (first | (with_reducible exact Nat.le_refl _) | (with_reducible assumption) | omega | (simp; omega) | (simp; done)))
  case round =>
    obtain ⟨k, hk, rfl, hbw, hB⟩ := hrel
    by_cases hlt : k < n - 1
    · obtain ⟨t, et⟩ : ∃ t, l[k]? = some t := ⟨_, List.getElem?_eq_getElem (by have := HN.out; simp at this; omega)⟩
      obtain ⟨c0, c1, c2, c3, c4⟩ := HC.out (k + 1) t (by simpa using et)
      rw [show off + (k + 1) * 5 = off + 5 + k * 5 by omega] at c0 c1 c2 c3 c4
      have HS := Lib.hid (jn_snoc et (t0.a, t0.b, t0.c, t0.d))
      have d0 := (bl_rc hbw hb _).trans c0
      have d1 := (bl_rc hbw hb _).trans c1
      have d2 := (bl_rc hbw hb _).trans c2
      have d3 := (bl_rc hbw hb _).trans c3
      have d4 := (bl_rc hbw hb _).trans c4
      have hsz := hbw.size
      have hblt := blk_lt hB
      clear c0 c1 c2 c3 c4 et
      generalize (l.take k).foldl jn (t0.a, t0.b, t0.c, t0.d) = p at *
      have e0 := (blk_cell hB 0).trans (rfl : _ = some (Value.float .f64 p.1))
      have e1 := (blk_cell hB 1).trans (rfl : _ = some (Value.float .f64 p.2.1))
      have e2 := (blk_cell hB 2).trans (rfl : _ = some (Value.float .f64 p.2.2.1))
      have e3 := (blk_cell hB 3).trans (rfl : _ = some (Value.float .f64 p.2.2.2))
      go_wp2_with fail; refine (combine_any _ _ _ _ _ _ _ _ _).mono ?_; rintro e w1 ⟨rfl, hb1⟩
      have hB1 := blk_tr (blk_al hB (.cells #[.float .f64 t.a, .float .f64 t.b, .float .f64 t.c, .float .f64 t.d, .int .i64 t.id] 109)) hb1
      have hf := fun i => blk_frozen hB1 i
      have k0 := (blk_cell hB1 0).trans (rfl : _ = some (Value.float .f64 p.1))
      have k1 := (blk_cell hB1 1).trans (rfl : _ = some (Value.float .f64 p.2.1))
      have k2 := (blk_cell hB1 2).trans (rfl : _ = some (Value.float .f64 p.2.2.1))
      have k3 := (blk_cell hB1 3).trans (rfl : _ = some (Value.float .f64 p.2.2.2))
      clear e0 e1 e2 e3
      go_wp2
      go_roundw
      case rel =>
        refine ⟨k + 1, by omega, by go_num, ?_, ?_⟩
        · repeat' (first | (with_reducible exact bl_refl _) | (with_reducible assumption) | (with_reducible apply bl_al) | (with_reducible apply bl_dr) | (with_reducible refine bl_st ?_ ?_ _) | (with_reducible refine bl_tr ?_ (by with_reducible assumption)) | (first | (with_reducible exact Nat.le_refl _) | (with_reducible assumption) | omega | (simp; omega) | (simp; done)))
        · rw [HS.out]
          exact blk_eq (blk_set (blk_set (blk_set (blk_set hB1 _ _) _ _) _ _) _ _) rfl
      case measure => simp [intOf]; omega
    · obtain rfl : k = n - 1 := by omega
      have e1 : l.take (n - 1) = l := List.take_of_length_le (by have := HN.out; simp at this; omega)
      rw [e1] at hB
      generalize l.foldl jn (t0.a, t0.b, t0.c, t0.d) = p at *
      have e0 := (blk_cell hB 0).trans (rfl : _ = some (Value.float .f64 p.1))
      have e1 := (blk_cell hB 1).trans (rfl : _ = some (Value.float .f64 p.2.1))
      have e2 := (blk_cell hB 2).trans (rfl : _ = some (Value.float .f64 p.2.2.1))
      have e3 := (blk_cell hB 3).trans (rfl : _ = some (Value.float .f64 p.2.2.2))
      have hX := fun t W => run_sub HX.out t W
      have hY := fun t W => run_sub HY.out t W
      go_wp2
      go_ret
      exact ⟨rfl, hbw⟩
theorem doorHz_any (A : Option Addr) (n : Nat) (t0 : It) (l : List It) (w : World) (hn : (t0 :: l).length = n) (h : rdIt w A (t0 :: l)) (hl : n ≤ 65536) (x y : Nat)
    (hx : Ieee.double.sub (l.foldl jn (t0.a, t0.b, t0.c, t0.d)).2.2.1 (l.foldl jn (t0.a, t0.b, t0.c, t0.d)).1 = some x) (hy : Ieee.double.sub (l.foldl jn (t0.a, t0.b, t0.c, t0.d)).2.2.2 (l.foldl jn (t0.a, t0.b, t0.c, t0.d)).2.1 = some y) :
    Calls Try.prog 37 #[.slice A n n] w fun e w' => e = .returned (.bool (fgt x y)) ∧ Below w.heap.size w w' := by
  have H := Lib.hid (horiz_any A n t0 l w hn h hl x y hx hy)
  clear hx hy h hn
  go_enter Try.func37, Try.ntmps37
  go_wp2_with fail
  refine H.out.mono ?_
  rintro e w1 ⟨rfl, hb1⟩
  go_wp2
  go_ret
  exact ⟨rfl, hb1⟩
theorem itemsLevel_any (A : Option Addr) (c n : Nat) (t0 : It) (l : List It) (w : World) (hn : (t0 :: l).length = n) (h : rdIt w A (t0 :: l)) (hl : n ≤ 65536) (x y : Nat)
    (hx : Ieee.double.sub (l.foldl jn (t0.a, t0.b, t0.c, t0.d)).2.2.1 (l.foldl jn (t0.a, t0.b, t0.c, t0.d)).1 = some x) (hy : Ieee.double.sub (l.foldl jn (t0.a, t0.b, t0.c, t0.d)).2.2.2 (l.foldl jn (t0.a, t0.b, t0.c, t0.d)).2.1 = some y) :
    Calls Try.prog 17 #[.slice A n c] w fun e w' => e = .returned (.bool (fgt x y)) ∧ Below w.heap.size w w' := by
  have H := Lib.hid (bulk_any A c n (t0 :: l) w hn h hl)
  have H2 := Lib.hid fun B W h => doorHz_any B n t0 l W hn h hl x y hx hy
  clear hx hy h hn
  go_enter Try.func17, Try.ntmps17
  go_wp2_with fail
  refine H.out.mono ?_
  rintro e w1 ⟨g, rfl, hr, hb1⟩
  go_wp2_with fail
  refine (H2.out _ _ hr).mono ?_
  rintro e w2 ⟨rfl, hb2⟩
  go_wp2
  go_ret
  refine ⟨rfl, ?_⟩
  repeat' (first | (with_reducible exact bl_refl _) | (with_reducible assumption) | (with_reducible apply bl_al) | (with_reducible apply bl_dr) | (with_reducible refine bl_st ?_ ?_ _) | (with_reducible refine bl_tr ?_ (by with_reducible assumption)) | (first | (with_reducible exact Nat.le_refl _) | (with_reducible assumption) | omega | (simp; omega) | (simp; done)))
end Go.Proofs.Ytomhegagdpaieaa
