/-
  The law FnMultiLineValid: its walk, the cases joined.
-/
import Derived.Test.YtbigadbnijpcjaaMlw
namespace Go.Proofs.Ytbigadbnijpcjaa
open Go.RowKit Fl Go.ChangeShapes Go.WideShapes Go.Joins
set_option maxRecDepth 100000 in
theorem ml_bad (x : Int) (hx : x < 0 ∨ 3 < x) (B : Option Addr) (l : List Ln) (n c : Nat) (w : World) (hn : l.length = n) (hn0 : 0 < n) (hr : rdLn w B l) (hf : fits6 l = true) :
    Calls Try.prog 9 #[.slice B n c, .int .i64 x] w fun e w' => e = .returned (.bool true) ∧ Below w.heap.size w w' := by
  have HZ := Lib.hid fun W h => zz6_any B l n c W hn h
  rw [hf] at HZ
  have HR := Lib.hid hr
  have HN := Lib.hid hn
  have hf' := hf
  unfold fits6 at hf'
  simp only [Bool.and_eq_true, decide_eq_true_eq] at hf'
  have hn31 : n ≤ 2147483647 := by omega
  have HF : Hid (∀ x ∈ l, x.X.length ≤ 2147483647) := fun x hx => by have := List.all_eq_true.1 hf'.2 x hx; simpa using this
  have HX : Hid (∀ y : Ln, y.X.length ≤ 2147483647 → ∀ W, Calls Try.prog 43 #[.slice y.A y.X.length y.c, .int .i64 x] W fun e w' => e = .returned (.tuple #[.agg #[.int .i64 0, .int .i64 0, .slice none 0 0, .slice none 0 0], .bool false]) ∧ Below W.heap.size W w') := fun y h W =>
    lineOf_bad x y.A y.X.length y.c W (by rcases hx with h | h; exact .inl h; exact .inr (.inl h)) h
  clear hf hf' hr hn hx
  go_enter Try.func9, Try.ntmps9
  go_wp2_with fail
  refine (HZ.out _ HR.out).mono ?_
  rintro e w1 ⟨rfl, hb1⟩
  clear HZ
  have HR1 := Lib.hid (rdLn_tr HR.out hb1)
  go_wp2
  go_loopw [6, 8, 9, 10, 18] (fun wt _ _ _ i wr => i = .int .i64 0 ∧ wt = .bool true ∧ Below w1.heap.size w1 wr) (fun _ _ _ _ _ _ => 0)
  case atStart =>
    refine ⟨rfl, rfl, ?_⟩
    repeat' (first | (with_reducible exact bl_refl _) | (with_reducible assumption) | (with_reducible apply bl_al) | (with_reducible apply bl_dr) | (with_reducible refine bl_st ?_ ?_ _) | (with_reducible refine bl_tr ?_ (by with_reducible assumption)) | (first | (with_reducible exact Nat.le_refl _) | (with_reducible assumption) | omega | (simp; omega) | (simp; done)))
  case round =>
    obtain ⟨rfl, rfl, hbr⟩ := hrel
    obtain ⟨y, ey⟩ : ∃ y, l[0]? = some y := ⟨_, List.getElem?_eq_getElem (by have := HN.out; omega)⟩
    obtain ⟨b, off, rfl, hb, hc⟩ := HR1.out.1 (by have := HN.out; omega)
    have c0 := (bl_rc hbr hb _).trans (hc 0 y ey)
    rw [Nat.add_zero] at c0
    have hx31 := HF.out y (List.mem_of_getElem? ey)
    have HXy := Lib.hid fun W => HX.out y hx31 W
    unfold Ln.v at c0
    clear hc ey
    generalize y.X.length = N at *
    go_wp2_with fail
    refine (HXy.out _).mono ?_
    rintro e w3 ⟨rfl, hb3⟩
    go_wp2
    go_ret
    refine ⟨rfl, ?_⟩
    repeat' (first | (with_reducible exact bl_refl _) | (with_reducible assumption) | (with_reducible apply bl_al) | (with_reducible apply bl_dr) | (with_reducible refine bl_st ?_ ?_ _) | (with_reducible refine bl_tr ?_ (by with_reducible assumption)) | (first | (with_reducible exact Nat.le_refl _) | (with_reducible assumption) | omega | (simp; omega) | (simp; done)))
set_option maxRecDepth 100000 in
theorem ml_nil (x : Int) (hx : i64 x) (B : Option Addr) (c : Nat) (w : World) :
    Calls Try.prog 9 #[.slice B 0 c, .int .i64 x] w fun e w' => e = .returned (.bool true) ∧ Below w.heap.size w w' := by
  have HZ := Lib.hid fun W => zz6_any B [] 0 c W rfl ⟨rd1_nil _ _, by simp⟩
  have hf : fits6 [] = true := by decide
  rw [hf] at HZ
  have HV := Lib.hid fun W => mlValid_nil x (.slice none 0 0) none 0 W
  have hT : ∀ W, RdG W (.slice none 0 0) (.slice none 0 0) (.mk 5 x [] []) := fun W => RdG.mk (nums := []) (kids := []) (fun _ => (.slice none 0 0, .slice none 0 0)) (by unfold i64; omega) hx (Nat.le_refl _) (Nat.zero_le _) (Nat.le_refl _) (Nat.zero_le _) (rd1_nil _ _) (fun h => by simp at h) (fun i k h => by simp at h)
  have HS := Lib.hid fun W b hbl => gSmall_one _ _ _ W W b (hT W) (bl_refl _) hbl
  have hw : decide (0 ≤ (GT.mk 5 x [] []).w 2000) = true := by
    rw [GT.w, if_neg (by simp), wl]; simp
  rw [hw] at HS
  simp only [GT.kind, GT.dim] at HS
  clear hT hw hf
  go_enter Try.func9, Try.ntmps9
  go_wp2_with fail
  refine (HZ.out _).mono ?_
  rintro e w1 ⟨rfl, hb1⟩
  go_wp2
  go_loopw [6, 8, 9, 10, 18] (fun wt _ _ _ i wr => i = .int .i64 0 ∧ wt = .bool true ∧ Below w1.heap.size w1 wr ∧ Blk wr w1.heap.size 25 #[.int .i64 5, .int .i64 x, .slice none 0 0, .slice none 0 0]) (fun _ _ _ _ _ _ => 0)
  case atStart =>
    refine ⟨rfl, rfl, ?_, blk_new _ _ _⟩
    repeat' (first | (with_reducible exact bl_refl _) | (with_reducible assumption) | (with_reducible apply bl_al) | (with_reducible apply bl_dr) | (with_reducible refine bl_st ?_ ?_ _) | (with_reducible refine bl_tr ?_ (by with_reducible assumption)) | (first | (with_reducible exact Nat.le_refl _) | (with_reducible assumption) | omega | (simp; omega) | (simp; done)))
  case round =>
    obtain ⟨rfl, rfl, hbr, hG⟩ := hrel
    have q0 := (blk_cell hG 0).trans (rfl : _ = some (Value.int .i64 5))
    have q1 := (blk_cell hG 1).trans (rfl : _ = some (Value.int .i64 x))
    have q2 := (blk_cell hG 2).trans (rfl : _ = some (Value.slice none 0 0))
    have q3 := (blk_cell hG 3).trans (rfl : _ = some (Value.slice none 0 0))
    have z3 := blk_lt hG
    have n3 : ¬ w1.heap.size = wr.heap.size := by omega
    go_wp2_with fail
    refine (HS.out wr _ rfl).mono ?_
    rintro e w3 ⟨rfl, hb3, hb3'⟩
    have hG3 := blk_tr hG hb3
    have q0 := (blk_cell hG3 0).trans (rfl : _ = some (Value.int .i64 5))
    have q1 := (blk_cell hG3 1).trans (rfl : _ = some (Value.int .i64 x))
    have q2 := (blk_cell hG3 2).trans (rfl : _ = some (Value.slice none 0 0))
    have q3 := (blk_cell hG3 3).trans (rfl : _ = some (Value.slice none 0 0))
    go_wp2_with fail
    refine (HV.out _).mono ?_
    rintro e w4 ⟨rfl, hb4⟩
    go_wp2
    go_ret
    refine ⟨rfl, ?_⟩
    repeat' (first | (with_reducible exact bl_refl _) | (with_reducible assumption) | (with_reducible apply bl_al) | (with_reducible apply bl_dr) | (with_reducible refine bl_st ?_ ?_ _) | (with_reducible refine bl_tr ?_ (by with_reducible assumption)) | (first | (with_reducible exact Nat.le_refl _) | (with_reducible assumption) | omega | (simp; omega) | (simp; done)))
set_option maxRecDepth 100000 in
theorem fnMultiLineValid_walk {H : Type} {enc : TypeId × Value → H} {b0 : Nat} (W : World) {v0 v1 : Value} {d0 d1 : DataW H} {p0 p1 : List MemPlace}
    (k0 : Value.okWide Try.prog W .any b0 72 v0) (h0 : DataW.Trod enc Try.prog W 0 (fun _ => true) true 72 v0 d0 p0) (_ : ∀ x ∈ p0, x.block < W.heap.size)
    (k1 : Value.okWide Try.prog W .any b0 3 v1) (h1 : DataW.Trod enc Try.prog W 0 (fun _ => true) true 3 v1 d1 p1) (_ : ∀ x ∈ p1, x.block < W.heap.size) :
    Calls Try.prog 9 #[v0, v1] W fun e w' => e = .returned (.bool true) ∧ Below W.heap.size W w' := by
  obtain ⟨x, rfl, _, _, hw⟩ := open_int Try.underlying3 k1 h1
  obtain ⟨B, l, cap, rfl, hr⟩ := open_LL k0 h0
  cases hf : fits6 l
  · exact ml_zz B l _ cap x W rfl hr hf
  rcases Nat.eq_zero_or_pos l.length with hl | hl
  · rw [hl]
    exact ml_nil x (wf_i64 hw) B cap W
  by_cases hx : x < 0 ∨ 3 < x
  · exact ml_bad x hx B l _ cap W rfl hl hr hf
  · obtain ⟨k, rfl⟩ : ∃ k : Nat, x = (k : Int) := ⟨x.toNat, by omega⟩
    exact ml_main k (by omega) B l _ cap W rfl hr hf
end Go.Proofs.Ytbigadbnijpcjaa
