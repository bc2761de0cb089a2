/-
  The law FnNewSequence: its walk.
-/
import Derived.Test.YtomhegagdpaieaaNs
namespace Go.Proofs.Ytomhegagdpaieaa
open Go.RowKit
theorem ns_long (L c : Nat) (A : Option Addr) (k : Int) (w : World) (hL : 2147483647 < L) :
    Calls Try.prog 5 #[.slice A L c, .int .i64 k] w fun e w' => e = .returned (.bool true) ∧ Below w.heap.size w w' := by
  go_enter Try.func5, Try.ntmps5
  go_wp2
  go_ret
  exact ⟨rfl, Below.refl _ _⟩
theorem ns_mid (L c : Nat) (A : Option Addr) (k : Int) (w : World) (hL : L ≤ 2147483647) (hL2 : 2000 < L) :
    Calls Try.prog 5 #[.slice A L c, .int .i64 k] w fun e w' => e = .returned (.bool true) ∧ Below w.heap.size w w' := by
  go_enter Try.func5, Try.ntmps5
  go_wp2
  go_ret
  exact ⟨rfl, Below.refl _ _⟩
theorem ns_neg (L c : Nat) (A : Option Addr) (k : Int) (w : World) (hL : L ≤ 2000) (hk : k < 0) :
    Calls Try.prog 5 #[.slice A L c, .int .i64 k] w fun e w' => e = .returned (.bool true) ∧ Below w.heap.size w w' := by
  have h1 : L ≤ 2147483647 := by omega
  go_enter Try.func5, Try.ntmps5
  go_wp2
  go_ret
  exact ⟨rfl, Below.refl _ _⟩
theorem ns_gt (L c : Nat) (A : Option Addr) (k : Int) (w : World) (hL : L ≤ 2000) (hk0 : 0 ≤ k) (hk : 3 < k) :
    Calls Try.prog 5 #[.slice A L c, .int .i64 k] w fun e w' => e = .returned (.bool true) ∧ Below w.heap.size w w' := by
  have h1 : L ≤ 2147483647 := by omega
  go_enter Try.func5, Try.ntmps5
  go_wp2
  go_ret
  exact ⟨rfl, Below.refl _ _⟩
set_option maxRecDepth 100000 in
theorem ns_bad (k : Nat) (hk : k < 4) (A : Option Addr) (X : List Nat) (c : Nat) (w : World) (hX : ¬ X.length % wid k = 0) (hr : rd1 (.float .f64) w A X) (hL : X.length ≤ 2000) :
    Calls Try.prog 5 #[.slice A X.length c, .int .i64 k] w fun e w' => e = .returned (.bool true) ∧ Below w.heap.size w w' := by
  have HN := Lib.hid (newSeqI_bad k hk A X c w hX hr hL)
  have HW := Lib.hid fun W => width_any k hk W
  have hk3 : ¬ 3 < k := by omega
  have hq : ¬ (X.length : Int) % (wid k : Int) = 0 := by omega
  have hd : 0 < wid k := by unfold wid; omega
  have hd4 : wid k ≤ 4 := by unfold wid; omega
  clear hX hr
  generalize X.length = L at *
  generalize wid k = d at *
  have h1 : L ≤ 2147483647 := by omega
  go_enter Try.func5, Try.ntmps5
  go_wp2_with fail
  refine HN.out.mono ?_
  rintro e w1 ⟨rfl, hb1⟩
  go_wp2_with fail
  refine (HW.out _).mono ?_
  rintro e W ⟨rfl, rfl⟩
  go_wp2
  go_ret
  refine ⟨rfl, ?_⟩
  repeat' (first | (with_reducible exact bl_refl _) | (with_reducible assumption) | (with_reducible apply bl_al) | (with_reducible apply bl_dr) | (with_reducible refine bl_st ?_ ?_ _) | (with_reducible refine bl_tr ?_ (by with_reducible assumption)) | (first | (with_reducible exact Nat.le_refl _) | (with_reducible assumption) | omega | (simp; omega) | (simp; done)))
set_option maxRecDepth 100000 in
theorem ns_ok (k : Nat) (hk : k < 4) (A : Option Addr) (X : List Nat) (c : Nat) (w : World) (hX : X.length % wid k = 0) (hr : rd1 (.float .f64) w A X) (hL : X.length ≤ 2000) :
    Calls Try.prog 5 #[.slice A X.length c, .int .i64 k] w fun e w' => e = .returned (.bool true) ∧ Below w.heap.size w w' := by
  have HN := Lib.hid (newSeqI_ok k hk A X c (X.length / wid k) w (by have := Nat.div_add_mod X.length (wid k); rw [hX, Nat.mul_comm] at this; omega) hr hL)
  have HW := Lib.hid fun W => width_any k hk W
  have HS : Hid (∀ D d W, rd1 (.float .f64) W D X → Below w.heap.size w W → Calls Try.prog 15 #[.agg #[.int .i64 2, .int .i64 k, .slice D X.length d, .slice none 0 0], .agg #[.int .i64 2, .int .i64 k, .slice A X.length c, .slice none 0 0]] W fun e w' => e = .returned (.bool true) ∧ Below W.heap.size W w') :=
    fun D d W h hb => sameGeom_leaf 2 k D A none none X d c 0 0 W h (rd1_tr hr hb) (by omega)
  have hk3 : ¬ 3 < k := by omega
  have hq : (X.length : Int) % (wid k : Int) = 0 := by omega
  have hd : 0 < wid k := by unfold wid; omega
  have hd4 : wid k ≤ 4 := by unfold wid; omega
  clear hX hr
  generalize X.length = L at *
  generalize wid k = d at *
  have h1 : L ≤ 2147483647 := by omega
  go_enter Try.func5, Try.ntmps5
  go_wp2_with fail
  refine HN.out.mono ?_
  rintro e w1 ⟨D, d', rfl, ho, hb1⟩
  simp only [gcells]
  have HS1 := Lib.hid (HS.out D d' (w1.alloc (.cells #[.int .i64 2, .int .i64 k, .slice D L d', .slice none 0 0] 37)) (rd1_tr (rd1_own ho) (bl_al (bl_refl _) _)) (bl_al hb1 _))
  clear ho HS HN
  go_wp2_with fail
  refine (HW.out _).mono ?_
  rintro e W ⟨rfl, rfl⟩
  go_wp2_with fail
  refine HS1.out.mono ?_
  rintro e w2 ⟨rfl, hb2⟩
  go_wp2
  go_ret
  refine ⟨rfl, ?_⟩
  repeat' (first | (with_reducible exact bl_refl _) | (with_reducible assumption) | (with_reducible apply bl_al) | (with_reducible apply bl_dr) | (with_reducible refine bl_st ?_ ?_ _) | (with_reducible refine bl_tr ?_ (by with_reducible assumption)) | (first | (with_reducible exact Nat.le_refl _) | (with_reducible assumption) | omega | (simp; omega) | (simp; done)))
open Go.ChangeShapes Go.WideShapes Go.Joins
set_option maxRecDepth 100000 in
theorem fnNewSequence_walk {H : Type} {enc : TypeId × Value → H} {b0 : Nat} (W : World) {v0 v1 : Value} {d0 d1 : DataW H} {p0 p1 : List MemPlace}
    (k0 : Value.okWide Try.prog W .any b0 34 v0) (h0 : DataW.Trod enc Try.prog W 0 (fun _ => true) true 34 v0 d0 p0) (_ : ∀ x ∈ p0, x.block < W.heap.size)
    (k1 : Value.okWide Try.prog W .any b0 3 v1) (h1 : DataW.Trod enc Try.prog W 0 (fun _ => true) true 3 v1 d1 p1) (_ : ∀ x ∈ p1, x.block < W.heap.size) :
    Calls Try.prog 5 #[v0, v1] W fun e w' => e = .returned (.bool true) ∧ Below W.heap.size W w' := by
  obtain ⟨n, rfl, _, _, hw⟩ := open_int Try.underlying3 k1 h1
  obtain ⟨A, X, cap, rfl, hr, _⟩ := open_rd Try.underlying34 (by kernel_rfl) (fun b : Nat => .float .f64 b) (fun _ => True) (fun _ _ _ h => by obtain ⟨b, e⟩ := trod_float h; exact ⟨b, e, trivial⟩) k0 h0
  rcases Nat.lt_or_ge 2147483647 X.length with h1 | h1
  · exact ns_long _ cap A n W h1
  rcases Nat.lt_or_ge 2000 X.length with h2 | h2
  · exact ns_mid _ cap A n W h1 h2
  by_cases hn : n < 0
  · exact ns_neg _ cap A n W h2 hn
  by_cases hn3 : 3 < n
  · exact ns_gt _ cap A n W h2 (by omega) hn3
  obtain ⟨k, rfl⟩ : ∃ k : Nat, n = (k : Int) := ⟨n.toNat, by omega⟩
  by_cases hX : X.length % wid k = 0
  · exact ns_ok k (by omega) A X cap W hX hr h2
  · exact ns_bad k (by omega) A X cap W hX hr h2
end Go.Proofs.Ytomhegagdpaieaa
