/-
  The law FnReadUvarintBack: its walk.
-/
import Derived.Test.YtomhegagdpaieaaUvR
import Derived.Test.YtomhegagdpaieaaOpenList
namespace Go.Proofs.Ytomhegagdpaieaa
open Go.RowKit
theorem u8s_app (a b : List Nat) : u8s a ++ u8s b = u8s (a ++ b) := by simp [u8s]
theorem cells_u8s {w : World} {base n c : Nat} {e : TypeId} {D : Option Addr} {xs : List Nat} (h : w.ownsRow base e 1 (.slice D n c) n (u8s xs)) (hn : 0 < n) :
    ∃ g, D = some ⟨g, 0, none⟩ ∧ n ≤ c ∧ g < w.heap.size ∧ ∀ (j x : Nat), xs[j]? = some x → w.cell? ⟨g, j, none⟩ = some (.int .u8 (x : Int)) := by
  obtain ⟨g, cap, hv, hle, hlt⟩ := h.form hn
  obtain ⟨rfl, rfl⟩ : D = some ⟨g, 0, none⟩ ∧ c = cap := by injection hv; constructor <;> assumption
  refine ⟨g, rfl, ?_, hlt, fun j x hx => ?_⟩
  · rcases h.2 with ⟨hv1, _⟩ | ⟨g', cap', cur, hv1, _, _, hnc, _⟩
    · cases hv1
    · cases hv1; exact hnc
  · have := h.cells (g := g) rfl j (.int .u8 x) (by simp [u8s, hx])
    have e : (⟨g, 0, none⟩ : Addr).add j = ⟨g, j, none⟩ := by unfold Addr.add; split <;> simp_all
    rwa [e] at this
set_option maxRecDepth 100000 in
set_option maxHeartbeats 1000000 in
theorem uvBack_few (n : Nat) (hn : n < 18446744073709551616) (A : Option Addr) (ts : List Nat) (c : Nat) (w : World) (hr : rdC w A ts.length 1 (u8s ts)) (hL : ts.length ≤ 2000) :
    Calls Try.prog 4 #[.int .u64 n, .slice A ts.length c] w fun e w' => e = .returned (.bool true) ∧ Below w.heap.size w w' := by
  have h10 := uvB_len64 hn
  have hp := uvB_pos n
  go_enter Try.func4, Try.ntmps4
  go_wp2_with fail
  refine (uvarint_any n hn _).mono ?_
  rintro e w1 ⟨A1, c1, rfl, hown, hb1⟩
  have hz := hb1.size
  have o0 := own_new w1 w1.heap.size 5 1 0 #[] (Nat.le_refl _) rfl (by simp) rfl
  obtain ⟨D, d, w2, hr1, hD, hb2⟩ := app_rd (ty := 29) elem_u8 (c' := c1) o0 (rdC_tr (rdC_own hown) (bl_al (bl_refl _) _)) (u8s_one _) (by simp) (by unfold maxLen; omega) (by omega)
  have hb2' : Below w.heap.size w w2 := (bl_al hb1 _).trans (hb2.mono hz)
  simp only [Nat.zero_add, List.nil_append] at hr1 hD
  have hz2 : w1.heap.size ≤ w2.heap.size := by have := hb2.size; simp at this; omega
  obtain ⟨D2, d2, w3, hr2, hD2, hb3⟩ := app_rd (ty := 29) elem_u8 (c' := c) hD (rdC_tr hr hb2') (u8s_one _) hz2 (by unfold maxLen; omega) (by omega)
  have hb3' : Below w.heap.size w w3 := hb2'.trans (hb3.mono hz)
  rw [u8s_app] at hD2
  obtain ⟨g, rfl, hle, hg, hc⟩ := cells_u8s hD2 (by omega)
  have HN := Lib.hid (readUv_any n hn ts g d2 w3 (by unfold maxLen; simp; omega) (by simpa using hle) hc hg)
  simp only [List.length_append] at HN
  clear hc hg hD2 hb3 hD hb2 o0 hown hr hle
  go_wp2_with (first | (at_builtin; refine list_append _ _ _ rfl rfl rfl rfl hr1 ?_) | (at_builtin; refine list_append _ _ _ rfl rfl rfl rfl hr2 ?_))
  refine HN.out.mono ?_
  rintro e w4 ⟨rfl, hb4⟩
  go_wp2
  go_ret
  refine ⟨rfl, ?_⟩
  repeat' (first | (with_reducible exact bl_refl _) | (with_reducible assumption) | (with_reducible apply bl_al) | (with_reducible apply bl_dr) | (with_reducible refine bl_st ?_ ?_ _) | (with_reducible refine bl_tr ?_ (by with_reducible assumption)) | (first | (with_reducible exact Nat.le_refl _) | (with_reducible assumption) | omega | (simp; omega) | (simp; done)))
theorem uvBack_long (n L c : Nat) (A : Option Addr) (w : World) (hL : 2147483647 < L) :
    Calls Try.prog 4 #[.int .u64 n, .slice A L c] w fun e w' => e = .returned (.bool true) ∧ Below w.heap.size w w' := by
  go_enter Try.func4, Try.ntmps4
  go_wp2
  go_ret
  exact ⟨rfl, Below.refl _ _⟩
theorem uvBack_mid (n L c : Nat) (A : Option Addr) (w : World) (hL : L ≤ 2147483647) (hL2 : 2000 < L) :
    Calls Try.prog 4 #[.int .u64 n, .slice A L c] w fun e w' => e = .returned (.bool true) ∧ Below w.heap.size w w' := by
  go_enter Try.func4, Try.ntmps4
  go_wp2
  go_ret
  exact ⟨rfl, Below.refl _ _⟩
open Go.ChangeShapes Go.WideShapes Go.Joins
set_option maxRecDepth 100000 in
theorem fnReadUvarintBack_walk {H : Type} {enc : TypeId × Value → H} {b0 : Nat} (W : World) {v0 v1 : Value} {d0 d1 : DataW H} {p0 p1 : List MemPlace}
    (k0 : Value.okWide Try.prog W .any b0 28 v0) (h0 : DataW.Trod enc Try.prog W 0 (fun _ => true) true 28 v0 d0 p0) (_ : ∀ x ∈ p0, x.block < W.heap.size)
    (k1 : Value.okWide Try.prog W .any b0 29 v1) (h1 : DataW.Trod enc Try.prog W 0 (fun _ => true) true 29 v1 d1 p1) (_ : ∀ x ∈ p1, x.block < W.heap.size) :
    Calls Try.prog 4 #[v0, v1] W fun e w' => e = .returned (.bool true) ∧ Below W.heap.size W w' := by
  obtain ⟨n, rfl, _, _, hw⟩ := open_int Try.underlying28 k0 h0
  obtain ⟨hn0, hn1⟩ := wf_u64 hw
  obtain ⟨m, rfl⟩ : ∃ m : Nat, n = (m : Int) := ⟨n.toNat, by omega⟩
  obtain ⟨A, ts, cap, rfl, hr, _⟩ := open_rd1 Try.underlying29 (by kernel_rfl) (fun b : Nat => .int .u8 (b : Int)) (fun _ => True)
    (fun _ _ _ h => by obtain ⟨x, e, _⟩ := trod_nat Try.underlying5 (fun x hx => (wf_u8 hx).1) h; exact ⟨x, e, trivial⟩) k1 h1
  rcases Nat.lt_or_ge 2147483647 ts.length with h1 | h1
  · exact uvBack_long m _ cap A W h1
  rcases Nat.lt_or_ge 2000 ts.length with h2 | h2
  · exact uvBack_mid m _ cap A W h1 h2
  · exact uvBack_few m (by omega) A ts cap W hr h2
end Go.Proofs.Ytomhegagdpaieaa
