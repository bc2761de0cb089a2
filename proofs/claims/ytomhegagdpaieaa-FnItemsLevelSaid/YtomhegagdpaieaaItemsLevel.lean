/-
  The law FnItemsLevel: its walk.
-/
import Derived.Test.YtomhegagdpaieaaNl
namespace Go.Proofs.Ytomhegagdpaieaa
open Go.RowKit Fl
theorem il_long (A : Option Addr) (n c : Nat) (w : World) (h : 2147483647 < n) :
    Calls Try.prog 6 #[.slice A n c] w fun e w' => e = .returned (.bool true) ∧ Below w.heap.size w w' := by
  go_enter Try.func6, Try.ntmps6
  go_wp2
  go_ret
  exact ⟨rfl, Below.refl _ _⟩
theorem il_many (A : Option Addr) (n c : Nat) (w : World) (h : n ≤ 2147483647) (h2 : 400 < n) :
    Calls Try.prog 6 #[.slice A n c] w fun e w' => e = .returned (.bool true) ∧ Below w.heap.size w w' := by
  go_enter Try.func6, Try.ntmps6
  go_wp2_with fail
  refine (tItems_many _ _ _ _ h2).mono ?_
  rintro e w1 ⟨rfl, hb1⟩
  go_wp2
  go_ret
  exact ⟨rfl, hb1⟩
theorem il_bad (A : Option Addr) (l : List It) (n c : Nat) (w : World) (hn : l.length = n) (hr : rdIt w A l) (h : n ≤ 400) (hf : l.all It.ok = false) :
    Calls Try.prog 6 #[.slice A n c] w fun e w' => e = .returned (.bool true) ∧ Below w.heap.size w w' := by
  have HT := Lib.hid (tItems_few A l n c w hn hr h)
  rw [hf] at HT
  clear hf hn
  go_enter Try.func6, Try.ntmps6
  go_wp2_with fail
  refine HT.out.mono ?_
  rintro e w1 ⟨rfl, hb1⟩
  go_wp2
  go_ret
  exact ⟨rfl, hb1⟩
theorem il_none (A : Option Addr) (c : Nat) (w : World) :
    Calls Try.prog 6 #[.slice A 0 c] w fun e w' => e = .returned (.bool true) ∧ Below w.heap.size w w' := by
  have HT := Lib.hid (tItems_few A [] 0 c w rfl (fun h => by simp at h) (by omega))
  go_enter Try.func6, Try.ntmps6
  go_wp2_with fail
  refine HT.out.mono ?_
  rintro e w1 ⟨rfl, hb1⟩
  simp only [List.all_nil]
  go_wp2
  go_ret
  exact ⟨rfl, hb1⟩
set_option maxRecDepth 100000 in
theorem il_good (A : Option Addr) (t0 : It) (l : List It) (n c : Nat) (w : World) (hn : (t0 :: l).length = n) (hr : rdIt w A (t0 :: l)) (h : n ≤ 400) (hf : (t0 :: l).all It.ok = true) :
    Calls Try.prog 6 #[.slice A n c] w fun e w' => e = .returned (.bool true) ∧ Below w.heap.size w w' := by
  have HT := Lib.hid (tItems_few A (t0 :: l) n c w hn hr h)
  rw [hf] at HT
  obtain ⟨x, y, x', y', e1, e2, e3, e4, e5⟩ := level_same t0 l hf
  have HI := Lib.hid fun W h' => itemsLevel_any A c n t0 l W hn h' (by omega) x y e1 e2
  have HL := Lib.hid fun W h' => nLevel_any A (t0 :: l) n c W hn h' (by omega) x' y' e3 e4
  rw [← e5] at HL
  have hn1 : 1 ≤ n := by rw [← hn]; simp
  have HR := Lib.hid hr
  clear hf hn e1 e2 e3 e4 e5 hr
  generalize fgt x y = z at *
  go_enter Try.func6, Try.ntmps6
  go_wp2_with fail
  refine HT.out.mono ?_
  rintro e w1 ⟨rfl, hb1⟩
  go_wp2_with fail
  refine (HI.out _ (rdIt_tr HR.out hb1)).mono ?_
  rintro e w2 ⟨rfl, hb2⟩
  go_wp2_with fail
  refine (HL.out _ (rdIt_tr (rdIt_tr HR.out hb1) hb2)).mono ?_
  rintro e w3 ⟨rfl, hb3⟩
  go_wp2
  go_ret
  refine ⟨?_, ?_⟩
  · first | done | (cases z <;> rfl)
  · repeat' (first | (with_reducible exact bl_refl _) | (with_reducible assumption) | (with_reducible apply bl_al) | (with_reducible apply bl_dr) | (with_reducible refine bl_st ?_ ?_ _) | (with_reducible refine bl_tr ?_ (by with_reducible assumption)) | (first | (with_reducible exact Nat.le_refl _) | (with_reducible assumption) | omega | (simp; omega) | (simp; done)))
set_option maxRecDepth 100000 in
theorem fnItemsLevel_walk {H : Type} {enc : TypeId × Value → H} {b0 : Nat} (W : World) {v0 : Value} {d0 : DataW H} {p0 : List MemPlace}
    (k0 : Value.okWide Try.prog W .any b0 43 v0) (h0 : DataW.Trod enc Try.prog W 0 (fun _ => true) true 43 v0 d0 p0) (_ : ∀ x ∈ p0, x.block < W.heap.size) :
    Calls Try.prog 6 #[v0] W fun e w' => e = .returned (.bool true) ∧ Below W.heap.size W w' := by
  obtain ⟨A, ps, cap, rfl, hr⟩ := open_Items k0 h0
  rcases Nat.lt_or_ge 2147483647 ps.length with h1 | h1
  · exact il_long A _ cap W h1
  rcases Nat.lt_or_ge 400 ps.length with h2 | h2
  · exact il_many A _ cap W h1 h2
  cases hf : ps.all It.ok
  · exact il_bad A ps _ cap W rfl hr h2 hf
  · cases ps with
    | nil => exact il_none A cap W
    | cons t0 l => exact il_good A t0 l _ cap W rfl hr h2 hf
end Go.Proofs.Ytomhegagdpaieaa
