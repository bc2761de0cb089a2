/-
  The law FnLengthSplit: its walk.
-/
import Derived.Test.YtbigadbnijpcjaaLsp
import Derived.Test.YtbigadbnijpcjaaOpenPl
namespace Go.Proofs.Ytbigadbnijpcjaa
open Go.ChangeShapes Go.WideShapes Go.RowKit Fl
theorem ls_long (A : Option Addr) (n c : Nat) (k : Int) (w : World) (h : 2147483647 < n) :
    Calls Try.prog 4 #[.slice A n c, .int .i64 k] w fun e w' => e = .returned (.bool true) ∧ Below w.heap.size w w' := by
  go_enter Try.func4, Try.ntmps4
  go_wp2
  go_ret
  exact ⟨rfl, Below.refl _ _⟩
theorem ls_out (A : Option Addr) (l : List (Int × Int)) (n c : Nat) (k : Int) (w : World) (h : n ≤ 2147483647) (hn : l.length = n) (hr : rdPl w A l) (hg : (decide (2 ≤ n) && decide (n ≤ 100) && l.all (okPl 1000)) = false) :
    Calls Try.prog 4 #[.slice A n c, .int .i64 k] w fun e w' => e = .returned (.bool true) ∧ Below w.heap.size w w' := by
  have HW := Lib.hid fun W h' => walk_any A l n c 2 1000 W hn h' h (by decide)
  rw [hg] at HW
  clear hn hg
  have HR : Hid (∀ W, Below w.heap.size w W → rdPl W A l) := fun W hb => rdPl_tr hr hb
  clear hr
  go_enter Try.func4, Try.ntmps4
  go_wp2_with fail
  refine (HW.out _ (HR.out _ (by repeat' (first | (with_reducible exact bl_refl _) | (with_reducible assumption) | (with_reducible apply bl_al) | (with_reducible apply bl_dr) | (with_reducible refine bl_st ?_ ?_ _) | (with_reducible refine bl_tr ?_ (by with_reducible assumption)) | (first | (with_reducible exact Nat.le_refl _) | (with_reducible assumption) | omega | (simp; omega) | (simp; done)))))).mono ?_
  rintro e w1 ⟨rfl, hb1⟩
  go_wp2
  go_ret
  refine ⟨rfl, ?_⟩
  repeat' (first | (with_reducible exact bl_refl _) | (with_reducible assumption) | (with_reducible apply bl_al) | (with_reducible apply bl_dr) | (with_reducible refine bl_st ?_ ?_ _) | (with_reducible refine bl_tr ?_ (by with_reducible assumption)) | (first | (with_reducible exact Nat.le_refl _) | (with_reducible assumption) | omega | (simp; omega) | (simp; done)))
theorem ls_off (A : Option Addr) (l : List (Int × Int)) (n c : Nat) (k : Int) (w : World) (h : n ≤ 2147483647) (hn : l.length = n) (hr : rdPl w A l) (hg : (decide (2 ≤ n) && decide (n ≤ 100) && l.all (okPl 1000)) = true) (hout : k < 1 ∨ (n : Int) < k) :
    Calls Try.prog 4 #[.slice A n c, .int .i64 k] w fun e w' => e = .returned (.bool true) ∧ Below w.heap.size w w' := by
  have HW := Lib.hid fun W h' => walk_any A l n c 2 1000 W hn h' h (by decide)
  rw [hg] at HW
  clear hn hg
  have HR : Hid (∀ W, Below w.heap.size w W → rdPl W A l) := fun W hb => rdPl_tr hr hb
  clear hr
  rcases hout with h1 | h1
  · go_enter Try.func4, Try.ntmps4
    go_wp2_with fail
    refine (HW.out _ (HR.out _ (by repeat' (first | (with_reducible exact bl_refl _) | (with_reducible assumption) | (with_reducible apply bl_al) | (with_reducible apply bl_dr) | (with_reducible refine bl_st ?_ ?_ _) | (with_reducible refine bl_tr ?_ (by with_reducible assumption)) | (first | (with_reducible exact Nat.le_refl _) | (with_reducible assumption) | omega | (simp; omega) | (simp; done)))))).mono ?_
    rintro e w1 ⟨rfl, hb1⟩
    go_wp2
    go_ret
    refine ⟨rfl, ?_⟩
    repeat' (first | (with_reducible exact bl_refl _) | (with_reducible assumption) | (with_reducible apply bl_al) | (with_reducible apply bl_dr) | (with_reducible refine bl_st ?_ ?_ _) | (with_reducible refine bl_tr ?_ (by with_reducible assumption)) | (first | (with_reducible exact Nat.le_refl _) | (with_reducible assumption) | omega | (simp; omega) | (simp; done)))
  · have h2 : ¬ k < 1 := by omega
    go_enter Try.func4, Try.ntmps4
    go_wp2_with fail
    refine (HW.out _ (HR.out _ (by repeat' (first | (with_reducible exact bl_refl _) | (with_reducible assumption) | (with_reducible apply bl_al) | (with_reducible apply bl_dr) | (with_reducible refine bl_st ?_ ?_ _) | (with_reducible refine bl_tr ?_ (by with_reducible assumption)) | (first | (with_reducible exact Nat.le_refl _) | (with_reducible assumption) | omega | (simp; omega) | (simp; done)))))).mono ?_
    rintro e w1 ⟨rfl, hb1⟩
    go_wp2
    go_ret
    refine ⟨rfl, ?_⟩
    repeat' (first | (with_reducible exact bl_refl _) | (with_reducible assumption) | (with_reducible apply bl_al) | (with_reducible apply bl_dr) | (with_reducible refine bl_st ?_ ?_ _) | (with_reducible refine bl_tr ?_ (by with_reducible assumption)) | (first | (with_reducible exact Nat.le_refl _) | (with_reducible assumption) | omega | (simp; omega) | (simp; done)))
set_option maxRecDepth 100000 in
theorem ls_good (b off : Nat) (l : List (Int × Int)) (n c j : Nat) (w : World) (hn : l.length = n) (hr : rdPl w (some ⟨b, off, none⟩) l) (hg : (decide (2 ≤ n) && decide (n ≤ 100) && l.all (okPl 1000)) = true) (hj : j < n) (hc : n ≤ c) (hc2 : c ≤ maxLen) :
    Calls Try.prog 4 #[.slice (some ⟨b, off, none⟩) n c, .int .i64 ((j + 1 : Nat) : Int)] w fun e w' => e = .returned (.bool true) ∧ Below w.heap.size w w' := by
  have h2 : n ≤ 100 := by simp at hg; omega
  have hall : l.all (okPl 1000) = true := by simp only [Bool.and_eq_true] at hg; exact hg.2
  obtain ⟨rs, WW, AA, BB, P, d, hrl, hseg, hW, hA, hB, hP, hd, hfin, hsm, hf⟩ := split_all l n j hn h2 hall
  have htl : (l.take (j + 1)).length = j + 1 := by rw [List.length_take, hn]; omega
  have hdl : (l.drop j).length = n - j := by rw [List.length_drop, hn]
  have HW := Lib.hid fun W h => walk_any (some ⟨b, off, none⟩) l n c 2 1000 W hn h (by omega) (by decide)
  rw [hg] at HW
  have HF0 := Lib.hid fun W h => lineString_any (some ⟨b, off, none⟩) l n c W hn h (by omega)
  have HF1 := Lib.hid fun W h => lineString_any (some ⟨b, off, none⟩) (l.take (j + 1)) (j + 1) c W htl h (by omega)
  have HF2 := Lib.hid fun W h => lineString_any (some ⟨b, off + j * 2, none⟩) (l.drop j) (n - j) (c - j) W hdl h (by omega)
  have HL0 := Lib.hid fun D cd W h => lineLen_any 0 (by decide) D none (nums l) (n * 2) cd 0 n rs WW W (by rw [nums_length, hn]) rfl h (by omega) hrl hseg.segt hW
  have HL1 := Lib.hid fun D cd W h => lineLen_any 0 (by decide) D none (nums (l.take (j + 1))) ((j + 1) * 2) cd 0 (j + 1) (rs.take j) AA W (by rw [nums_length, htl]) rfl h (by omega) (by rw [List.length_take, hrl]; omega) (hseg.take j).segt hA
  have HL2 := Lib.hid fun D cd W h => lineLen_any 0 (by decide) D none (nums (l.drop j)) ((n - j) * 2) cd 0 (n - j) (rs.drop j) BB W (by rw [nums_length, hdl]) rfl h (by omega) (by rw [List.length_drop, hrl]; omega) (hseg.drop j).segt hB
  have HS := Lib.hid fun W h => segs_any (some ⟨b, off, none⟩) l n c W hn h (by omega)
  have HA := Lib.hid fun W => about_near hd hfin hsm W
  have hadd := fun t W => run_fadd hP t W
  have HR0 : Hid (∀ W, Below w.heap.size w W → rdPl W (some ⟨b, off, none⟩) l) := fun W hb => rdPl_tr hr hb
  have HR1 : Hid (∀ W, Below w.heap.size w W → rdPl W (some ⟨b, off, none⟩) (l.take (j + 1))) := fun W hb => rdPl_tr (rdPl_take hr _) hb
  have HR2 : Hid (∀ W, Below w.heap.size w W → rdPl W (some ⟨b, off + j * 2, none⟩) (l.drop j)) := fun W hb => rdPl_tr (rdPl_drop hr _) hb
  have hlen : n ≤ 100 := h2
  have HFG := Lib.hid hf
  obtain ⟨k1, hk1⟩ : ∃ k1, j + 1 = k1 := ⟨_, rfl⟩
  have hk2 : (k1 : Int) - 1 = (j : Int) := by omega
  have hk3 : ¬ (k1 : Int) < 1 := by omega
  have hk4 : ¬ (n : Int) < (k1 : Int) := by omega
  have hk5 : k1 ≤ c := by omega
  have hk6 : j ≤ n := by omega
  have hk7 : ¬ c = j := by omega
  simp only [hk1] at HF1 HL1 HR1 ⊢
  clear hn hr hg hall hseg hW hA hB hP hd hfin hsm hf htl hdl hrl hk1
  generalize (sgTo l n).length = m at *
  go_enter Try.func4, Try.ntmps4
  go_wp2_with fail
  refine (HW.out _ (HR0.out _ (by repeat' (first | (with_reducible exact bl_refl _) | (with_reducible assumption) | (with_reducible apply bl_al) | (with_reducible apply bl_dr) | (with_reducible refine bl_st ?_ ?_ _) | (with_reducible refine bl_tr ?_ (by with_reducible assumption)) | (first | (with_reducible exact Nat.le_refl _) | (with_reducible assumption) | omega | (simp; omega) | (simp; done)))))).mono ?_
  rintro e w1 ⟨rfl, hb1⟩
  have hbw1 : Below w.heap.size w w1 := hb1
  go_wp2_with fail
  refine (HF0.out _ (HR0.out _ hbw1)).mono ?_
  rintro e w2 ⟨D0, c0, rfl, hr0, hb2⟩
  have hbw2 := bl_tr hbw1 hb2
  go_wp2_with fail
  refine (HL0.out _ _ _ hr0).mono ?_
  rintro e w3 ⟨rfl, hb3⟩
  have hbw3 := bl_tr hbw2 hb3
  clear hb1 hb2 hb3 hbw1 hbw2 hr0 HF0 HL0 HW
  go_wp2
  refine wp_region_seq [4, 5, 10, 11, 13, 18] (by kernel_rfl) (by kernel_rfl) ?_
  repeat (refine sq_soft (fun K hK => ?_); go_simp; (try (go_ints; (try simp (disch := omega) only [if_pos]); (try go_simp))); refine hK _ ?_; clear hK K)
  refine sq_heavy rfl rfl (fun K hK => ?_); go_simp
  refine (HF1.out _ (HR1.out _ (bl_dr hbw3))).mono ?_
  rintro e w4 ⟨D1, c1, rfl, hr1, hb4⟩
  refine ⟨_, rfl, ?_⟩
  refine hK _ _ (Below.mono hb4 (by (first | (with_reducible exact Nat.le_refl _) | (with_reducible assumption) | omega | (simp; omega) | (simp; done)))) ?_; clear hK K; (try simp only [Act.put, List.setIfInBounds_toArray, List.set_cons_zero, List.set_cons_succ])
  have hbw4 := bl_tr (bl_dr hbw3) hb4
  have hs4 : w3.heap.size ≤ w4.heap.size := hb4.size
  refine sq_heavy rfl rfl (fun K hK => ?_); go_simp
  refine (HL1.out _ _ _ hr1).mono ?_
  rintro e w5 ⟨rfl, hb5⟩
  refine ⟨_, rfl, ?_⟩
  refine hK _ _ (Below.mono hb5 (by (first | (with_reducible exact Nat.le_refl _) | (with_reducible assumption) | omega | (simp; omega) | (simp; done)))) ?_; clear hK K; (try simp only [Act.put, List.setIfInBounds_toArray, List.set_cons_zero, List.set_cons_succ])
  have hbw5 := bl_tr hbw4 hb5
  have hs5 : w3.heap.size ≤ w5.heap.size := Nat.le_trans hs4 hb5.size
  repeat (refine sq_soft (fun K hK => ?_); go_simp; (try (go_ints; (try simp (disch := omega) only [if_pos]); (try go_simp))); refine hK _ ?_; clear hK K)
  refine sq_heavy rfl rfl (fun K hK => ?_); go_simp
  refine (HF2.out _ (HR2.out _ hbw5)).mono ?_
  rintro e w6 ⟨D2, c2, rfl, hr2, hb6⟩
  refine ⟨_, rfl, ?_⟩
  refine hK _ _ (Below.mono hb6 (by (first | (with_reducible exact Nat.le_refl _) | (with_reducible assumption) | omega | (simp; omega) | (simp; done)))) ?_; clear hK K; (try simp only [Act.put, List.setIfInBounds_toArray, List.set_cons_zero, List.set_cons_succ])
  have hbw6 := bl_tr hbw5 hb6
  have hs6 : w3.heap.size ≤ w6.heap.size := Nat.le_trans hs5 hb6.size
  refine sq_heavy rfl rfl (fun K hK => ?_); go_simp
  refine (HL2.out _ _ _ hr2).mono ?_
  rintro e w7 ⟨rfl, hb7⟩
  refine ⟨_, rfl, ?_⟩
  refine hK _ _ (Below.mono hb7 (by (first | (with_reducible exact Nat.le_refl _) | (with_reducible assumption) | omega | (simp; omega) | (simp; done)))) ?_; clear hK K; (try simp only [Act.put, List.setIfInBounds_toArray, List.set_cons_zero, List.set_cons_succ])
  have hbw7 := bl_tr hbw6 hb7
  have hs7 : w3.heap.size ≤ w7.heap.size := Nat.le_trans hs6 hb7.size
  repeat (refine sq_soft (fun K hK => ?_); go_simp; (try (go_ints; (try simp (disch := omega) only [if_pos]); (try go_simp))); refine hK _ ?_; clear hK K)
  refine sq_heavy rfl rfl (fun K hK => ?_); go_simp; refine (HA.out _).mono ?_; rintro e W ⟨rfl, rfl⟩; refine ⟨_, rfl, ?_⟩; refine hK _ _ (Below.refl _ _) ?_; clear hK K; (try simp only [Act.put, List.setIfInBounds_toArray, List.set_cons_zero, List.set_cons_succ])
  repeat (refine sq_soft (fun K hK => ?_); go_simp; (try (go_ints; (try simp (disch := omega) only [if_pos]); (try go_simp))); refine hK _ ?_; clear hK K)
  refine sq_heavy rfl rfl (fun K hK => ?_); go_simp
  refine (HS.out _ (HR0.out _ hbw7)).mono ?_
  rintro e w8 ⟨D3, c3, rfl, _, hb8⟩
  refine ⟨_, rfl, ?_⟩
  refine hK _ _ (Below.mono hb8 (by (first | (with_reducible exact Nat.le_refl _) | (with_reducible assumption) | omega | (simp; omega) | (simp; done)))) ?_; clear hK K; (try simp only [Act.put, List.setIfInBounds_toArray, List.set_cons_zero, List.set_cons_succ])
  have hbw8 := bl_tr hbw7 hb8
  have hs8 : w3.heap.size ≤ w8.heap.size := Nat.le_trans hs7 hb8.size
  repeat (refine sq_soft (fun K hK => ?_); go_simp; (try (go_ints; (try simp (disch := omega) only [if_pos]); (try go_simp))); refine hK _ ?_; clear hK K)
  refine sq_nil ?_
  go_wp2
  go_ret
  refine ⟨?_, hbw8⟩
  show Ending.returned (.bool (fgt WW 0 == decide (0 < m))) = _
  rw [HFG.out, beq_self_eq_true]
set_option maxRecDepth 100000 in
theorem fnLengthSplit_walk {H : Type} {enc : TypeId × Value → H} {b0 : Nat} (W : World) {v0 v1 : Value} {d0 d1 : DataW H} {p0 p1 : List MemPlace}
    (k0 : Value.okWide Try.prog W .any b0 31 v0) (h0 : DataW.Trod enc Try.prog W 0 (fun _ => true) true 31 v0 d0 p0) (_ : ∀ x ∈ p0, x.block < W.heap.size)
    (k1 : Value.okWide Try.prog W .any b0 3 v1) (h1 : DataW.Trod enc Try.prog W 0 (fun _ => true) true 3 v1 d1 p1) (_ : ∀ x ∈ p1, x.block < W.heap.size) :
    Calls Try.prog 4 #[v0, v1] W fun e w' => e = .returned (.bool true) ∧ Below W.heap.size W w' := by
  obtain ⟨A, ps, cap, rfl, hr, hc, hc2⟩ := open_Pts k0 h0
  obtain ⟨k, rfl, _, _, hw⟩ := open_int Try.underlying3 k1 h1
  rcases Nat.lt_or_ge 2147483647 ps.length with hl | hl
  · exact ls_long A _ cap k W hl
  cases hg : (decide (2 ≤ ps.length) && decide (ps.length ≤ 100) && ps.all (okPl 1000))
  · exact ls_out A ps _ cap k W hl rfl hr hg
  by_cases hout : k < 1 ∨ (ps.length : Int) < k
  · exact ls_off A ps _ cap k W hl rfl hr hg hout
  · obtain ⟨j, rfl⟩ : ∃ j : Nat, k = ((j + 1 : Nat) : Int) := ⟨(k - 1).toNat, by omega⟩
    obtain ⟨b, off, rfl, _⟩ := hr (by omega)
    exact ls_good b off ps _ cap j W rfl hr hg (by omega) hc hc2
end Go.Proofs.Ytbigadbnijpcjaa
