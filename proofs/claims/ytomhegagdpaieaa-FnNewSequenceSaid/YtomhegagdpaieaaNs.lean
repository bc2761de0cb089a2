/-
  Contract: impl.NewSequence: a sequence, or none (the panic that it meets is recovered).
-/
import Derived.Test.YtomhegagdpaieaaSg
import Derived.Tactics2
import Derived.Defers
import Derived.Recover
import Derived.Laws.Pointers
namespace Go.Proofs.Ytomhegagdpaieaa
open Go.RowKit
theorem plainSeq_any (k : Nat) (hk : k < 4) (A : Option Addr) (X : List Nat) (N cap m : Nat) (w : World) (hN : X.length = N) (hX : N = m * wid k) (hr : rd1 (.float .f64) w A X) (hL : N ≤ 100000000) :
    Calls Try.prog 31 #[.agg #[.int .u8 k, .slice A N cap]] w fun e w' => ∃ D c, e = .returned (.agg (gcells 2 k D N c)) ∧ w'.ownsRow w.heap.size 22 1 (.slice D N c) N (fls X) ∧ Below w.heap.size w w' := by
  match k, hk with
  | 0, _ => exact plainSeq0 A X N cap m w hN hX hr hL
  | 1, _ => exact plainSeq1 A X N cap m w hN hX hr hL
  | 2, _ => exact plainSeq2 A X N cap m w hN hX hr hL
  | 3, _ => exact plainSeq3 A X N cap m w hN hX hr hL
theorem catch_idle (p q : Addr) (w : World) :
    CallsD Try.prog 30 #[.pointer (some p), .pointer (some q)] .returning w fun e u' w' => e = .returned (.tuple #[]) ∧ u' = .returning ∧ w' = w := by
  refine callsD_of_wpS Try.func30 rfl fun c₀ cs hu => ?_
  apply wpS_seq
  apply wpS_region
  simp [wpOpsS, go_sem, recoverD, hu, Try.ntmps30, Exit.thenS]
  refine wpS_cond (t := false) (by simp [Act.eval, Array.replicate]) ?_
  simp only [Bool.false_eq_true, if_false]
  refine wpS_of_wp (wp_skip ?_)
  cases c₀
  simp_all [bodyPostS, results, Try.results30]
theorem catch_panicking (b g : Nat) (u : TypeId) (pv : Value) (older : List PanicEntry) (w : World) (hb : Blk w b 37 #[.int .i64 0, .int .i64 0, .slice none 0 0, .slice none 0 0]) (hg : Blk w g 4 #[.bool false]) (hne : b ≠ g) :
    CallsD Try.prog 30 #[.pointer (some ⟨b, 0, none⟩), .pointer (some ⟨g, 0, none⟩)] (.panicking ({ v := .iface u pv, recovered := false } :: older)) w fun e u' w' =>
      e = .returned (.tuple #[]) ∧ u' = .panicking ({ v := .iface u pv, recovered := true } :: older) ∧ (∀ n, n ≤ b → n ≤ g → Below n w w') ∧ Blk w' b 37 #[.int .i64 0, .int .i64 0, .slice none 0 0, .slice none 0 0] ∧ Blk w' g 4 #[.bool false] := by
  have b0 := (blk_cell hb 0).trans rfl
  have b1 := (blk_cell hb 1).trans rfl
  have b2 := (blk_cell hb 2).trans rfl
  have b3 := (blk_cell hb 3).trans rfl
  have f0 := blk_frozen hb 0
  have f1 := blk_frozen hb 1
  have f2 := blk_frozen hb 2
  have f3 := blk_frozen hb 3
  have g0 := (blk_cell hg 0).trans rfl
  have z0 := blk_frozen hg 0
  refine callsD_of_wpS Try.func30 rfl fun c₀ cs hu => ?_
  apply wpS_seq
  apply wpS_region
  simp [wpOpsS, go_sem, recoverD, hu, Try.ntmps30, Exit.thenS]
  refine wpS_cond (t := true) (by simp [Act.eval, Array.replicate]) ?_
  simp only [if_true]
  apply wpS_region
  simp [wpOpsS, go_sem, b0, b1, b2, b3, f0, f1, f2, f3, g0, z0, hne, hne.symm, bodyPostS, results, Try.results30]
  exact ⟨fun n h1 h2 => (((((Below.refl n w).setCell h1 _).setCell h1 _).setCell h1 _).setCell h1 _).setCell h2 _,
    blk_far (blk_set (blk_set (blk_set (blk_set hb 0 _) 1 _) 2 _) 3 _) (p := ⟨g, 0, none⟩) hne _,
    blk_set (blk_far (blk_far (blk_far (blk_far hg (p := ⟨b, 0, none⟩) hne.symm _) (p := ⟨b, 1, none⟩) hne.symm _) (p := ⟨b, 2, none⟩) hne.symm _) (p := ⟨b, 3, none⟩) hne.symm _) 0 _⟩
theorem newSeqI_ok (k : Nat) (hk : k < 4) (A : Option Addr) (X : List Nat) (c m : Nat) (w : World) (hX : X.length = m * wid k) (hr : rd1 (.float .f64) w A X) (hL : X.length ≤ 2000) :
    Calls Try.prog 13 #[.slice A X.length c, .int .i64 k] w fun e w' => ∃ D d, e = .returned (.tuple #[.agg (gcells 2 k D X.length d), .bool true]) ∧ w'.ownsRow w.heap.size 22 1 (.slice D X.length d) X.length (fls X) ∧ Below w.heap.size w w' := by
  have hmf : ∀ (fn : Fn) (first cap : Array Value) (w : World), (Instr.makeFunc fn first cap).run Try.prog w = .ok (.func fn first cap) w := fun _ _ _ _ => rfl
  have o0 := own_new ((w.alloc (.cells #[.int .i64 0, .int .i64 0, .slice none 0 0, .slice none 0 0] 37)).alloc (.cells #[.bool false] 4)) (w.heap.size + 1 + 1) 22 1 0 #[] (by simp) rfl (by simp) (g := w.heap.size + 1 + 1) (by simp)
  have hl4 := blk_al (blk_al (blk_new w 37 #[.int .i64 0, .int .i64 0, .slice none 0 0, .slice none 0 0]) (.cells #[.bool false] 4)) (.cells #[] 22)
  have hk4 := blk_al (blk_new (w.alloc (.cells #[.int .i64 0, .int .i64 0, .slice none 0 0, .slice none 0 0] 37)) 4 #[.bool false]) (.cells #[] 22)
  simp only [World.size_alloc] at hk4
  obtain ⟨D, d, w2, hr1, hD, hb2⟩ := app_rd (ty := 34) elem_f64 (c' := c) o0 (rdC_tr (rd1_C hr) (bl_al (bl_al (bl_al (bl_refl _) _) _) _)) (fls_one X) (by simp) (by unfold maxLen; omega) (by omega)
  have hs2 : w.heap.size + 1 + 1 ≤ w2.heap.size := by have := hb2.size; simp at this; omega
  have hbw : Below w.heap.size w w2 := (bl_al (bl_al (bl_al (bl_refl w) _) _) _).trans (hb2.mono (by omega))
  have hl2 := blk_below hl4 hb2 (by omega)
  have hk2 := blk_below hk4 hb2 (by omega)
  have hD' : w2.ownsRow (w.heap.size + 1 + 1) 22 1 (.slice D X.length d) X.length (X.map (.float .f64)) := by simpa using hD
  have HD := Lib.hid fun W => dimOf_any k hk W
  have HN := Lib.hid fun W => newSeq_ok k hk D X.length d m hX (by unfold maxLen; omega) W
  have HP := Lib.hid fun W (h : rd1 (.float .f64) W D X) => plainSeq_any k hk D X X.length d m W rfl hX h (by omega)
  simp only [Nat.zero_add] at hr1
  clear o0 hl4 hk4 hD hb2 hr hX
  generalize X.length = L at *
  go_enter_defers Try.func13, Try.ntmps13
  go_wp2_with (first | (at_builtin; refine list_append _ _ _ rfl rfl rfl rfl hr1 ?_))
  refine (HD.out _).mono ?_
  rintro e W ⟨rfl, rfl⟩
  go_wp2_with fail
  refine (HN.out _).mono ?_
  rintro e w3 ⟨rfl, hb3⟩
  have hD3 := own_tr hD' hb3
  have hl3 := blk_tr hl2 hb3
  have hk3 := blk_tr hk2 hb3
  have hbw3 := bl_tr hbw hb3
  have HP3 := Lib.hid (HP.out w3 (rd1_own hD3))
  have hs3 := hb3.size
  clear hl2 hk2 hb3 hD' HP HN HD hr1 hbw hD3
  go_wp2_with fail
  refine HP3.out.mono ?_
  rintro e w4 ⟨D', d', rfl, ho4, hb4⟩
  have hl := blk_tr hl3 hb4
  have hk := blk_tr hk3 hb4
  have hbw := bl_tr hbw3 hb4
  have hs4 := hb4.size
  clear hl3 hk3 hbw3 HP3 hb4 hmf
  have r0 := (blk_cell hl 0).trans rfl
  have r1 := (blk_cell hl 1).trans rfl
  have r2 := (blk_cell hl 2).trans rfl
  have r3 := (blk_cell hl 3).trans rfl
  have f0 := blk_frozen hl 0
  have f1 := blk_frozen hl 1
  have f2 := blk_frozen hl 2
  have f3 := blk_frozen hl 3
  have g0 := (blk_cell hk 0).trans rfl
  have z0 := blk_frozen hk 0
  have hn1 : ¬ (Value.slice D' L d').ownBlock = some w.heap.size := fun e => by have := (own_lt ho4 e).1; omega
  have hn2 : ¬ (Value.slice D' L d').ownBlock = some (w.heap.size + 1) := fun e => by have := (own_lt ho4 e).1; omega
  simp only [gcells]
  go_wp2
  have hfin : (((((w4.setCell ⟨w.heap.size, 0, none⟩ (.int .i64 2)).setCell ⟨w.heap.size, 1, none⟩ (.int .i64 k)).setCell ⟨w.heap.size, 2, none⟩ (.slice D' L d')).setCell ⟨w.heap.size, 3, none⟩ (.slice none 0 0)).setCell ⟨w.heap.size + 1, 0, none⟩ (.bool true)).ownsRow w.heap.size 22 1 (.slice D' L d') L (fls X) :=
    own_far (own_far (own_far (own_far (own_far (own_base ho4 (by omega)) hn1 _) hn1 _) hn1 _) hn1 _) hn2 _
  refine leaves_cons (f := 30) (args := #[.pointer (some ⟨w.heap.size, 0, none⟩), .pointer (some ⟨w.heap.size + 1, 0, none⟩)]) (by simp) (by simp [go_sem]) ?_
  refine (catch_idle _ _ _).mono ?_
  rintro e u' w'' ⟨rfl, rfl, rfl⟩
  refine ⟨_, by simp [results, Try.results13, go_sem, *]; rfl, D', d', rfl, hfin, ?_⟩
  repeat' (first | (with_reducible exact bl_refl _) | (with_reducible assumption) | (with_reducible apply bl_al) | (with_reducible apply bl_dr) | (with_reducible refine bl_st ?_ ?_ _) | (with_reducible refine bl_tr ?_ (by with_reducible assumption)) | (first | (with_reducible exact Nat.le_refl _) | (with_reducible assumption) | omega | (simp; omega) | (simp; done)))
theorem newSeqI_bad (k : Nat) (hk : k < 4) (A : Option Addr) (X : List Nat) (c : Nat) (w : World) (hX : ¬ X.length % wid k = 0) (hr : rd1 (.float .f64) w A X) (hL : X.length ≤ 2000) :
    Calls Try.prog 13 #[.slice A X.length c, .int .i64 k] w fun e w' => e = .returned (.tuple #[.agg #[.int .i64 0, .int .i64 0, .slice none 0 0, .slice none 0 0], .bool false]) ∧ Below w.heap.size w w' := by
  have hmf : ∀ (fn : Fn) (first cap : Array Value) (w : World), (Instr.makeFunc fn first cap).run Try.prog w = .ok (.func fn first cap) w := fun _ _ _ _ => rfl
  have o0 := own_new ((w.alloc (.cells #[.int .i64 0, .int .i64 0, .slice none 0 0, .slice none 0 0] 37)).alloc (.cells #[.bool false] 4)) (w.heap.size + 1 + 1) 22 1 0 #[] (by simp) rfl (by simp) (g := w.heap.size + 1 + 1) (by simp)
  have hl4 := blk_al (blk_al (blk_new w 37 #[.int .i64 0, .int .i64 0, .slice none 0 0, .slice none 0 0]) (.cells #[.bool false] 4)) (.cells #[] 22)
  have hk4 := blk_al (blk_new (w.alloc (.cells #[.int .i64 0, .int .i64 0, .slice none 0 0, .slice none 0 0] 37)) 4 #[.bool false]) (.cells #[] 22)
  simp only [World.size_alloc] at hk4
  obtain ⟨D, d, w2, hr1, hD, hb2⟩ := app_rd (ty := 34) elem_f64 (c' := c) o0 (rdC_tr (rd1_C hr) (bl_al (bl_al (bl_al (bl_refl _) _) _) _)) (fls_one X) (by simp) (by unfold maxLen; omega) (by omega)
  have hs2 : w.heap.size + 1 + 1 ≤ w2.heap.size := by have := hb2.size; simp at this; omega
  have hbw : Below w.heap.size w w2 := (bl_al (bl_al (bl_al (bl_refl w) _) _) _).trans (hb2.mono (by omega))
  have hl2 := blk_below hl4 hb2 (by omega)
  have hk2 := blk_below hk4 hb2 (by omega)
  have HD := Lib.hid fun W => dimOf_any k hk W
  have HN := Lib.hid fun W => newSeq_bad k hk D X.length d hX (by unfold maxLen; omega) W
  simp only [Nat.zero_add] at hr1
  clear o0 hl4 hk4 hD hb2 hr hX
  generalize X.length = L at *
  go_enter_defers Try.func13, Try.ntmps13
  go_wp2_with (first | (at_builtin; refine list_append _ _ _ rfl rfl rfl rfl hr1 ?_))
  refine (HD.out _).mono ?_
  rintro e W ⟨rfl, rfl⟩
  go_wp2_with fail
  refine (HN.out _).mono ?_
  rintro e w3 ⟨⟨t, v, rfl⟩, hb3⟩
  have hl := blk_tr hl2 hb3
  have hk := blk_tr hk2 hb3
  have hbw3 := bl_tr hbw hb3
  have hs3 := hb3.size
  clear hl2 hk2 hb3 HN HD hr1 hbw
  go_wp2
  refine leaves_cons (f := 30) (args := #[.pointer (some ⟨w.heap.size, 0, none⟩), .pointer (some ⟨w.heap.size + 1, 0, none⟩)]) (by simp) (by simp [go_sem]) ?_
  refine (catch_panicking w.heap.size (w.heap.size + 1) t v [] _ hl hk (by omega)).mono ?_
  rintro e u' W ⟨rfl, rfl, hB, hl', hk'⟩
  have r0 := (blk_cell hl' 0).trans rfl
  have r1 := (blk_cell hl' 1).trans rfl
  have r2 := (blk_cell hl' 2).trans rfl
  have r3 := (blk_cell hl' 3).trans rfl
  have g0 := (blk_cell hk' 0).trans rfl
  refine ⟨_, by simp [results, Try.results13, go_sem, *], rfl, ?_⟩
  exact hbw3.trans (hB _ (Nat.le_refl _) (by omega))
end Go.Proofs.Ytomhegagdpaieaa
