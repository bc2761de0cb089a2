/-
  Contract: spec.Segs (the segments of a line; a place that follows its like makes none).
-/
import Derived.Test.YtbigadbnijpcjaaSgs
namespace Go.Proofs.Ytbigadbnijpcjaa
open Go.RowKit Fl
theorem eqI (d : Nat) (a b : Int) (w : World) : (Op.equalIn (d + 1) 3 (.int .i64 a) (.int .i64 b)).run Try.prog w = .ok (a == b) w := by
  simp [Op.equalIn, run_underlying Try.underlying3]
theorem eqPt_d (d : Nat) (a b a' b' : Int) (w : World) : (Op.equalIn (d + 2) 45 (.agg #[.int .i64 a, .int .i64 b]) (.agg #[.int .i64 a', .int .i64 b'])).run Try.prog w = .ok (a == a' && b == b') w := by
  have hS : Try.prog.underlying 45 = some (.struct (Try.prog.fieldsOf 45)) := by kernel_rfl
  rw [run_equalIn_agg w (d + 1) 45 _ _ hS (by kernel_rfl)]
  have e := eqI d
  have a3 := Try.isAgg3
  have z3 := Try.sizeOf3
  simp only [Program.fieldsOf, Try.underlying45]
  go_simp
  by_cases h1 : a = a' <;> by_cases h2 : b = b' <;> simp [h1, h2]
theorem neqPt (a b a' b' : Int) (w : World) : (binOp .neq 45 (.agg #[.int .i64 a, .int .i64 b]) (.agg #[.int .i64 a', .int .i64 b'])).run Try.prog w = .ok (.bool (!(a == a' && b == b'))) w := by
  rw [run_neq_struct, eqPt_d 9998 a b a' b' w]; rfl
attribute [local go_sem ↓] neqPt
theorem elem_Seg : ElemOk Try.prog 37 47 4 32 := elemOk (z := .agg #[.int .i64 0, .int .i64 0, .int .i64 0, .int .i64 0]) Try.underlying37 (by omega) (by kernel_rfl) rfl
/-- The segments among the first k places. -/
def sgTo (l : List (Int × Int)) (k : Nat) : List ((Int × Int) × (Int × Int)) := (List.range (k - 1)).filterMap fun i => match l[i]?, l[i + 1]? with
  | some p, some q => if p = q then none else some (p, q)
  | _, _ => none
theorem sgTo_snoc {l : List (Int × Int)} {k : Nat} {p q : Int × Int} (h1 : l[k]? = some p) (h2 : l[k + 1]? = some q) : sgTo l (k + 2) = sgTo l (k + 1) ++ (if p = q then [] else [(p, q)]) := by
  unfold sgTo
  rw [show k + 2 - 1 = k + 1 by omega, show k + 1 - 1 = k by omega, List.range_succ, List.filterMap_append]
  congr 1
  simp only [List.filterMap_cons, List.filterMap_nil, h1, h2]
  split <;> simp_all
def sgC : List ((Int × Int) × (Int × Int)) → List Value
  | [] => []
  | s :: l => .int .i64 s.1.1 :: .int .i64 s.1.2 :: .int .i64 s.2.1 :: .int .i64 s.2.2 :: sgC l
theorem sgC_append : ∀ a b, sgC (a ++ b) = sgC a ++ sgC b
  | [], b => rfl
  | p :: a, b => by simp [sgC, sgC_append a b]
theorem sgTo_len (l : List (Int × Int)) (k : Nat) : (sgTo l k).length ≤ k - 1 := by
  unfold sgTo
  refine Nat.le_trans (List.length_filterMap_le _ _) ?_
  rw [List.length_range]; exact Nat.le_refl _
set_option maxRecDepth 100000 in
theorem segs_any (A : Option Addr) (l : List (Int × Int)) (n c : Nat) (w : World) (hn : l.length = n) (hr : rdPl w A l) (hl : n ≤ 65536) :
    Calls Try.prog 23 #[.slice A n c] w fun e w' => ∃ D d, e = .returned (.slice D (sgTo l n).length d) ∧ w'.ownsRow w.heap.size 47 4 (.slice D (sgTo l n).length d) (sgTo l n).length (sgC (sgTo l n)) ∧ Below w.heap.size w w' := by
  have HN := Lib.hid hn
  clear hn
  go_enter Try.func23, Try.ntmps23
  go_wp2
  go_loopw [3, 4] (fun s i wr => ∃ (k : Nat) (D : Option Addr) (d : Nat), k ≤ n - 1 ∧ i = .int .i64 (k + 1) ∧ s = .slice D (sgTo l (k + 1)).length d ∧ Below w.heap.size w wr ∧
    wr.ownsRow w.heap.size 47 4 (.slice D (sgTo l (k + 1)).length d) (sgTo l (k + 1)).length (sgC (sgTo l (k + 1)))) (fun _ i _ => n + 1 - (intOf i).toNat)
  case atStart =>
    refine ⟨0, none, 0, Nat.zero_le _, rfl, rfl, ?_, own_nil _ _ _ _⟩
    repeat' (first | (with_reducible exact bl_refl _) | (with_reducible assumption) | (with_reducible apply bl_al) | (with_reducible apply bl_dr) | (with_reducible refine bl_st ?_ ?_ _) | (with_reducible refine bl_tr ?_ (by with_reducible assumption)) | (first | (with_reducible exact Nat.le_refl _) | (with_reducible assumption) | omega | (simp; omega) | (simp; done)))
  case round =>
    obtain ⟨k, D, d, hk, rfl, rfl, hbw, hown⟩ := hrel
    by_cases hlt : k + 1 < n
    · obtain ⟨p, ep⟩ : ∃ p, l[k]? = some p := ⟨_, List.getElem?_eq_getElem (by have := HN.out; omega)⟩
      obtain ⟨q, eq⟩ : ∃ q, l[k + 1]? = some q := ⟨_, List.getElem?_eq_getElem (by have := HN.out; omega)⟩
      obtain ⟨b, off, rfl, hb, hx⟩ := hr (by have := HN.out; omega)
      obtain ⟨p1, p2⟩ := p
      obtain ⟨q1, q2⟩ := q
      obtain ⟨c0, c1⟩ := hx k _ ep
      obtain ⟨c2, c3⟩ := hx (k + 1) _ eq
      simp only at c0 c1 c2 c3
      have d0 := (bl_rc hbw hb _).trans c0
      have d1 := (bl_rc hbw hb _).trans c1
      have d2 := (bl_rc hbw hb _).trans c2
      have d3 := (bl_rc hbw hb _).trans c3
      have hS := sgTo_snoc ep eq
      have hlen := sgTo_len l (k + 1)
      have hz := hbw.size
      clear c0 c1 c2 c3 ep eq hx hr
      have hkn : k < n := by omega
      have hbl : b < wr.heap.size := by omega
      obtain ⟨k1, hk1⟩ : ∃ k1, k + 1 = k1 := ⟨_, rfl⟩
      have hs1 : (k : Int) + 1 = (k1 : Int) := by omega
      have hs2 : (k1 : Int) - 1 = (k : Int) := by omega
      have hk1n : k1 < n := by omega
      rw [hk1] at d2 d3
      by_cases hpq : (p1, p2) = (q1, q2)
      · rw [if_pos hpq, List.append_nil] at hS
        have HS := Lib.hid hS
        have e0 : (p1 == q1 && p2 == q2) = true := by cases hpq; simp
        clear hpq hS
        generalize hm : (sgTo l (k + 1)).length = m at *
        have HM := Lib.hid hm
        clear hm
        go_wp2
        refine wp_region_seq [] (by kernel_rfl) (by kernel_rfl) ?_
        repeat (refine sq_soft (fun K hK => ?_); go_simp; (try (go_ints; (try simp (disch := omega) only [if_pos]); (try go_simp))); refine hK _ ?_; clear hK K)
        refine sq_nil ?_
        go_wp2
        go_roundw
        case rel =>
          have e1 : sgTo l (k + 1 + 1) = sgTo l (k + 1) := HS.out
          refine ⟨k + 1, D, d, by omega, by go_num, by rw [e1, HM.out], by repeat' (first | (with_reducible exact bl_refl _) | (with_reducible assumption) | (with_reducible apply bl_al) | (with_reducible apply bl_dr) | (with_reducible refine bl_st ?_ ?_ _) | (with_reducible refine bl_tr ?_ (by with_reducible assumption)) | (first | (with_reducible exact Nat.le_refl _) | (with_reducible assumption) | omega | (simp; omega) | (simp; done))), ?_⟩
          rw [e1, HM.out]
          exact own_tr hown (bl_dr (bl_refl _))
        case measure => simp [intOf]; omega
      · rw [if_neg hpq] at hS
        have HS := Lib.hid hS
        have e0 : (p1 == q1 && p2 == q2) = false := by
          cases h : (p1 == q1 && p2 == q2)
          · rfl
          · exfalso; apply hpq; simp at h; rw [h.1, h.2]
        clear hpq hS
        generalize hm : (sgTo l (k + 1)).length = m at *
        have HM := Lib.hid hm
        clear hm
        go_wp2
        refine wp_region_seq [] (by kernel_rfl) (by kernel_rfl) ?_
        repeat (refine sq_soft (fun K hK => ?_); go_simp; (try (go_ints; (try simp (disch := omega) only [if_pos]); (try go_simp))); refine hK _ ?_; clear hK K)
        refine sq_nil ?_
        go_wp2
        have hownW := own_tr hown (bl_dr (bl_refl _))
        have hbwW : Below w.heap.size w wr.drew := bl_dr hbw
        have f0 : wr.drew.cell? ⟨b, off + k * 2, none⟩ = _ := d0
        have f1 : wr.drew.cell? ⟨b, off + k * 2 + 1, none⟩ = _ := d1
        have f2 : wr.drew.cell? ⟨b, off + k1 * 2, none⟩ = _ := d2
        have f3 : wr.drew.cell? ⟨b, off + k1 * 2 + 1, none⟩ = _ := d3
        have hbW : b < wr.drew.heap.size := hbl
        have hsW : w.heap.size ≤ wr.drew.heap.size := hz
        generalize wr.drew = W at *
        obtain ⟨D', d', w', hr, hown', hbw', hk', _, hlt'⟩ := app_new (P := Try.prog) (t := 37) (ty := 37) (w := W.drew) elem_Seg #[.int .i64 p1, .int .i64 p2, .int .i64 q1, .int .i64 q2] (own_tr hownW (bl_dr (bl_refl _))) (m := 1) (g := W.heap.size) rfl (by simp [Value.oneCell']) rfl (by simp; omega) (by unfold maxLen; omega) (by omega)
        clear hown hownW hk' d0 d1 d2 d3
        refine wp_region_seq_tail [11] 12 (by kernel_rfl) (by kernel_rfl) ?_; simp only [List.take_succ_cons, List.take_zero, List.drop_succ_cons, List.drop_zero]
        repeat (refine sq_soft (fun K hK => ?_); go_simp; (try (go_ints; (try simp (disch := omega) only [if_pos]); (try go_simp))); refine hK _ ?_; clear hK K)
        refine sq_heavy rfl rfl (fun K hK => ?_); go_simp; refine hK _ _ (Below.mono (bl_al (bl_refl _) _) ?_) ?_; (focus (first | (with_reducible exact Nat.le_refl _) | (with_reducible assumption) | omega | (simp; omega) | (simp; done))); clear hK K; (try simp only [Act.put, List.setIfInBounds_toArray, List.set_cons_zero, List.set_cons_succ])
        refine sq_nil ?_
        go_wp2_with (first | (at_builtin; refine list_append _ _ _ rfl rfl rfl rfl hr ?_))
        go_roundw
        case rel =>
          have e1 : sgTo l (k + 1 + 1) = sgTo l (k + 1) ++ [((p1, p2), (q1, q2))] := HS.out
          have e2 : (sgTo l (k + 1 + 1)).length = m + 1 := by rw [e1, List.length_append, HM.out]; rfl
          refine ⟨k + 1, D', d', by omega, by go_num, by rw [e2], (bl_dr hbwW).trans (hbw'.mono (by omega)), ?_⟩
          rw [e2, e1, sgC_append]
          exact hown'
        case measure => simp [intOf]; omega
    · have hc : ¬ (k : Int) + 1 < (n : Int) := by omega
      have hS : sgTo l (k + 1) = sgTo l n := by
        rcases Nat.eq_zero_or_pos n with h0 | h0
        · rw [h0, show k = 0 by omega]; rfl
        · rw [show k + 1 = n by omega]
      rw [hS] at hown ⊢
      clear hS
      go_wp2
      go_ret
      exact ⟨D, d, rfl, hown, hbw⟩
end Go.Proofs.Ytbigadbnijpcjaa
