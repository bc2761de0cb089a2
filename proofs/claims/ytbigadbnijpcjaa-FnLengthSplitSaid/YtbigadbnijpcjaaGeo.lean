/-
  Contracts: from plain data to sequences and line strings: dimOf, sequence, line.
-/
import Derived.Test.YtbigadbnijpcjaaSg
import Derived.Test.YtbigadbnijpcjaaTree
import Derived.Laws.BitsLemmas
import Derived.Laws.CopyRow
import Derived.Laws.MakeOwn
namespace Go.Proofs.Ytbigadbnijpcjaa
open Go.RowKit
/-- The last two bits. -/
def d3 (x : Int) : Nat := (x % 4).toNat
theorem d3_lt (x : Int) : d3 x < 4 := by unfold d3; omega
theorem and3 (n : Int) : bits .and .i64 n 3 = (d3 n : Int) := by
  have h127 : (BitVec.ofInt 64 3).toNat = 2 ^ 2 - 1 := by decide
  have key : (BitVec.ofInt 64 n &&& BitVec.ofInt 64 3).toNat = (n % ((2 ^ 64 : Nat) : Int)).toNat % 2 ^ 2 := by
    rw [BitVec.toNat_and, BitVec.toNat_ofInt, h127, Nat.and_two_pow_sub_one_eq_mod]
  show IntKind.i64.wrap ((BitVec.ofInt 64 n &&& BitVec.ofInt 64 3).toNat : Nat) = _
  rw [key, IntKind.wrap_i64]
  unfold d3
  omega
theorem d3_nat {k : Nat} (h : k < 4) : d3 k = k := by unfold d3; omega
theorem dimOf_all (x : Int) (w : World) :
    Calls Try.prog 71 #[.int .i64 x] w fun e w' => e = .returned (.int .u8 (d3 x)) ∧ w = w' := by
  have ha := and3 x
  have hd := d3_lt x
  go_enter Try.func71, Try.ntmps71
  go_wp2
  go_ret
  refine ⟨?_, rfl⟩
  simp [go_sem, ha, IntKind.wrap_u8']
  try omega
theorem make_f64 (n : Nat) (hn : n ≤ 65536) (W : World) :
    (Instr.makeSlice 22 (.int .i64 (n : Int)) (.int .i64 (n : Int))).run Try.prog W = .ok (.slice (some ⟨W.heap.size, 0, none⟩) n n) (W.alloc (.cells (madeCells #[.float .f64 0] n) 33)) := by
  obtain ⟨i0, hi, hz0, hz1, hz2⟩ := info_parts (show (Try.prog.info? 33).map (fun i => (i.zero, i.size, i.bytes)) = some (some (.float .f64 0), 1, 8) by kernel_rfl)
  have := run_make W 22 33 i0 _ Try.underlying22 hi hz0 .i64 .i64 (n : Int) (n : Int) (by omega) (by omega) (by rw [hz2]; omega) (by omega)
  rw [hz1] at this
  simp only [Int.toNat_natCast, Nat.mul_one] at this
  exact this
/-- 'copy' at a plain region's list of operations, by what its run comes to. -/
theorem list_copy {P : Program} {ops : Array Oper} {rest : List Oper} {o : Oper} {a : Act} {w w' : World} {Q : Exit → Act → World → Prop} (s x : Operand) (t : TypeId) {v u r : Value} (hgd : o.guard = none)
    (ho : o.op = .call { callee := .builtin .copy, args := #[s, x], argTypes := #[t, t] }) (hs : a.eval s = v) (hx : a.eval x = u)
    (hr : (Builtin.copy_ #[t, t] o.type #[v, u]).run P w = .ok r w') (hK : wpList P ops Q rest (a.put o.dst r) w') : wpList P ops Q (o :: rest) a w := by
  refine wpList_plain hgd fun K hKK => ?_
  unfold Oper.wp execOp
  simp only [ho, resolve, invoke, builtin, Sem.run_bind, Sem.run_pure, Result.andThen_ok, List.map_toArray, List.map_cons, List.map_nil, hs, hx, hr]
  exact hKK _ _ hK
theorem fls_take (X : List Nat) (n : Nat) : (fls X).take n = fls (X.take n) := by simp [fls]
/-- Numbers laid into a block that was made for them. -/
theorem copy_new (A : Option Addr) (X : List Nat) (c n N : Nat) (w : World) (hr : rd1 (.float .f64) w A X) (hn : X.length = n) (hN : N ≤ n) :
    ∃ w', (Builtin.copy_ #[22, 22] 3 #[.slice (some ⟨w.heap.size, 0, none⟩) N N, .slice A n c]).run Try.prog (w.alloc (.cells (madeCells #[.float .f64 0] N) 33)) = .ok (goInt N) w' ∧
      rd1 (.float .f64) w' (some ⟨w.heap.size, 0, none⟩) (X.take N) ∧ Below w.heap.size w w' ∧ w.heap.size < w'.heap.size := by
  rcases Nat.eq_zero_or_pos N with h0 | h0
  · subst h0
    refine ⟨_, run_copy_none _ _ _ _ 33 _ _ _ _ _ _ Try.underlying22 (by kernel_rfl) (by simp), rd1_nil _ _, bl_al (bl_refl _) _, by simp⟩
  · obtain ⟨b, off, rfl, hb, hc⟩ := hr (by omega)
    have hB := blk_new w 33 (madeCells #[.float .f64 0] N)
    have hlen : (fls (X.take N)).length = N := by simp [fls]; omega
    have hsrc : ∀ j v, (fls (X.take N))[j]? = some v → (w.alloc (.cells (madeCells #[.float .f64 0] N) 33)).cell? ((⟨b, off, none⟩ : Addr).add j) = some v := by
      intro j v hv
      rw [add_off, bl_rc (bl_al (bl_refl w) _) hb]
      simp only [fls, List.getElem?_map] at hv
      cases hx : (X.take N)[j]? with
      | none => rw [hx] at hv; cases hv
      | some x =>
        rw [hx] at hv
        have hj : j < N := by
          have := (List.getElem?_eq_some_iff.1 hx).1
          simp at this; omega
        rw [List.getElem?_take_of_lt hj] at hx
        rw [hc j x hx]; exact hv
    have hrun := run_copy_row (P := Try.prog) (w.alloc (.cells (madeCells #[.float .f64 0] N) 33)) 22 22 3 33 w.heap.size 0 N N ⟨b, off, none⟩ n c (madeCells #[.float .f64 0] N) 33 (fls (X.take N))
      Try.underlying22 (by kernel_rfl) hB (by rw [hlen]; show N = min n N; omega) hsrc (by rw [hlen, size_madeCells]; omega) (fls_one _)
    have hcs : (madeCells #[.float .f64 0] N).toList.take 0 ++ fls (X.take N) ++ (madeCells #[.float .f64 0] N).toList.drop (0 + (fls (X.take N)).length) = fls (X.take N) := by
      rw [hlen, List.drop_of_length_le (by simp [size_madeCells])]
      simp
    rw [hcs, hlen] at hrun
    have hB' : Blk ((w.alloc (.cells (madeCells #[.float .f64 0] N) 33)).setRow w.heap.size (fls (X.take N)).toArray) w.heap.size 33 (fls (X.take N)).toArray := setRow_heap _ _ _ _ _ _ hB
    refine ⟨_, hrun, fun _ => ⟨_, 0, rfl, blk_lt hB', fun i x hx => ?_⟩, ?_, blk_lt hB'⟩
    · rw [blk_cell hB', Nat.zero_add, List.getElem?_toArray]
      unfold fls
      rw [List.getElem?_map, hx]; rfl
    · exact (bl_al (bl_refl w) _).trans ⟨rfl, rfl, rfl, by simp [World.setRow], fun k hk => setRow_other _ _ k _ (by omega)⟩
theorem cell_far {w : World} {b off : Nat} {p : Addr} (v : Value) (h : b ≠ p.block) : (w.setCell p v).cell? ⟨b, off, none⟩ = w.cell? ⟨b, off, none⟩ := by
  unfold World.cell?
  rw [Below.heap_setCell w p v b h]
theorem rd1_far {α : Type} {f : α → Value} {w : World} {A : Option Addr} {l : List α} {p : Addr} (h : rd1 f w A l) (v : Value) (hA : ∀ b o, A = some ⟨b, o, none⟩ → b ≠ p.block) : rd1 f (w.setCell p v) A l := fun hl => by
  obtain ⟨b, off, rfl, hb, hc⟩ := h hl
  exact ⟨b, off, rfl, by simpa using hb, fun i x hx => by rw [cell_far v (hA b off rfl)]; exact hc i x hx⟩
def fit (x : Int) (n : Nat) : Nat := n / wid (d3 x) * wid (d3 x)
theorem wid_pos (k : Nat) : 0 < wid k := by unfold wid; omega
theorem fit_le (x : Int) (n : Nat) : fit x n ≤ n := Nat.div_mul_le_self _ _
theorem fit_eq (x : Int) (n : Nat) : (n : Int) - (n : Int) % (wid (d3 x) : Int) = (fit x n : Int) := by
  unfold fit
  have := Nat.div_add_mod n (wid (d3 x))
  have h2 : ((n % wid (d3 x) : Nat) : Int) = (n : Int) % (wid (d3 x) : Int) := by simp
  rw [← h2, Nat.mul_comm (n / _)]
  omega
set_option maxRecDepth 100000 in
theorem sequence_any (A : Option Addr) (X : List Nat) (n c : Nat) (x : Int) (w : World) (hn : X.length = n) (hr : rd1 (.float .f64) w A X) (hl : n ≤ 65536) :
    Calls Try.prog 111 #[.slice A n c, .int .i64 x] w fun e w' => ∃ g, e = .returned (.agg #[.int .u8 (d3 x), .slice (some ⟨g, 0, none⟩) (fit x n) (fit x n)]) ∧ w.heap.size ≤ g ∧ rd1 (.float .f64) w' (some ⟨g, 0, none⟩) (X.take (fit x n)) ∧ Below w.heap.size w w' := by
  have HD := Lib.hid fun W => dimOf_all x W
  have HM := Lib.hid fun W => dim_any (d3 x) (d3_lt x) W
  have hfit := fit_eq x n
  have hfl := fit_le x n
  have hwp := wid_pos (d3 x)
  have hw4 : wid (d3 x) ≤ 4 := by unfold wid; omega
  have HQ := Lib.hid fun (g : Nat) W => newSeq_ok (d3 x) (d3_lt x) (some ⟨g, 0, none⟩) (fit x n) (fit x n) (n / wid (d3 x)) rfl (by unfold maxLen; omega) W
  have hmk := make_f64 (fit x n) (by omega)
  obtain ⟨w1, hcp, hr1, hb1, hlt⟩ := copy_new A X c n (fit x n) (w.alloc (.cells #[.int .u8 0, .slice none 0 0] 111)) (rd1_tr hr (bl_al (bl_refl w) _)) hn hfl
  have HR := Lib.hid hr1
  have hbw := (bl_al (bl_refl w) (.cells #[.int .u8 0, .slice none 0 0] 111)).trans (hb1.mono (by simp))
  have k0 := (blk_cell (blk_tr (blk_new w 111 #[.int .u8 0, .slice none 0 0]) hb1) 0).trans (rfl : _ = some (Value.int .u8 0))
  have k1 := (blk_cell (blk_tr (blk_new w 111 #[.int .u8 0, .slice none 0 0]) hb1) 1).trans (rfl : _ = some (Value.slice none 0 0))
  have hBq := blk_tr (blk_new w 111 #[.int .u8 0, .slice none 0 0]) hb1
  simp only [World.size_alloc] at hcp
  clear hr hr1 hb1 hlt k0 k1
  generalize fit x n = N at *
  generalize wid (d3 x) = d at *
  generalize d3 x = k at *
  go_enter Try.func111, Try.ntmps111
  go_wp2_with fail
  refine (HD.out _).mono ?_
  rintro e W ⟨rfl, rfl⟩
  go_wp2_with fail
  refine (HM.out _).mono ?_
  rintro e W ⟨rfl, rfl⟩
  go_wp2_with (first | (at_builtin; refine list_copy _ _ _ rfl rfl rfl rfl hcp ?_))
  refine (HQ.out _ _).mono ?_
  rintro e w2 ⟨rfl, hb2⟩
  have hB2 := blk_tr hBq hb2
  have hf := fun i => blk_frozen hB2 i
  have k0 := (blk_cell hB2 0).trans (rfl : _ = some (Value.int .u8 0))
  have k1 := (blk_cell hB2 1).trans (rfl : _ = some (Value.slice none 0 0))
  have hR2 := rd1_tr HR.out hb2
  go_wp2
  refine bodyPost_ret (v := .agg #[.int .u8 k, .slice (some ⟨w.heap.size + 1, 0, none⟩) N N]) (by simp [results, Try.results111, go_sem, *]) rfl ⟨_, rfl, by omega, ?_, ?_⟩
  · exact rd1_far (rd1_far (by simpa using hR2) _ (by rintro b o ⟨⟩; simp)) _ (by rintro b o ⟨⟩; simp)
  · repeat' (first | (with_reducible exact bl_refl _) | (with_reducible assumption) | (with_reducible apply bl_al) | (with_reducible apply bl_dr) | (with_reducible refine bl_st ?_ ?_ _) | (with_reducible refine bl_tr ?_ (by with_reducible assumption)) | (first | (with_reducible exact Nat.le_refl _) | (with_reducible assumption) | omega | (simp; omega) | (simp; done)))
end Go.Proofs.Ytbigadbnijpcjaa
