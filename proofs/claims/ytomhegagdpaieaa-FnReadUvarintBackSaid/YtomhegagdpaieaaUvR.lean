/-
  Contracts: newTWKBParser, parseUnsignedVarint, DoorUvarint, impl.ReadUvarint on the bytes of a number with others behind them.
-/
import Derived.Test.YtomhegagdpaieaaUv
import Derived.Test.YtomhegagdpaieaaNum
import Derived.Test.YtomhegagdpaieaaSeq
import Derived.Deep.QuietTactic
import Derived.BigQuiet
import Derived.Deep.WholeRow
import Derived.Deep.MidRow
import Derived.OwnWalk
namespace Go.Proofs.Ytomhegagdpaieaa
open Go.RowKit
theorem list_store_new {P : Program} {ops : Array Oper} {rest : List Oper} {op : Oper} {a : Act} {w : World} {Q : Exit → Act → World → Prop} (t : TypeId) (x y : Operand) {c c' : Array Value} (hgd : op.guard = none)
    (ho : op.op = .store t x y) (hx : a.eval x = .pointer (some ⟨w.heap.size, 0, none⟩)) (hy : a.eval y = .agg c') (hi : (P.info? t).map (·.size) = some c'.size) (hs : c.size = c'.size)
    (h1 : c'.all (·.oneCell') = true) (hK : wpList P ops Q rest (a.put op.dst undef) (w.alloc (.cells c' t))) : wpList P ops Q (op :: rest) a (w.alloc (.cells c t)) := by
  refine wpList_plain hgd fun K hKK => ?_
  unfold Oper.wp execOp
  simp only [ho, hx, hy, Sem.run_bind, Sem.run_pure, Result.andThen_ok, run_storeAt_new w t c c' hi hs h1]
  exact hKK _ _ hK
/-- The reader's cells, over the bytes A .. (n of them), at its beginning. -/
def twk (A : Option Addr) (n c : Nat) : Array Value := #[.slice A n c, .int .i64 0, .int .i64 0, .int .u8 0, .int .i64 2, .int .i64 0, .bool false, .bool false, .int .i64 0, .int .i64 0, .float .f64 0, .float .f64 0, .float .f64 0, .float .f64 0,
  .bool false, .bool false, .bool false, .bool false, .bool false, .slice none 0 0, .slice none 0 0, .int .i64 0, .int .i64 0, .int .i64 0, .int .i64 0]
set_option maxRecDepth 100000 in
theorem np_any (A : Option Addr) (n c : Nat) (w : World) :
    Calls Try.prog 49 #[.slice A n c] w fun e w' => e = .returned (.agg (twk A n c)) ∧ Below w.heap.size w w' := by
  go_enter Try.func49, Try.ntmps49
  go_wp2_with (first | (refine list_store_new 95 _ _ rfl rfl rfl rfl (by kernel_rfl) (by kernel_rfl) (by kernel_rfl) ?_))
  refine bodyPost_ret (v := .agg (twk A n c)) ?_ rfl ⟨rfl, ?_⟩
  · have hl := run_loadVar_row (P := Try.prog) (w.alloc (.cells (twk A n c) 95)) w.heap.size 95 95 (twk A n c) (0, 0) _ (heap_alloc_last _ _) Try.underlying95 rfl (by kernel_rfl)
    change (results Try.f49 _).run _ (w.alloc (.cells (twk A n c) 95)) = .ok (.agg (twk A n c)) (w.alloc (.cells (twk A n c) 95))
    generalize twk A n c = C at *
    simp [results, Try.results49, asAddr, Act.put, hl]
  · repeat' (first | (with_reducible exact bl_refl _) | (with_reducible assumption) | (with_reducible apply bl_al) | (with_reducible apply bl_dr) | (with_reducible refine bl_st ?_ ?_ _) | (with_reducible refine bl_tr ?_ (by with_reducible assumption)) | (first | (with_reducible exact Nat.le_refl _) | (with_reducible assumption) | omega | (simp; omega) | (simp; done)))
theorem bl_ofdrew {w W : World} (h : Below w.drew.heap.size w.drew W) : Below w.heap.size w W := ⟨h.os, h.tape, h.output, h.size, h.block⟩
theorem binUv_bl (n : Nat) (hn : n < 18446744073709551616) (rest : List Nat) (b cap : Nat) (w : World) (hl : (uvB n ++ rest).length ≤ maxLen)
    (h : ∀ (j x : Nat), (uvB n ++ rest)[j]? = some x → w.cell? ⟨b, j, none⟩ = some (.int .u8 (x : Int))) :
    Calls Try.prog 67 #[.slice (some ⟨b, 0, none⟩) (uvB n ++ rest).length cap] w fun e w' => e = .returned (.tuple #[.int .u64 n, .int .i64 (uvB n).length]) ∧ Below w.heap.size w w' :=
  (binUv_any n hn rest b 0 cap w hl (by simpa using h)).mono fun e w' ⟨h, h'⟩ => ⟨h, h' ▸ Below.refl _ _⟩
theorem parse_any (n : Nat) (hn : n < 18446744073709551616) (rest : List Nat) (b cap g : Nat) (w : World) (hl : (uvB n ++ rest).length ≤ maxLen) (hcap : (uvB n ++ rest).length ≤ cap)
    (h : ∀ (j x : Nat), (uvB n ++ rest)[j]? = some x → w.cell? ⟨b, j, none⟩ = some (.int .u8 (x : Int))) (hb : b < w.heap.size) (hg : g < w.heap.size)
    (h0 : w.cell? ⟨g, 0, none⟩ = some (.slice (some ⟨b, 0, none⟩) (uvB n ++ rest).length cap)) (h1 : w.cell? ⟨g, 1, none⟩ = some (.int .i64 0)) (hf : w.frozen? ⟨g, 1, none⟩ = false) :
    Calls Try.prog 50 #[.pointer (some ⟨g, 0, none⟩)] w fun e w' => e = .returned (.tuple #[.int .u64 n, .nilIface]) ∧ ∃ w1, Below w.heap.size w w1 ∧ w' = w1.setCell ⟨g, 1, none⟩ (.int .i64 (uvB n).length) := by
  have hp := uvB_pos n
  have hle : (uvB n).length ≤ (uvB n ++ rest).length := by simp
  have h10 := uvB_len64 hn
  have HB := Lib.hid (binUv_bl n hn rest b cap)
  generalize hL : (uvB n ++ rest).length = L at *
  generalize (uvB n).length = U at *
  clear hL
  go_enter Try.func50, Try.ntmps50
  go_wp2
  refine wp_region_seq [9] (by kernel_rfl) (by kernel_rfl) ?_
  repeat (refine sq_soft (fun K hK => ?_); go_simp; refine hK _ ?_; clear hK K)
  refine sq_heavy rfl rfl (fun K hK => ?_); go_simp; refine (HB.out (World.drew _) hl h).mono ?_; rintro e w1 ⟨rfl, hb1⟩; refine ⟨_, rfl, ?_⟩; refine hK _ _ (Below.mono hb1 (by (first | (with_reducible exact Nat.le_refl _) | (with_reducible assumption) | omega | (simp; omega) | (simp; done)))) ?_; clear hK K; (try simp only [Act.put, List.setIfInBounds_toArray, List.set_cons_zero, List.set_cons_succ])
  repeat (refine sq_soft (fun K hK => ?_); go_simp; refine hK _ ?_; clear hK K)
  refine sq_nil ?_
  have c1 := (bl_rc hb1 hg 1).trans h1
  have f1 := (bl_rf hb1 hg 1).trans hf
  go_wp2
  refine bodyPost_ret (v := .tuple #[.int .u64 n, .nilIface]) (by simp [results, Try.results50, go_sem, ]) rfl ⟨rfl, ?_⟩
  exact ⟨w1, bl_ofdrew hb1, rfl⟩
set_option maxRecDepth 100000 in
theorem door_any (n : Nat) (hn : n < 18446744073709551616) (rest : List Nat) (b cap : Nat) (w : World) (hl : (uvB n ++ rest).length ≤ maxLen) (hcap : (uvB n ++ rest).length ≤ cap)
    (h : ∀ (j x : Nat), (uvB n ++ rest)[j]? = some x → w.cell? ⟨b, j, none⟩ = some (.int .u8 (x : Int))) (hb : b < w.heap.size) :
    Calls Try.prog 29 #[.slice (some ⟨b, 0, none⟩) (uvB n ++ rest).length cap] w fun e w' => e = .returned (.tuple #[.int .u64 n, .int .i64 (uvB n).length, .nilIface]) ∧ Below w.heap.size w w' := by
  have HN := Lib.hid fun c W => np_any (some ⟨b, 0, none⟩) (uvB n ++ rest).length c W
  have HP := Lib.hid fun g W => parse_any n hn rest b cap g W hl hcap
  generalize hL : (uvB n ++ rest).length = L at *
  generalize (uvB n).length = U at *
  clear hL
  go_enter Try.func29, Try.ntmps29
  go_wp2_with fail; refine (HN.out cap _).mono ?_; rintro e w1 ⟨rfl, hb1⟩
  have hz := hb1.size
  have HC : Hid (∀ (j x : Nat), (uvB n ++ rest)[j]? = some x → (w1.alloc (.cells (twk (some ⟨b, 0, none⟩) L cap) 95)).cell? ⟨b, j, none⟩ = some (.int .u8 (x : Int))) := fun j x hx => (bl_rc (bl_al (Below.refl _ _) _) (by omega) j).trans ((bl_rc hb1 hb j).trans (h j x hx))
  clear h
  go_wp2_with (first | (refine list_store_new 95 _ _ rfl rfl rfl rfl (by kernel_rfl) (by kernel_rfl) (by kernel_rfl) ?_))
  have hB := blk_new w1 95 (twk (some ⟨b, 0, none⟩) L cap)
  refine (HP.out w1.heap.size _ HC.out (by simp; omega) (by simp) ((blk_cell hB 0).trans rfl) ((blk_cell hB 1).trans rfl) (blk_frozen hB 1)).mono ?_
  rintro e W ⟨rfl, w2, hb2, rfl⟩
  have hb3 : Below w.heap.size w w2 := bl_tr (bl_al (bl_tr (bl_refl w) hb1) _) hb2
  have hz2 := hb2.size
  have c1 : (w2.setCell ⟨w1.heap.size, 1, none⟩ (.int .i64 U)).cell? ⟨w1.heap.size, 1, none⟩ = some (.int .i64 U) := (blk_cell (blk_set (blk_tr hB hb2) 1 _) 1).trans (by simp [twk])
  clear HC HP HN hB
  simp at hz2
  have hg : w1.heap.size < (w2.setCell ⟨w1.heap.size, 1, none⟩ (.int .i64 U)).heap.size := by simp; omega
  have hb4 := bl_st hb3 (p := ⟨w1.heap.size, 1, none⟩) hz (.int .i64 U)
  generalize w2.setCell ⟨w1.heap.size, 1, none⟩ (.int .i64 U) = W at *
  go_wp2
  refine wp_region_seq [] (by kernel_rfl) (by kernel_rfl) ?_
  repeat (refine sq_soft (fun K hK => ?_); go_simp; refine hK _ ?_; clear hK K)
  refine sq_nil ?_
  go_wp2
  refine bodyPost_ret (v := .tuple #[.int .u64 n, .int .i64 U, .nilIface]) (by simp [results, Try.results29, go_sem, ]) rfl ⟨rfl, ?_⟩
  repeat' (first | (with_reducible exact bl_refl _) | (with_reducible assumption) | (with_reducible apply bl_al) | (with_reducible apply bl_dr) | (with_reducible refine bl_st ?_ ?_ _) | (with_reducible refine bl_tr ?_ (by with_reducible assumption)) | (first | (with_reducible exact Nat.le_refl _) | (with_reducible assumption) | omega | (simp; omega) | (simp; done)))
set_option maxRecDepth 100000 in
theorem readUv_any (n : Nat) (hn : n < 18446744073709551616) (rest : List Nat) (b cap : Nat) (w : World) (hl : (uvB n ++ rest).length ≤ maxLen) (hcap : (uvB n ++ rest).length ≤ cap)
    (h : ∀ (j x : Nat), (uvB n ++ rest)[j]? = some x → w.cell? ⟨b, j, none⟩ = some (.int .u8 (x : Int))) (hb : b < w.heap.size) :
    Calls Try.prog 12 #[.slice (some ⟨b, 0, none⟩) (uvB n ++ rest).length cap] w fun e w' => e = .returned (.tuple #[.int .u64 n, .int .i64 (uvB n).length, .bool true]) ∧ Below w.heap.size w w' := by
  have HN := Lib.hid fun W => door_any n hn rest b cap W hl hcap
  generalize hL : (uvB n ++ rest).length = L at *
  generalize (uvB n).length = U at *
  clear hL
  go_enter Try.func12, Try.ntmps12
  go_wp2_with fail; refine (HN.out _ h hb).mono ?_; rintro e w1 ⟨rfl, hb1⟩
  go_wp2
  refine wp_region_seq [] (by kernel_rfl) (by kernel_rfl) ?_
  repeat (refine sq_soft (fun K hK => ?_); go_simp; refine hK _ ?_; clear hK K)
  refine sq_nil ?_
  go_wp2
  refine bodyPost_ret (v := .tuple #[.int .u64 n, .int .i64 U, .bool true]) (by simp [results, Try.results12, go_sem, ]) rfl ⟨rfl, ?_⟩
  repeat' (first | (with_reducible exact bl_refl _) | (with_reducible assumption) | (with_reducible apply bl_al) | (with_reducible apply bl_dr) | (with_reducible refine bl_st ?_ ?_ _) | (with_reducible refine bl_tr ?_ (by with_reducible assumption)) | (first | (with_reducible exact Nat.le_refl _) | (with_reducible assumption) | omega | (simp; omega) | (simp; done)))
end Go.Proofs.Ytomhegagdpaieaa
