/-
  Contracts: zzFits6, lineOf; an argument that is a list of lists of numbers, opened.
-/
import Derived.Test.YtbigadbnijpcjaaMv
namespace Go.Proofs.Ytbigadbnijpcjaa
open Go.RowKit Fl
/-- A list of numbers, as it lies: its address, its numbers, its capacity. -/
structure Ln where
  A : Option Addr
  X : List Nat
  c : Nat
def Ln.v (x : Ln) : Value := .slice x.A x.X.length x.c
def rdLn (w : World) (B : Option Addr) (l : List Ln) : Prop := rd1 Ln.v w B l ∧ ∀ x ∈ l, rd1 (.float .f64) w x.A x.X ∧ x.X.length ≤ x.c ∧ x.c ≤ maxLen
theorem rdLn_tr {w w1 : World} {B : Option Addr} {l : List Ln} (h : rdLn w B l) (hb : Below w.heap.size w w1) : rdLn w1 B l := ⟨rd1_tr h.1 hb, fun x hx => ⟨rd1_tr (h.2 x hx).1 hb, (h.2 x hx).2⟩⟩
section
open Go.ChangeShapes Go.WideShapes Go.Joins Go.Deep
variable {H : Type} {enc : TypeId × Value → H} {w : World} {base : Nat} {spare : Nat → Bool} {held : Bool}
set_option maxRecDepth 100000 in
theorem open_LL {r : Reach} {b0 : Nat} {v : Value} {d : DataW H} {p : List MemPlace} (hv : Value.okWide Try.prog w r b0 72 v) (h : DataW.Trod enc Try.prog w base spare held 72 v d p) :
    ∃ B l cap, v = .slice B (List.length l) cap ∧ rdLn w B l := by
  obtain ⟨B, l, cap, rfl, hr, hg, _⟩ := open_rd (P := Try.prog) Try.underlying72 (by kernel_rfl) Ln.v (fun x => rd1 (.float .f64) w x.A x.X ∧ x.X.length ≤ x.c ∧ x.c ≤ maxLen) (fun n u y h => by
    obtain ⟨A, X, c, rfl, h1, h2, h3⟩ := trod_rd Try.underlying22 (by kernel_rfl) (.float .f64) (fun n u y h => trod_float h) h
    exact ⟨⟨A, X, c⟩, rfl, h1, h2, h3⟩) hv h
  exact ⟨B, l, cap, rfl, hr, hg⟩
end
def fits6 (l : List Ln) : Bool := decide (l.length ≤ 2147483647) && l.all fun x => decide (x.X.length ≤ 2147483647)
set_option maxRecDepth 100000 in
theorem zz6_any (B : Option Addr) (l : List Ln) (n c : Nat) (w : World) (hn : l.length = n) (hr : rdLn w B l) :
    Calls Try.prog 42 #[.slice B n c] w fun e w' => e = .returned (.bool (fits6 l)) ∧ Below w.heap.size w w' := by
  rcases Nat.lt_or_ge 2147483647 n with h1 | h1
  · have hf : fits6 l = false := by unfold fits6; rw [hn]; simp; omega
    rw [hf]
    clear hf hr hn
    go_enter Try.func42, Try.ntmps42
    go_wp2
    go_ret
    exact ⟨rfl, Below.refl _ _⟩
  · have hf : fits6 l = l.all fun x => decide (x.X.length ≤ 2147483647) := by unfold fits6; rw [hn]; simp [h1]
    rw [hf]
    have HN := Lib.hid hn
    clear hf hn
    go_enter Try.func42, Try.ntmps42
    go_wp2
    go_loopw [4, 10] (fun _ i wr => ∃ j : Nat, j ≤ n ∧ i = .int .i64 j ∧ (l.take j).all (fun x => decide (x.X.length ≤ 2147483647)) = true ∧ Below w.heap.size w wr) (fun _ i _ => n - (intOf i).toNat)
    case atStart => exact ⟨0, Nat.zero_le _, rfl, rfl, Below.refl _ _⟩
    case round =>
      obtain ⟨j, hj, rfl, hall, hbr⟩ := hrel
      have HA := Lib.hid hall
      clear hall
      by_cases hlt : j < n
      · obtain ⟨x, ex⟩ : ∃ x, l[j]? = some x := ⟨_, List.getElem?_eq_getElem (by have := HN.out; omega)⟩
        obtain ⟨b, off, rfl, hb, hc⟩ := hr.1 (by have := HN.out; omega)
        have c0 := (bl_rc hbr hb _).trans (hc j x ex)
        have HT : Hid (x.X.length ≤ 2147483647 → (l.take (j + 1)).all (fun x => decide (x.X.length ≤ 2147483647)) = true) := fun h => by
          rw [List.take_add_one, ex, List.all_append, HA.out]; simp [h]
        have HF : Hid (2147483647 < x.X.length → l.all (fun x => decide (x.X.length ≤ 2147483647)) = false) := fun h => by
          cases e : l.all (fun x => decide (x.X.length ≤ 2147483647))
          · rfl
          · have := List.all_eq_true.1 e x (List.mem_of_getElem? ex); simp at this; omega
        unfold Ln.v at c0
        clear hc hr ex
        generalize x.X.length = N at *
        rcases Nat.lt_or_ge 2147483647 N with h2 | h2
        · have hF := HF.out h2
          have HF2 := Lib.hid hF
          clear hF
          go_wp2
          go_ret
          exact ⟨by rw [HF2.out]; rfl, hbr⟩
        · have hT := HT.out h2
          have HT2 := Lib.hid hT
          clear hT
          go_wp2
          go_roundw
          case rel => exact ⟨j + 1, by omega, by go_num, HT2.out, hbr⟩
          case measure => simp [intOf]; omega
      · obtain rfl : j = n := by omega
        have e1 : l.take j = l := List.take_of_length_le (by have := HN.out; omega)
        rw [e1] at HA
        go_wp2
        go_ret
        exact ⟨by rw [HA.out]; rfl, hbr⟩
set_option maxRecDepth 100000 in
theorem lineOf_ok (k : Nat) (hk : k < 4) (A : Option Addr) (n c : Nat) (w : World) (h : n % wid k = 0) (hn : n ≤ 2147483647) :
    Calls Try.prog 43 #[.slice A n c, .int .i64 k] w fun e w' => e = .returned (.tuple #[.agg #[.int .i64 2, .int .i64 k, .slice A n c, .slice none 0 0], .bool true]) ∧ Below w.heap.size w w' := by
  have HW := Lib.hid fun W => width_any k hk W
  have hd : 0 < wid k := by unfold wid; omega
  have hd4 : wid k ≤ 4 := by unfold wid; omega
  have hq : (n : Int) % (wid k : Int) = 0 := by omega
  have hk3 : ¬ 3 < k := by omega
  generalize wid k = dd at *
  clear h
  go_enter Try.func43, Try.ntmps43
  go_wp2_with fail; refine (HW.out _).mono ?_; rintro e w' ⟨rfl, rfl⟩
  go_wp2
  refine bodyPost_ret (v := .tuple #[.agg #[.int .i64 2, .int .i64 k, .slice A n c, .slice none 0 0], .bool true]) (by simp [results, Try.results43, go_sem, ]) rfl ⟨rfl, ?_⟩
  repeat' (first | (with_reducible exact bl_refl _) | (with_reducible assumption) | (with_reducible apply bl_al) | (with_reducible apply bl_dr) | (with_reducible refine bl_st ?_ ?_ _) | (with_reducible refine bl_tr ?_ (by with_reducible assumption)) | (first | (with_reducible exact Nat.le_refl _) | (with_reducible assumption) | omega | (simp; omega) | (simp; done)))
set_option maxRecDepth 100000 in
theorem lineOf_bad (x : Int) (A : Option Addr) (n c : Nat) (w : World) (h : x < 0 ∨ 3 < x ∨ ∃ k : Nat, k < 4 ∧ x = k ∧ n % wid k ≠ 0) (hn : n ≤ 2147483647) :
    Calls Try.prog 43 #[.slice A n c, .int .i64 x] w fun e w' => e = .returned (.tuple #[.agg #[.int .i64 0, .int .i64 0, .slice none 0 0, .slice none 0 0], .bool false]) ∧ Below w.heap.size w w' := by
  rcases h with h | h | ⟨k, hk, rfl, h⟩
  · go_enter Try.func43, Try.ntmps43
    go_wp2
    refine bodyPost_ret (v := .tuple #[.agg #[.int .i64 0, .int .i64 0, .slice none 0 0, .slice none 0 0], .bool false]) (by simp [results, Try.results43, go_sem, ]) rfl ⟨rfl, ?_⟩
    repeat' (first | (with_reducible exact bl_refl _) | (with_reducible assumption) | (with_reducible apply bl_al) | (with_reducible apply bl_dr) | (with_reducible refine bl_st ?_ ?_ _) | (with_reducible refine bl_tr ?_ (by with_reducible assumption)) | (first | (with_reducible exact Nat.le_refl _) | (with_reducible assumption) | omega | (simp; omega) | (simp; done)))
  · have h0 : ¬ x < 0 := by omega
    go_enter Try.func43, Try.ntmps43
    go_wp2
    refine bodyPost_ret (v := .tuple #[.agg #[.int .i64 0, .int .i64 0, .slice none 0 0, .slice none 0 0], .bool false]) (by simp [results, Try.results43, go_sem, ]) rfl ⟨rfl, ?_⟩
    repeat' (first | (with_reducible exact bl_refl _) | (with_reducible assumption) | (with_reducible apply bl_al) | (with_reducible apply bl_dr) | (with_reducible refine bl_st ?_ ?_ _) | (with_reducible refine bl_tr ?_ (by with_reducible assumption)) | (first | (with_reducible exact Nat.le_refl _) | (with_reducible assumption) | omega | (simp; omega) | (simp; done)))
  · have HW := Lib.hid fun W => width_any k hk W
    have hd : 0 < wid k := by unfold wid; omega
    have hd4 : wid k ≤ 4 := by unfold wid; omega
    have hq : ¬ (n : Int) % (wid k : Int) = 0 := by omega
    have hk3 : ¬ 3 < k := by omega
    have hb : ((n : Int) % (wid k : Int) != 0) = true := bne_iff_ne.2 hq
    generalize wid k = dd at *
    clear h
    go_enter Try.func43, Try.ntmps43
    go_wp2_with fail; refine (HW.out _).mono ?_; rintro e w' ⟨rfl, rfl⟩
    go_wp2
    refine bodyPost_ret (v := .tuple #[.agg #[.int .i64 0, .int .i64 0, .slice none 0 0, .slice none 0 0], .bool false]) (by simp [results, Try.results43, go_sem, ]) rfl ⟨rfl, ?_⟩
    repeat' (first | (with_reducible exact bl_refl _) | (with_reducible assumption) | (with_reducible apply bl_al) | (with_reducible apply bl_dr) | (with_reducible refine bl_st ?_ ?_ _) | (with_reducible refine bl_tr ?_ (by with_reducible assumption)) | (first | (with_reducible exact Nat.le_refl _) | (with_reducible assumption) | omega | (simp; omega) | (simp; done)))
end Go.Proofs.Ytbigadbnijpcjaa
