/-
  Contract: tItems (items: boxes with whole ends in order).
-/
import Derived.Test.YtomhegagdpaieaaTb
namespace Go.Proofs.Ytomhegagdpaieaa
open Go.RowKit Fl
structure It where
  a : Nat
  b : Nat
  c : Nat
  d : Nat
  id : Int
def It.ok (t : It) : Bool := tB t.a t.b t.c t.d
/-- Items lie at A, five cells each. -/
def rdIt (w : World) (A : Option Addr) (l : List It) : Prop := 0 < l.length → ∃ b off, A = some ⟨b, off, none⟩ ∧ b < w.heap.size ∧ ∀ (i : Nat) (t : It), l[i]? = some t →
  w.cell? ⟨b, off + i * 5, none⟩ = some (.float .f64 t.a) ∧ w.cell? ⟨b, off + i * 5 + 1, none⟩ = some (.float .f64 t.b) ∧ w.cell? ⟨b, off + i * 5 + 2, none⟩ = some (.float .f64 t.c) ∧ w.cell? ⟨b, off + i * 5 + 3, none⟩ = some (.float .f64 t.d) ∧ w.cell? ⟨b, off + i * 5 + 4, none⟩ = some (.int .i64 t.id)
theorem rdIt_tr {w w1 : World} {A : Option Addr} {l : List It} (h : rdIt w A l) (hb : Below w.heap.size w w1) : rdIt w1 A l := fun hl => by
  obtain ⟨b, off, e, hlt, hc⟩ := h hl
  refine ⟨b, off, e, Nat.lt_of_lt_of_le hlt hb.size, fun i t ht => ?_⟩
  obtain ⟨h0, h1, h2, h3, h4⟩ := hc i t ht
  exact ⟨(bl_rc hb hlt _).trans h0, (bl_rc hb hlt _).trans h1, (bl_rc hb hlt _).trans h2, (bl_rc hb hlt _).trans h3, (bl_rc hb hlt _).trans h4⟩
theorem tItems_many (A : Option Addr) (n c : Nat) (w : World) (h : 400 < n) :
    Calls Try.prog 16 #[.slice A n c] w fun e w' => e = .returned (.bool false) ∧ Below w.heap.size w w' := by
  go_enter Try.func16, Try.ntmps16
  go_wp2
  go_ret
  exact ⟨rfl, Below.refl _ _⟩
theorem tItems_few (A : Option Addr) (l : List It) (n c : Nat) (w : World) (hn : l.length = n) (hr : rdIt w A l) (h : n ≤ 400) :
    Calls Try.prog 16 #[.slice A n c] w fun e w' => e = .returned (.bool (l.all It.ok)) ∧ Below w.heap.size w w' := by
  have HN := Lib.hid hn
  clear hn
  go_enter Try.func16, Try.ntmps16
  go_wp2
  go_loopw [10] (fun i wr => ∃ k : Nat, k ≤ n ∧ i = .int .i64 k ∧ (l.take k).all It.ok = true ∧ Below w.heap.size w wr) (fun i _ => n - (intOf i).toNat)
  case atStart => exact ⟨0, Nat.zero_le _, rfl, rfl, Below.refl _ _⟩
  case round =>
    obtain ⟨k, hk, rfl, hall, hbw⟩ := hrel
    have HA := Lib.hid hall
    clear hall
    by_cases hlt : k < n
    · obtain ⟨t, et⟩ : ∃ t, l[k]? = some t := ⟨_, List.getElem?_eq_getElem (by have := HN.out; omega)⟩
      obtain ⟨b, off, rfl, hbl, hc⟩ := rdIt_tr hr hbw (by have := HN.out; omega)
      obtain ⟨c0, c1, c2, c3, c4⟩ := hc k t et
      have ET := Lib.hid et
      have hsz := hbw.size
      clear hc hr et
      have HB := Lib.hid fun W => tBox_any t.a t.b t.c t.d W
      cases hv : tB t.a t.b t.c t.d
      · have HF : Hid (l.all It.ok = false) := by
          show l.all It.ok = false
          cases hx : l.all It.ok
          · rfl
          · have := List.all_eq_true.1 hx t (List.mem_of_getElem? ET.out)
            unfold It.ok at this
            rw [hv] at this; cases this
        simp only [hv] at HB
        clear hv
        go_wp2_with fail
        refine (HB.out _).mono ?_
        rintro e w1 ⟨rfl, hb1⟩
        go_wp2
        go_ret
        refine ⟨by rw [HF.out]; rfl, ?_⟩
        repeat' (first | (with_reducible exact bl_refl _) | (with_reducible assumption) | (with_reducible apply bl_al) | (with_reducible apply bl_dr) | (with_reducible refine bl_st ?_ ?_ _) | (with_reducible refine bl_tr ?_ (by with_reducible assumption)) | (first | (with_reducible exact Nat.le_refl _) | (with_reducible assumption) | omega | (simp; omega) | (simp; done)))
      · have HF : Hid ((l.take (k + 1)).all It.ok = true) := by
          show (l.take (k + 1)).all It.ok = true
          rw [List.take_add_one, ET.out, List.all_append, HA.out]
          simp [It.ok, hv]
        simp only [hv] at HB
        clear hv
        go_wp2_with fail
        refine (HB.out _).mono ?_
        rintro e w1 ⟨rfl, hb1⟩
        go_wp2
        go_roundw
        case rel =>
          refine ⟨k + 1, by omega, by go_num, HF.out, ?_⟩
          repeat' (first | (with_reducible exact bl_refl _) | (with_reducible assumption) | (with_reducible apply bl_al) | (with_reducible apply bl_dr) | (with_reducible refine bl_st ?_ ?_ _) | (with_reducible refine bl_tr ?_ (by with_reducible assumption)) | (first | (with_reducible exact Nat.le_refl _) | (with_reducible assumption) | omega | (simp; omega) | (simp; done)))
        case measure => simp [intOf]; omega
    · obtain rfl : k = n := by omega
      have HF : Hid (l.all It.ok = true) := by
        have := HA.out
        rwa [List.take_of_length_le (Nat.le_of_eq HN.out)] at this
      go_wp2
      go_ret
      exact ⟨by rw [HF.out]; rfl, hbw⟩
end Go.Proofs.Ytomhegagdpaieaa
