import Derived.Test.YtomhegagdpaieaaNum
namespace Go.Proofs.Ytomhegagdpaieaa
open Go.RowKit

/-- The list of places at an address: two words each. -/
def xysAt (w : World) (b off : Nat) (ps : List (Nat × Nat)) : Prop :=
  ∀ i p, ps[i]? = some p → w.cell? ⟨b, off + i * 2, none⟩ = some (.float .f64 p.1) ∧ w.cell? ⟨b, off + i * 2 + 1, none⟩ = some (.float .f64 p.2)

def finXY (p : Nat × Nat) : Bool := Fl.fin p.1 && Fl.fin p.2

theorem all_snoc {ps : List (Nat × Nat)} {k : Nat} {p : Nat × Nat} (h : ps[k]? = some p) (ha : (ps.take k).all finXY = true) : (ps.take (k + 1)).all finXY = finXY p := by
  have hk : k < ps.length := (List.getElem?_eq_some_iff.1 h).1
  have hp : ps[k] = p := by
    have := List.getElem?_eq_getElem hk
    rw [h] at this; exact (Option.some.inj this).symm
  rw [List.take_succ_eq_append_getElem hk, List.all_append, ha, hp]; simp

theorem all_false {ps : List (Nat × Nat)} {k : Nat} {p : Nat × Nat} (h : ps[k]? = some p) (hf : finXY p = false) : ps.all finXY = false := by
  have hm : p ∈ ps := List.mem_of_getElem? h
  cases ha : ps.all finXY
  · rfl
  · have := List.all_eq_true.1 ha p hm; rw [hf] at this; cases this

theorem eList_any (b off cap : Nat) (ps : List (Nat × Nat)) (w : World) (h : xysAt w b off ps) (hb : b < w.heap.size) (hl : ps.length ≤ 2000) :
    Calls Try.prog 9 #[.slice (some ⟨b, off, none⟩) ps.length cap] w fun e w' => e = .returned (.bool (ps.all finXY)) ∧ Below w.heap.size w w' := by
  have hd : decide (2000 < (ps.length : Int)) = false := by simp; omega
  go_enter Try.func9, Try.ntmps9
  go_wp2
  go_loopw [10, 2, 4] (fun i _ _ wr => ∃ k : Nat, k ≤ ps.length ∧ i = .int .i64 k ∧ (ps.take k).all finXY = true ∧ Below w.heap.size w wr) (fun i _ _ _ => ps.length - (intOf i).toNat)
  case atStart => exact ⟨0, Nat.zero_le _, rfl, rfl, Below.refl _ _⟩
  case round =>
    obtain ⟨k, hk, rfl, hall, hbw⟩ := hrel
    by_cases hlt : k < ps.length
    · obtain ⟨p, hp⟩ : ∃ p, ps[k]? = some p := ⟨_, List.getElem?_eq_getElem hlt⟩
      obtain ⟨hx, hy⟩ := h k p hp
      have hx' := (hbw.cell (p := ⟨b, off + k * 2, none⟩) hb).trans hx
      have hy' := (hbw.cell (p := ⟨b, off + k * 2 + 1, none⟩) hb).trans hy
      have HP := Lib.hid hp
      have HA := Lib.hid hall
      clear hp hall hx hy
      have hsz := hbw.size
      by_cases f1 : Fl.fin p.1 = true
      · by_cases f2 : Fl.fin p.2 = true
        · have HF : Hid (finXY p = true) := by show finXY p = true; simp [finXY, f1, f2]
          go_wp2_with (go_at_call 26; refine (gFinite_any _ _).mono ?_; rintro e w' ⟨rfl, rfl⟩)
          go_roundw
          case rel => exact ⟨k + 1, by omega, by go_num, by rw [all_snoc HP.out HA.out, HF.out], hbw.alloc hsz _⟩
          case measure => simp [intOf]; omega
        · have f2' : Fl.fin p.2 = false := by simpa using f2
          have HF : Hid (finXY p = false) := by show finXY p = false; simp [finXY, f2']
          clear f2
          go_wp2_with (go_at_call 26; refine (gFinite_any _ _).mono ?_; rintro e w' ⟨rfl, rfl⟩)
          go_ret
          exact ⟨by rw [all_false HP.out HF.out]; rfl, hbw.alloc hsz _⟩
      · have f1' : Fl.fin p.1 = false := by simpa using f1
        have HF : Hid (finXY p = false) := by show finXY p = false; simp [finXY, f1']
        clear f1
        go_wp2_with (go_at_call 26; refine (gFinite_any _ _).mono ?_; rintro e w' ⟨rfl, rfl⟩)
        go_ret
        exact ⟨by rw [all_false HP.out HF.out]; rfl, hbw.alloc hsz _⟩
    · obtain rfl : k = ps.length := by omega
      have HA : Hid (ps.all finXY = true) := by show ps.all finXY = true; rw [← hall, List.take_length]
      clear hall
      go_wp2
      go_ret
      exact ⟨by rw [HA.out]; rfl, hbw⟩
end Go.Proofs.Ytomhegagdpaieaa
