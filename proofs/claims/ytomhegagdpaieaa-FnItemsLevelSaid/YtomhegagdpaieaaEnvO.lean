/-
  Contracts: eOf, eCorners, eFits.
-/
import Derived.Test.YtomhegagdpaieaaEnvS
import Derived.Laws.AppendOwn
import Derived.Deep.AppendLies
namespace Go.Proofs.Ytomhegagdpaieaa
open Go.RowKit Fl

/-- What the reference's box and a place become. -/
def Ev.st (e : Ev) (p : Nat × Nat) : Ev := if e.f then ⟨if flt p.1 e.a then p.1 else e.a, if flt p.2 e.b then p.2 else e.b, if fgt p.1 e.c then p.1 else e.c, if fgt p.2 e.d then p.2 else e.d, true⟩ else ⟨p.1, p.2, p.1, p.2, true⟩
def stOf (ps : List (Nat × Nat)) : Ev := ps.foldl Ev.st Ev.no
theorem stOf_snoc {ps : List (Nat × Nat)} {k : Nat} {p : Nat × Nat} (h : ps[k]? = some p) : stOf (ps.take (k + 1)) = (stOf (ps.take k)).st p := by
  have hk : k < ps.length := (List.getElem?_eq_some_iff.1 h).1
  have hp : ps[k] = p := by
    have := List.getElem?_eq_getElem hk
    rw [h] at this; exact (Option.some.inj this).symm
  rw [List.take_succ_eq_append_getElem hk, stOf, List.foldl_append, hp]; rfl

set_option maxRecDepth 100000 in
set_option maxHeartbeats 4000000 in
theorem eOf_any (A : Option Addr) (cap : Nat) (ps : List (Nat × Nat)) (w : World) (h : rdXY w A ps) (hl : ps.length ≤ maxLen) :
    Calls Try.prog 24 #[.slice A ps.length cap] w fun e w' => e = .returned (.agg #[.bool (stOf ps).f, .float .f64 (stOf ps).a, .float .f64 (stOf ps).b, .float .f64 (stOf ps).c, .float .f64 (stOf ps).d]) ∧ Below w.heap.size w w' := by
  unfold maxLen at hl
  go_enter Try.func24, Try.ntmps24
  go_wp2
  go_loopw [8, 5] (fun i _ wr => ∃ k : Nat, k ≤ ps.length ∧ i = .int .i64 k ∧ Below w.heap.size w wr ∧ wr.heap.size > w.heap.size + 1 ∧ Blk wr w.heap.size 48 #[.bool false, .float .f64 0, .float .f64 0, .float .f64 0, .float .f64 0] ∧ Blk wr (w.heap.size + 1) 48 #[.bool (stOf (ps.take k)).f, .float .f64 (stOf (ps.take k)).a, .float .f64 (stOf (ps.take k)).b, .float .f64 (stOf (ps.take k)).c, .float .f64 (stOf (ps.take k)).d]) (fun i _ _ => ps.length - (intOf i).toNat)
  case atStart =>
    refine ⟨0, Nat.zero_le _, rfl, ?_, by simp, ?_, ?_⟩
    · repeat' (first | (with_reducible exact bl_refl _) | (with_reducible assumption) | (with_reducible apply bl_al) | (with_reducible apply bl_dr) | (with_reducible refine bl_st ?_ ?_ _) | (with_reducible refine bl_tr ?_ (by with_reducible assumption)) | (first | (with_reducible exact Nat.le_refl _) | (with_reducible assumption) | omega | (simp; omega) | (simp; done)))
    · exact blk_al (blk_new _ _ _) _
    · exact blk_at _ _ _ (by simp)
  case round =>
    obtain ⟨k, hk, rfl, hbw, hsz, hB0, hB1⟩ := hrel
    by_cases hlt : k < ps.length
    · obtain ⟨p, hp⟩ : ∃ p, ps[k]? = some p := ⟨_, List.getElem?_eq_getElem hlt⟩
      obtain ⟨b, off, rfl, hb, hx⟩ := h (by omega)
      obtain ⟨hx, hy⟩ := hx k p hp
      have hx' := (hbw.cell (p := ⟨b, off + k * 2, none⟩) hb).trans hx
      have hy' := (hbw.cell (p := ⟨b, off + k * 2 + 1, none⟩) hb).trans hy
      have HS := Lib.hid (stOf_snoc hp)
      clear hp hx hy h
      generalize stOf (ps.take k) = ev at *
      have hB1' := blk_al hB1 (.cells #[.float .f64 p.1, .float .f64 p.2] 24)
      have hB0' := blk_al hB0 (.cells #[.float .f64 p.1, .float .f64 p.2] 24)
      have c0 := blk_cell hB1 0
      have c1 := blk_cell hB1 1
      have c2 := blk_cell hB1 2
      have c3 := blk_cell hB1 3
      have c4 := blk_cell hB1 4
      have hf := fun i => blk_frozen hB1 i
      simp at c0 c1 c2 c3 c4
      have z0 : w.heap.size < wr.heap.size := by omega
      have z1 : w.heap.size + 1 < wr.heap.size := by omega
      cases hfull : ev.f
      · have HF := Lib.hid hfull
        rw [hfull] at c0
        clear hfull
        go_wp2
        go_roundw
        case rel =>
          refine ⟨k + 1, by omega, by go_num, ?_, ?_, ?_, ?_⟩
          · repeat' (first | (with_reducible exact bl_refl _) | (with_reducible assumption) | (with_reducible apply bl_al) | (with_reducible apply bl_dr) | (with_reducible refine bl_st ?_ ?_ _) | (with_reducible refine bl_tr ?_ (by with_reducible assumption)) | (first | (with_reducible exact Nat.le_refl _) | (with_reducible assumption) | omega | (simp; omega) | (simp; done)))
          · simp; omega
          · repeat' (first | (with_reducible exact hB0) | (with_reducible apply blk_al) | (with_reducible refine blk_far ?_ ?_ _) | (simp; done))
          · rw [HS.out]
            refine blk_eq (by repeat (first | (with_reducible exact hB1) | (with_reducible apply blk_al) | (with_reducible apply blk_set))) ?_
            simp [Ev.st, HF.out]
        case measure => simp [intOf]; omega
      · have HF := Lib.hid hfull
        rw [hfull] at c0
        clear hfull
        cases t1 : flt p.1 ev.a <;> cases t2 : fgt p.1 ev.c <;> cases t3 : flt p.2 ev.b <;> cases t4 : fgt p.2 ev.d
        all_goals
          go_wp2
          go_roundw
          case rel =>
            refine ⟨k + 1, by omega, by go_num, ?_, ?_, ?_, ?_⟩
            · repeat' (first | (with_reducible exact bl_refl _) | (with_reducible assumption) | (with_reducible apply bl_al) | (with_reducible apply bl_dr) | (with_reducible refine bl_st ?_ ?_ _) | (with_reducible refine bl_tr ?_ (by with_reducible assumption)) | (first | (with_reducible exact Nat.le_refl _) | (with_reducible assumption) | omega | (simp; omega) | (simp; done)))
            · simp; omega
            · repeat' (first | (with_reducible exact hB0) | (with_reducible apply blk_al) | (with_reducible refine blk_far ?_ ?_ _) | (simp; done))
            · rw [HS.out]
              refine blk_eq (by repeat (first | (with_reducible exact hB1) | (with_reducible apply blk_al) | (with_reducible apply blk_set))) ?_
              simp [Ev.st, HF.out, *]
          case measure => simp [intOf]; omega
    · obtain rfl : k = ps.length := by omega
      rw [List.take_length] at hB1
      obtain ⟨ev, hev⟩ : ∃ ev, stOf ps = ev := ⟨_, rfl⟩
      rw [hev] at hB1
      have HE := Lib.hid hev
      clear hev
      have c0 := blk_cell hB1 0
      have c1 := blk_cell hB1 1
      have c2 := blk_cell hB1 2
      have c3 := blk_cell hB1 3
      have c4 := blk_cell hB1 4
      have d0 := blk_cell hB0 0
      have d1 := blk_cell hB0 1
      have d2 := blk_cell hB0 2
      have d3 := blk_cell hB0 3
      have d4 := blk_cell hB0 4
      simp at c0 c1 c2 c3 c4 d0 d1 d2 d3 d4
      have hf := fun i => blk_frozen hB0 i
      go_wp2
      refine bodyPost_ret (v := .agg #[.bool ev.f, .float .f64 ev.a, .float .f64 ev.b, .float .f64 ev.c, .float .f64 ev.d]) (by simp [results, Try.results24, go_sem, d0, d1, d2, d3, d4]) rfl ⟨by rw [HE.out], ?_⟩
      repeat' (first | (with_reducible exact bl_refl _) | (with_reducible assumption) | (with_reducible apply bl_al) | (with_reducible apply bl_dr) | (with_reducible refine bl_st ?_ ?_ _) | (with_reducible refine bl_tr ?_ (by with_reducible assumption)) | (first | (with_reducible exact Nat.le_refl _) | (with_reducible assumption) | omega | (simp; omega) | (simp; done)))

/-- The cells of a list of places, as a list. -/
def xyCells : List (Nat × Nat) → List Value
  | [] => []
  | p :: ps => .float .f64 p.1 :: .float .f64 p.2 :: xyCells ps
theorem xyCells_length : ∀ ps, (xyCells ps).length = ps.length * 2
  | [] => rfl
  | p :: ps => by simp [xyCells, xyCells_length ps]; omega
theorem xyCells_get : ∀ (ps : List (Nat × Nat)) (i : Nat) (p : Nat × Nat), ps[i]? = some p → (xyCells ps)[i * 2]? = some (.float .f64 p.1) ∧ (xyCells ps)[i * 2 + 1]? = some (.float .f64 p.2)
  | [], i, p, h => by simp at h
  | q :: ps, 0, p, h => by
    obtain rfl : q = p := by simpa using h
    simp [xyCells]
  | q :: ps, i + 1, p, h => by
    have := xyCells_get ps i p (by simpa using h)
    rw [show (i + 1) * 2 = i * 2 + 1 + 1 by omega]
    simpa [xyCells] using this
/-- A list of places that the call owns reads as that list. -/
theorem own_rdXY {w : World} {base : Nat} {A : Option Addr} {ps : List (Nat × Nat)} {cap : Nat} {t : TypeId} (h : w.ownsRow base t 2 (.slice A ps.length cap) ps.length (xyCells ps)) : rdXY w A ps := fun hp => by
  obtain ⟨g, c, hv, _, hlt⟩ := h.form hp
  have hA : A = some ⟨g, 0, none⟩ := by injection hv
  subst hA
  refine ⟨g, 0, rfl, hlt, fun i p hi => ?_⟩
  obtain ⟨h1, h2⟩ := xyCells_get ps i p hi
  have hi' : i < ps.length := (List.getElem?_eq_some_iff.1 hi).1
  rw [Nat.zero_add, h.cellAt _ (by omega), h.cellAt _ (by omega)]
  exact ⟨h1, h2⟩

def corners (f : Bool) (a b c d : Nat) : List (Nat × Nat) := if f then [(a, b), (c, d)] else []
theorem eCorners_any (a b c d : Nat) (f : Bool) (w : World) :
    Calls Try.prog 25 #[.agg #[.bool f, .float .f64 a, .float .f64 b, .float .f64 c, .float .f64 d]] w fun e w' => ∃ A cap, e = .returned (.slice A (corners f a b c d).length cap) ∧ w'.ownsRow w.heap.size 24 2 (.slice A (corners f a b c d).length cap) (corners f a b c d).length (xyCells (corners f a b c d)) ∧ Below w.heap.size w w' := by
  cases f
  · go_enter Try.func25, Try.ntmps25
    go_wp2
    go_ret
    refine ⟨none, 0, rfl, ⟨rfl, .inl ⟨rfl, rfl⟩⟩, ?_⟩
    repeat' (first | (with_reducible exact bl_refl _) | (with_reducible assumption) | (with_reducible apply bl_al) | (with_reducible apply bl_dr) | (with_reducible refine bl_st ?_ ?_ _) | (with_reducible refine bl_tr ?_ (by with_reducible assumption)) | (first | (with_reducible exact Nat.le_refl _) | (with_reducible assumption) | omega | (simp; omega) | (simp; done)))
  · go_enter Try.func25, Try.ntmps25
    go_wp2
    go_ret
    refine ⟨_, _, rfl, ⟨rfl, .inr ⟨_, 2, #[.float .f64 a, .float .f64 b, .float .f64 c, .float .f64 d], rfl, ?_, ?_, by simp [corners], by simp [maxLen], rfl, rfl⟩⟩, ?_⟩
    · simp
    · exact blk_at _ _ _ (by simp)
    · repeat' (first | (with_reducible exact bl_refl _) | (with_reducible assumption) | (with_reducible apply bl_al) | (with_reducible apply bl_dr) | (with_reducible refine bl_st ?_ ?_ _) | (with_reducible refine bl_tr ?_ (by with_reducible assumption)) | (first | (with_reducible exact Nat.le_refl _) | (with_reducible assumption) | omega | (simp; omega) | (simp; done)))

/-- Two envelopes, a bool and four words each. -/
def evsAt (w : World) (b : Nat) (e o : Ev) : Prop :=
  (w.cell? ⟨b, 0, none⟩ = some (.bool e.f) ∧ w.cell? ⟨b, 1, none⟩ = some (.float .f64 e.a) ∧ w.cell? ⟨b, 2, none⟩ = some (.float .f64 e.b) ∧ w.cell? ⟨b, 3, none⟩ = some (.float .f64 e.c) ∧ w.cell? ⟨b, 4, none⟩ = some (.float .f64 e.d)) ∧
  (w.cell? ⟨b, 5, none⟩ = some (.bool o.f) ∧ w.cell? ⟨b, 6, none⟩ = some (.float .f64 o.a) ∧ w.cell? ⟨b, 7, none⟩ = some (.float .f64 o.b) ∧ w.cell? ⟨b, 8, none⟩ = some (.float .f64 o.c) ∧ w.cell? ⟨b, 9, none⟩ = some (.float .f64 o.d))
def Ev.fit (e : Ev) : Bool := !e.f || fin4 e.a e.b e.c e.d
end Go.Proofs.Ytomhegagdpaieaa
