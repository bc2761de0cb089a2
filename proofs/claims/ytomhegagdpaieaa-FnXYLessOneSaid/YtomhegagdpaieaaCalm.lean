/-
  A region that draws its order, whose operations only read what lies below the heap's end at the region's beginning and whose callees leave that as it was (they may make blocks of their own): one walk in the text's order.
  The class of worlds: 'w.later x', x any world: a world that is as w was below w's end.
-/
import Derived.WalkKit
import Derived.BigQuiet
import Derived.Deep.QuietTactic
namespace Go.Proofs.Ytomhegagdpaieaa
open Go.RowKit

/-- The frame, step by step: nothing that was there when the call began has turned. -/
theorem bl_refl (w : World) : Below w.heap.size w w := Below.refl _ _
theorem bl_al {w W : World} (h : Below w.heap.size w W) (o : Obj) : Below w.heap.size w (W.alloc o) := h.alloc h.size o
theorem bl_tr {w W w1 : World} (h : Below w.heap.size w W) (hb : Below W.heap.size W w1) : Below w.heap.size w w1 := h.trans (hb.mono h.size)
theorem bl_st {w W : World} (h : Below w.heap.size w W) {p : Addr} (hp : w.heap.size ≤ p.block) (u : Value) : Below w.heap.size w (W.setCell p u) := h.setCell hp u
theorem bl_dr {w W : World} (h : Below w.heap.size w W) : Below w.heap.size w W.drew := h.drew
theorem bl_drN {w W : World} (h : Below w.heap.size w W) (n : Nat) : Below w.heap.size w (W.drewN n) := ⟨h.os, h.tape, h.output, h.size, h.block⟩
/-- A cell of a block that was there, in a later world. -/
theorem bl_cell {W w1 : World} (hb : Below W.heap.size W w1) {b o : Nat} {v : Value} (hc : W.cell? ⟨b, o, none⟩ = some v) : w1.cell? ⟨b, o, none⟩ = some v := by
  refine (hb.cell (p := ⟨b, o, none⟩) ?_).trans hc
  rcases Nat.lt_or_ge b W.heap.size with h | h
  · exact h
  · exfalso; unfold World.cell? at hc; simp [Array.getElem?_eq_none h] at hc

open Classical in
/-- x, if it is as w was below w's end; else w. -/
noncomputable def later (w x : World) : World := if Below w.heap.size w x then x else w

theorem later_below (w x : World) : Below w.heap.size w (later w x) := by
  unfold later; split
  · assumption
  · exact Below.refl _ _
theorem later_of {w x : World} (h : Below w.heap.size w x) : later w x = x := by unfold later; rw [if_pos h]

@[go_sem] theorem cell_later_ (w x : World) (b o : Nat) (h : b < w.heap.size) : (later w x).cell? ⟨b, o, none⟩ = w.cell? ⟨b, o, none⟩ := (later_below w x).cell h
@[go_sem] theorem frozen_later_ (w x : World) (b o : Nat) (h : b < w.heap.size) : (later w x).frozen? ⟨b, o, none⟩ = w.frozen? ⟨b, o, none⟩ := (later_below w x).frozen h
theorem later_size (w x : World) : w.heap.size ≤ (later w x).heap.size := (later_below w x).size

/-- The region. -/
theorem wp_region_calm {P : Program} {id : Nat} {Q : Exit → Act → World → Prop} {a : Act} {w : World} {l : List Oper} (hm : P.follows .mixedOrders = true) (hB : Region.lexB .any l.toArray = true)
    (h : wpQuiet P l.toArray (fun w' => ∃ x, w' = later w x) (fun a' => ∀ w', Below w.heap.size w w' → Q .normal a' w') l a) : (Code.region id l.toArray true).wp P Q a w := by
  refine wp_region_quiet (C := fun w' => ∃ x, w' = later w x) hm hB ⟨w.drew, ?_⟩ ?_
  · exact (later_of (Below.refl _ _).drew).symm
  · have : (fun a' => ∀ w', Below w.heap.size w w' → Q .normal a' w') = (fun a' => ∀ w', (∃ x, w' = later w x) → Q .normal a' w') := by
      funext a'
      refine propext ⟨fun h w' ⟨x, hx⟩ => ?_, fun h w' hb => h w' ⟨w', (later_of hb).symm⟩⟩
      subst hx; exact h _ (later_below w x)
    rw [← this]; simpa using h

/-- A callee's contract inside such a region: it may make blocks. -/
theorem calm_of {P : Program} {f : FuncId} {args : Array Value} {w x : World} {v : Value}
    (h : Calls P f args (later w x) fun e w' => e = .returned v ∧ Below (later w x).heap.size (later w x) w') : Calls P f args (later w x) fun e w'' => e = .returned v ∧ ∃ y, w'' = later w y :=
  h.mono fun _ w'' ⟨he, hb⟩ => ⟨he, w'', (later_of ((later_below w x).trans (hb.mono (later_size w x)))).symm⟩
/-- A callee that leaves the world alone ('w = w''). -/
theorem calm_of_same {P : Program} {f : FuncId} {args : Array Value} {w x : World} {v : Value}
    (h : Calls P f args (later w x) fun e w' => e = .returned v ∧ later w x = w') : Calls P f args (later w x) fun e w'' => e = .returned v ∧ ∃ y, w'' = later w y :=
  h.mono fun _ _ ⟨he, hb⟩ => ⟨he, x, hb.symm⟩
end Go.Proofs.Ytomhegagdpaieaa
