/-
  A region that draws its order, whose operations only read what lies below the heap's end at the region's beginning and whose callees leave that as it was (they may make blocks of their own): one walk in the text's order.
  The class of worlds: 'w.later x', x any world: a world that is as w was below w's end.
-/
import Derived.WalkKit
import Derived.BigQuiet
import Derived.Deep.QuietTactic
import Derived.StillTail
namespace Go.Proofs.Ytbigadbnijpcjaa
open Go.RowKit

/-- The frame, step by step: nothing that was there when the call began has turned. -/
theorem bl_refl (w : World) : Below w.heap.size w w := Below.refl _ _
theorem bl_al {w W : World} (h : Below w.heap.size w W) (o : Obj) : Below w.heap.size w (W.alloc o) := h.alloc h.size o
theorem bl_tr {w W w1 : World} (h : Below w.heap.size w W) (hb : Below W.heap.size W w1) : Below w.heap.size w w1 := h.trans (hb.mono h.size)
theorem bl_st {w W : World} (h : Below w.heap.size w W) {p : Addr} (hp : w.heap.size ≤ p.block) (u : Value) : Below w.heap.size w (W.setCell p u) := h.setCell hp u
theorem bl_undrew {w W : World} (h : Below w.heap.size w W) : Below w.drew.heap.size w.drew W := ⟨h.os, h.tape, h.output, h.size, h.block⟩
theorem bl_dr {w W : World} (h : Below w.heap.size w W) : Below w.heap.size w W.drew := h.drew
theorem bl_drN {w W : World} (h : Below w.heap.size w W) (n : Nat) : Below w.heap.size w (W.drewN n) := ⟨h.os, h.tape, h.output, h.size, h.block⟩
theorem bl_rc {W w1 : World} (hb : Below W.heap.size W w1) {b : Nat} (h : b < W.heap.size) (o : Nat) : w1.cell? ⟨b, o, none⟩ = W.cell? ⟨b, o, none⟩ := hb.cell h
theorem bl_rf {W w1 : World} (hb : Below W.heap.size W w1) {b : Nat} (h : b < W.heap.size) (o : Nat) : w1.frozen? ⟨b, o, none⟩ = W.frozen? ⟨b, o, none⟩ := hb.frozen h
/-- A cell of a block that was there, in a later world. -/
theorem bl_cell {W w1 : World} (hb : Below W.heap.size W w1) {b o : Nat} {v : Value} (hc : W.cell? ⟨b, o, none⟩ = some v) : w1.cell? ⟨b, o, none⟩ = some v := by
  refine (hb.cell (p := ⟨b, o, none⟩) ?_).trans hc
  rcases Nat.lt_or_ge b W.heap.size with h | h
  · exact h
  · exfalso; unfold World.cell? at hc; simp [Array.getElem?_eq_none h] at hc

/-- A block that is known whole. -/
def Blk (w : World) (g : Nat) (t : TypeId) (cs : Array Value) : Prop := w.heap[g]? = some (.cells cs t (0, 0))
theorem blk_lt {w : World} {g : Nat} {t : TypeId} {cs : Array Value} (h : Blk w g t cs) : g < w.heap.size := by
  rcases Nat.lt_or_ge g w.heap.size with hlt | hge
  · exact hlt
  · unfold Blk at h; rw [Array.getElem?_eq_none hge] at h; cases h
theorem blk_cell {w : World} {g : Nat} {t : TypeId} {cs : Array Value} (h : Blk w g t cs) (i : Nat) : w.cell? ⟨g, i, none⟩ = cs[i]? := by
  unfold Blk at h; simp [World.cell?, h]
theorem blk_frozen {w : World} {g : Nat} {t : TypeId} {cs : Array Value} (h : Blk w g t cs) (i : Nat) : w.frozen? ⟨g, i, none⟩ = false := by
  unfold Blk at h; simp [World.frozen?, h]
theorem blk_new (w : World) (t : TypeId) (cs : Array Value) : Blk (w.alloc (.cells cs t)) w.heap.size t cs := by
  unfold Blk; show (w.heap.push _)[w.heap.size]? = _; simp
theorem blk_at (w : World) (t : TypeId) (cs : Array Value) {b : Nat} (hb : b = w.heap.size) : Blk (w.alloc (.cells cs t)) b t cs := by subst hb; exact blk_new w t cs
theorem blk_eq {w : World} {g : Nat} {t : TypeId} {cs cs' : Array Value} (h : Blk w g t cs) (e : cs = cs') : Blk w g t cs' := e ▸ h
theorem blk_al {w : World} {g : Nat} {t : TypeId} {cs : Array Value} (h : Blk w g t cs) (o : Obj) : Blk (w.alloc o) g t cs := (Below.heap_alloc w o g (blk_lt h)).trans h
theorem blk_tr {W w1 : World} {g : Nat} {t : TypeId} {cs : Array Value} (h : Blk W g t cs) (hb : Below W.heap.size W w1) : Blk w1 g t cs := (hb.block g (blk_lt h)).trans h
theorem blk_set {w : World} {g : Nat} {t : TypeId} {cs : Array Value} (h : Blk w g t cs) (i : Nat) (u : Value) : Blk (w.setCell ⟨g, i, none⟩ u) g t (cs.setIfInBounds i u) := by
  unfold Blk at h ⊢
  simp [World.setCell, Array.getElem?_modify, h]
theorem blk_far {w : World} {g : Nat} {t : TypeId} {cs : Array Value} (h : Blk w g t cs) {p : Addr} (hp : g ≠ p.block) (u : Value) : Blk (w.setCell p u) g t cs := (Below.heap_setCell w p u g hp).trans h

open Classical in
/-- x, if it is as w was below w's end; else w. -/
noncomputable def later (w x : World) : World := if Below w.heap.size w x then x else w

theorem later_below (w x : World) : Below w.heap.size w (later w x) := by
  unfold later; split
  · assumption
  · exact Below.refl _ _
theorem later_of {w x : World} (h : Below w.heap.size w x) : later w x = x := by unfold later; rw [if_pos h]

@[go_sem] theorem cell_later_ (w x : World) (b o : Nat) (h : b < w.heap.size) : (later w x).cell? ⟨b, o, none⟩ = w.cell? ⟨b, o, none⟩ := (later_below w x).cell h
@[go_sem] theorem frozen_later_ (w x : World) (b o : Nat) (h : b < w.heap.size) : (later w x).frozen? ⟨b, o, none⟩ = w.frozen? ⟨b, o, none⟩ := (later_below w x).frozen h
theorem later_size (w x : World) : w.heap.size ≤ (later w x).heap.size := (later_below w x).size

/-- The region. -/
theorem wp_region_calm {P : Program} {id : Nat} {Q : Exit → Act → World → Prop} {a : Act} {w : World} {l : List Oper} (hm : P.follows .mixedOrders = true) (hB : Region.lexB .any l.toArray = true)
    (h : wpQuiet P l.toArray (fun w' => ∃ x, w' = later w x) (fun a' => ∀ w', Below w.heap.size w w' → Q .normal a' w') l a) : (Code.region id l.toArray true).wp P Q a w := by
  refine wp_region_quiet (C := fun w' => ∃ x, w' = later w x) hm hB ⟨w.drew, ?_⟩ ?_
  · exact (later_of (Below.refl _ _).drew).symm
  · have : (fun a' => ∀ w', Below w.heap.size w w' → Q .normal a' w') = (fun a' => ∀ w', (∃ x, w' = later w x) → Q .normal a' w') := by
      funext a'
      refine propext ⟨fun h w' ⟨x, hx⟩ => ?_, fun h w' hb => h w' ⟨w', (later_of hb).symm⟩⟩
      subst hx; exact h _ (later_below w x)
    rw [← this]; simpa using h

/-- A callee's contract inside such a region: it may make blocks. -/
theorem calm_of {P : Program} {f : FuncId} {args : Array Value} {w x : World} {v : Value}
    (h : Calls P f args (later w x) fun e w' => e = .returned v ∧ Below (later w x).heap.size (later w x) w') : Calls P f args (later w x) fun e w'' => e = .returned v ∧ ∃ y, w'' = later w y :=
  h.mono fun _ w'' ⟨he, hb⟩ => ⟨he, w'', (later_of ((later_below w x).trans (hb.mono (later_size w x)))).symm⟩
/-- A callee that leaves the world alone ('w = w''). -/
theorem calm_of_same {P : Program} {f : FuncId} {args : Array Value} {w x : World} {v : Value}
    (h : Calls P f args (later w x) fun e w' => e = .returned v ∧ later w x = w') : Calls P f args (later w x) fun e w'' => e = .returned v ∧ ∃ y, w'' = later w y :=
  h.mono fun _ _ ⟨he, hb⟩ => ⟨he, x, hb.symm⟩

/-! ### The same, with a tail: operations at the end that wait for all others and stand in one forced order (a store into a result). -/
section
variable {P : Program} {ops : Array Oper} {md : Region.Mode} {C : World → Prop}

/-- Whatever order is picked for the head: each of its operations is quiet in the class; behind the head, L. -/
def wpHead (P : Program) (md : Region.Mode) (ops : Array Oper) (C : World → Prop) (n : Nat) (L : Array Bool → Act → Prop) : Nat → Array Bool → Act → Prop
  | 0, listed, a => L listed a
  | f + 1, listed, a =>
    Region.ready md ops listed ≠ [] ∧ ∀ i ∈ Region.ready md ops listed, i < n ∧ qOp P ops C i (wpHead P md ops C n L f (listed.setIfInBounds i true)) a

theorem wpAny_of_wpHead {n g : Nat} {L : Array Bool → Act → Prop} {Q' : Exit → Act → World → Prop} (hL : ∀ listed a w, C w → L listed a → wpAny P md ops Q' g listed a w) :
    ∀ (f : Nat) (listed : Array Bool) (a : Act) (w : World), C w → wpHead P md ops C n L f listed a → wpAny P md ops Q' (f + g) listed a w
  | 0, listed, a, w, hw, h => by rw [Nat.zero_add]; exact hL _ _ _ hw h
  | f + 1, listed, a, w, hw, h => by
    rw [show f + 1 + g = (f + g) + 1 by omega]
    exact ⟨fun h0 => absurd h0 h.1, fun i hi => wpOp_of_qOp hw (fun a' w' hw' h' => wpAny_of_wpHead hL f _ a' w' hw' h') (h.2 i hi).2⟩

theorem wpHead_first {n i : Nat} {oi : Oper} {v : Value} {L : Array Bool → Act → Prop} (hi : ops[i]? = some oi) (hsel : ∀ (j : Nat) (o : Oper) cs b, ops[j]? = some o → o.op ≠ .select cs b)
    (hs : Region.sinkB md ops n = true) (hc : Region.chainB md ops n = true) (hn : n < ops.size) (hin : i < n)
    (hdone : ∀ listed a, L listed a → ∀ j ∈ Region.ready md ops listed, n ≤ j) :
    ∀ (f : Nat) (listed : Array Bool) (a : Act), HeadInv md ops n listed →
      (∀ j oj, ops[j]? = some oj → j ≠ i → listed.getD j true = false → (∀ e ∈ oj.after, Region.binds md e = true → e.on ≠ i) → oi.apart ops oj = true) →
      i ∈ Region.ready md ops listed → YieldsIn P ops C oi v a →
      wpHead P md ops C n L f (listed.setIfInBounds i true) (a.put oi.dst v) → wpHead P md ops C n L (f + 1) listed a := by
  intro f
  induction f with
  | zero =>
    intro listed a inv _ hr hy H
    have hun := (mem_ready.1 hr).1
    refine ⟨fun h => (by rw [h] at hr; cases hr), fun j hj => ?_⟩
    have hjn : j < n := by
      rcases Nat.lt_or_ge j n with h | h
      · exact h
      · exact absurd hj (tail_waits hs hc hn inv _ i rfl hin hun j h)
    refine ⟨hjn, ?_⟩
    by_cases hji : j = i
    · subst hji; exact hy.qOp hi H
    · have := hdone _ _ H j (ready_mono hj hji)
      omega
  | succ f ih =>
    intro listed a inv hfree hr hy H
    have hun := (mem_ready.1 hr).1
    refine ⟨fun h => (by rw [h] at hr; cases hr), fun j hj => ?_⟩
    have hjn : j < n := by
      rcases Nat.lt_or_ge j n with h | h
      · exact h
      · exact absurd hj (tail_waits hs hc hn inv _ i rfl hin hun j h)
    refine ⟨hjn, ?_⟩
    by_cases hji : j = i
    · subst hji; exact hy.qOp hi H
    · have h1 := (H.2 j (ready_mono hj hji)).2
      obtain ⟨hjun, oj, hoj, hall⟩ := mem_ready.1 hj
      have hnot : ∀ e ∈ oj.after, Region.binds md e = true → e.on ≠ i := fun e he hb heq => by
        have h1 := hall e he hb
        rw [heq, getD_both hun] at h1
        cases h1
      have h2 := qOp_put hoj (hfree j oj hoj hji hjun hnot) (fun cs b => hsel i oi cs b hi) (fun cs b => hsel j oj cs b hoj) hy h1
      have hfree' : ∀ k ok, ops[k]? = some ok → k ≠ i → (listed.setIfInBounds j true).getD k true = false →
          (∀ e ∈ ok.after, Region.binds md e = true → e.on ≠ i) → oi.apart ops ok = true := fun k ok hk hki hun hno => by
        refine hfree k ok hk hki ?_ hno
        by_cases hjk : j = k
        · subst hjk; exact hjun
        · rw [getD_set_ne true hjk] at hun; exact hun
      refine qOp_mono (fun a' h3 => ih (listed.setIfInBounds j true) a' (inv.set hj hjn) hfree' (ready_mono hr (Ne.symm hji)) h3.1 ?_) h2
      rw [Array.setIfInBounds_comm _ _ hji]
      exact h3.2

theorem wpHead_lex {n g : Nat} {Lq : Act → Prop} (hsel : Region.noSelect ops = true) (hs : Region.sinkB md ops n = true) (hc : Region.chainB md ops n = true) (hn : n < ops.size) :
    ∀ (l : List Oper) (k : Nat) (listed : Array Bool) (a : Act), (∀ j, j < l.length → l[j]? = ops[k + j]?) → k + l.length = n → HeadInv md ops n listed →
    Region.lexHead md ops g l.length k listed = true → wpQuiet P ops C Lq l a →
    wpHead P md ops C n (fun listed' a' => Region.seqB md ops g n listed' = true ∧ Lq a') l.length listed a
  | [], k, listed, a, _, hk, _, hB, h => by
    have : k = n := by simpa using hk
    subst this
    exact ⟨by simpa [Region.lexHead] using hB, h⟩
  | o :: l, k, listed, a, hl, hk, inv, hB, h => by
    have h0 : ops[k]? = some o := by simpa using (hl 0 (by simp)).symm
    simp only [List.length_cons, Region.lexHead, Bool.and_eq_true] at hB
    obtain ⟨⟨hr, hf⟩, hB'⟩ := hB
    have hkn : k < n := by simp only [List.length_cons] at hk; omega
    have hr' : k ∈ Region.ready md ops listed := by simpa using hr
    have hst : qOp P ops C k (wpQuiet P ops C Lq l) a := by unfold qOp; simp only [h0]; exact h
    obtain ⟨v, hy, hK⟩ := yieldsIn_of_qOp h0 hst
    exact wpHead_first h0 (Region.noSelect_spec hsel) hs hc hn hkn (fun listed' a' hL => seqB_ready hL.1) l.length listed a inv (Region.free_spec h0 hf) hr' hy
      (wpHead_lex hsel hs hc hn l (k + 1) _ _ (fun j hj => by have := hl (j + 1) (by simp; omega); simpa [Nat.add_assoc, Nat.add_comm 1 j] using this) (by simp only [List.length_cons] at hk; omega) (inv.set hr' hkn) hB' hK)

theorem wp_region_calm_tail {id : Nat} {Q : Exit → Act → World → Prop} {a : Act} {w : World} {l : List Oper} (n : Nat) (hm : P.follows .mixedOrders = true) (hB : Region.lexTailB .any l.toArray n = true)
    (h : wpQuiet P l.toArray (fun w' => ∃ x, w' = later w x) (fun a' => ∀ w', Below w.heap.size w w' → wpList P l.toArray Q (l.drop n) a' w') (l.take n) a) : (Code.region id l.toArray true).wp P Q a w := by
  have h' : wpQuiet P l.toArray (fun w' => ∃ x, w' = later w x) (fun a' => ∀ w', (∃ x, w' = later w x) → wpList P l.toArray Q (l.drop n) a' w') (l.take n) a := by
    have : (fun a' => ∀ w', Below w.heap.size w w' → wpList P l.toArray Q (l.drop n) a' w') = (fun a' => ∀ w', (∃ x, w' = later w x) → wpList P l.toArray Q (l.drop n) a' w') := by
      funext a'
      refine propext ⟨fun h w' ⟨x, hx⟩ => ?_, fun h w' hb => h w' ⟨w', (later_of hb).symm⟩⟩
      subst hx; exact h _ (later_below w x)
    rw [← this]; exact h
  simp only [Region.lexTailB, Bool.and_eq_true, decide_eq_true_eq] at hB
  obtain ⟨⟨⟨⟨hsel, hn⟩, hs⟩, hc⟩, hlex⟩ := hB
  have hn' : n < l.length := by simpa using hn
  have htl : (l.take n).length = n := by simp; omega
  have hdl : (l.drop n).length = l.toArray.size - n := by simp
  have inv0 : HeadInv .any l.toArray n (Array.replicate l.toArray.size false) :=
    ⟨by simp, fun j oj _ hl => (by rw [getD_replicate_false] at hl; cases hl), fun t _ ht => getD_in (by simpa using ht) (getD_replicate_false _ _)⟩
  have H := wpHead_lex (md := .any) (g := l.toArray.size - n) hsel hs hc hn (l.take n) 0 _ a (fun j hj => by
    have hj' : j < n := by rw [htl] at hj; exact hj
    simp [hj']) (by simpa using htl) inv0 (by rw [htl]; exact hlex) h'
  refine wp_region_any hm ?_
  have := wpAny_of_wpHead (Q' := Q) (g := l.toArray.size - n) (fun listed a' w' hw' hL => by
    have := wpAny_of_seq (md := .any) (Q' := Q) (l.drop n) n listed a' w' (fun j => by simp [List.getElem?_drop]) (by rw [hdl]; exact hL.1) (hL.2 w' hw')
    rwa [hdl] at this) _ _ _ { w with drawn := w.drawn + 1 } ⟨w.drew, (later_of (Below.refl _ _).drew).symm⟩ H
  rw [htl, show n + (l.toArray.size - n) = l.toArray.size by omega] at this
  exact this
end
end Go.Proofs.Ytbigadbnijpcjaa
