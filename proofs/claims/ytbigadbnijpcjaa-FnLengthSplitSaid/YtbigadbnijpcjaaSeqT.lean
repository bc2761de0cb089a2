/-
  The same walk of a region that draws its order, with a tail: operations at the end that wait for all others and stand in one forced order (a store into what lay there before).
-/
import Derived.Test.YtbigadbnijpcjaaSeq
import Derived.StillTail
namespace Go.Proofs.Ytbigadbnijpcjaa
open Go.RowKit
section
variable {P : Program} {ops : Array Oper} {md : Region.Mode} {w0 : World} {hv : Nat → Bool} {Q : Act → World → Prop}
def wpT (P : Program) (md : Region.Mode) (ops : Array Oper) (w0 : World) (hv : Nat → Bool) (n : Nat) (L : Array Bool → Act → World → Prop) : Nat → Array Bool → Act → World → Prop
  | 0, listed, a, w => L listed a w
  | fuel + 1, listed, a, w => Region.ready md ops listed ≠ [] ∧ ∀ i ∈ Region.ready md ops listed, i < n ∧ xOp P ops w0 hv i (wpT P md ops w0 hv n L fuel (listed.setIfInBounds i true)) a w
theorem wpAny_of_T {n g : Nat} {L : Array Bool → Act → World → Prop} {Q' : Exit → Act → World → Prop} (hL : ∀ listed a w, Below w0.heap.size w0 w → L listed a w → wpAny P md ops Q' g listed a w) :
    ∀ (fuel : Nat) (listed : Array Bool) (a : Act) (w : World), Below w0.heap.size w0 w → wpT P md ops w0 hv n L fuel listed a w → wpAny P md ops Q' (fuel + g) listed a w
  | 0, _, _, _, hw, h => by rw [Nat.zero_add]; exact hL _ _ _ hw h
  | fuel + 1, listed, a, w, hw, h => by
    rw [show fuel + 1 + g = (fuel + g) + 1 by omega]
    exact ⟨fun h0 => absurd h0 h.1, fun i hi => by
      have hx := (h.2 i hi).2
      unfold xOp at hx
      unfold wpOp
      split
      · rename_i ho; simp only [ho] at hx; exact wpAny_of_T hL fuel _ _ _ hw hx
      · rename_i o ho
        simp only [ho] at hx
        split
        · rename_i hwt
          simp only [hwt, if_true] at hx
          refine .inl ?_
          unfold Oper.wp
          split at hx
          · unfold heavyAt at hx
            generalize (execOp a.eval o).run P w = r at *
            cases r with
            | ok n w' =>
              cases n <;> simp only [heavyUpon] at hx <;> simp only [Oper.upon]
              case value u => exact wpAny_of_T hL fuel _ _ _ (hw.trans hx.1) hx.2
              case skip => exact wpAny_of_T hL fuel _ _ _ (hw.trans hx.1) hx.2
              case enter f args =>
                refine Calls.mono hx fun e w'' he => ?_
                obtain ⟨v, rfl, h1, h2⟩ := he
                exact wpAny_of_T hL fuel _ _ _ (hw.trans h1) h2
            | halt x w' => simp only [heavyUpon] at hx
          · obtain ⟨v, h1, h2⟩ := hx
            have h3 := h1 w
            rw [later_of hw] at h3
            unfold calmAt at h3
            generalize (execOp a.eval o).run P w = r at *
            cases r with
            | ok n w' =>
              cases n <;> simp only [calmUpon] at h3 <;> simp only [Oper.upon]
              case value u => obtain ⟨e1, e2⟩ := h3; rw [e1, e2]; exact wpAny_of_T hL fuel _ _ _ hw h2
              case skip => obtain ⟨e1, e2⟩ := h3; rw [e1, ← e2]; exact wpAny_of_T hL fuel _ _ _ hw h2
            | halt x w' => simp only [calmUpon] at h3
        · rename_i hwt; simp only [hwt] at hx; exact wpAny_of_T hL fuel _ _ _ hw hx⟩
theorem closed_of {n : Nat} {listed : Array Bool} (inv : HeadInv md ops n listed) : ClosedL md ops listed := ⟨inv.size, inv.closed⟩
theorem wpT_calm {n i : Nat} {oi : Oper} {v : Value} {L : Array Bool → Act → World → Prop} (hi : ops[i]? = some oi) (hsel : ∀ (j : Nat) (o : Oper) cs b, ops[j]? = some o → o.op ≠ .select cs b) (hA : apartB md ops hv = true) (hC : chainsB md ops hv = true)
    (hs : Region.sinkB md ops n = true) (hc : Region.chainB md ops n = true) (hn : n < ops.size) (hin : i < n) (hdone : ∀ listed a w, L listed a w → ∀ j ∈ Region.ready md ops listed, n ≤ j) :
    ∀ (fuel : Nat) (listed : Array Bool) (a : Act) (w : World), HeadInv md ops n listed → i ∈ Region.ready md ops listed → (YieldsX P ops w0 oi v a ∧ (hv i = false ∨ Region.wanted oi (yielded ops a.tmps) = false)) →
      wpT P md ops w0 hv n L fuel (listed.setIfInBounds i true) (a.put oi.dst v) w → wpT P md ops w0 hv n L (fuel + 1) listed a w := by
  intro fuel
  induction fuel with
  | zero =>
    intro listed a w inv hr hy H
    have hun := (mem_ready.1 hr).1
    refine ⟨fun h => (by rw [h] at hr; cases hr), fun j hj => ?_⟩
    have hjn : j < n := by
      rcases Nat.lt_or_ge j n with h | h
      · exact h
      · exact absurd hj (tail_waits hs hc hn inv _ i rfl hin hun j h)
    refine ⟨hjn, ?_⟩
    by_cases hji : j = i
    · subst hji; exact hy.1.xOp hi hy.2 H
    · have := hdone _ _ _ H j (ready_mono hj hji)
      omega
  | succ fuel ih =>
    intro listed a w inv hr hy H
    have hun := (mem_ready.1 hr).1
    refine ⟨fun h => (by rw [h] at hr; cases hr), fun j hj => ?_⟩
    have hjn : j < n := by
      rcases Nat.lt_or_ge j n with h | h
      · exact h
      · exact absurd hj (tail_waits hs hc hn inv _ i rfl hin hun j h)
    refine ⟨hjn, ?_⟩
    by_cases hji : j = i
    · subst hji; exact hy.1.xOp hi hy.2 H
    · have h1 := (H.2 j (ready_mono hj hji)).2
      obtain ⟨oj, hoj, _⟩ := ready_bound hj
      have hcc : hv i = false ∨ hv j = false := by
        cases e1 : hv i
        · exact .inl rfl
        · cases e2 : hv j
          · exact .inr rfl
          · exact absurd (chain_one hC (closed_of inv) hj hr e2 e1) hji
      have hap := ready_apart hA hr hj (Ne.symm hji) hi hoj hcc
      obtain ⟨p1, p2, p3⟩ := Oper.apart_spec hap
      have hsi : ∀ cs b, oi.op ≠ .select cs b := fun cs b => hsel i oi cs b hi
      have h2 := xOp_put (Z := fun a => YieldsX P ops w0 oi v a ∧ (hv i = false ∨ Region.wanted oi (yielded ops a.tmps) = false)) hoj hap (fun cs b => hsel j oj cs b hoj) hy
        (fun u => ⟨hy.1.of_same (execOp_put oi hsi a oj.dst u p3) (wanted_put oi a oj.dst u p3), by rw [wanted_put oi a oj.dst u p3]; exact hy.2⟩) h1
      refine xOp_mono (fun a' w' h3 => ih (listed.setIfInBounds j true) a' w' (inv.set hj hjn) (ready_mono hr (Ne.symm hji)) h3.1 ?_) h2
      rw [Array.setIfInBounds_comm _ _ hji]
      exact h3.2
theorem wpT_heavy {n k : Nat} {ok : Oper} {L : Array Bool → Act → World → Prop} (hk : ops[k]? = some ok) (hsel : ∀ (j : Nat) (o : Oper) cs b, ops[j]? = some o → o.op ≠ .select cs b) (hA : apartB md ops hv = true) (hC : chainsB md ops hv = true) (hh : hv k = true)
    (hs : Region.sinkB md ops n = true) (hc : Region.chainB md ops n = true) (hn : n < ops.size) (hin : k < n) (hdone : ∀ listed a w, L listed a w → ∀ j ∈ Region.ready md ops listed, n ≤ j) :
    ∀ (fuel : Nat) (listed : Array Bool) (a : Act) (w : World), HeadInv md ops n listed → Below w0.heap.size w0 w → k ∈ Region.ready md ops listed → Region.wanted ok (yielded ops a.tmps) = true →
      heavyAt P ok a w (fun v w' => Below w0.heap.size w w' ∧ wpT P md ops w0 hv n L fuel (listed.setIfInBounds k true) (a.put ok.dst v) w') → wpT P md ops w0 hv n L (fuel + 1) listed a w := by
  intro fuel
  induction fuel with
  | zero =>
    intro listed a w inv hw hr hwt H
    have hun := (mem_ready.1 hr).1
    refine ⟨fun h => (by rw [h] at hr; cases hr), fun j hj => ?_⟩
    have hjn : j < n := by
      rcases Nat.lt_or_ge j n with h | h
      · exact h
      · exact absurd hj (tail_waits hs hc hn inv _ k rfl hin hun j h)
    refine ⟨hjn, ?_⟩
    by_cases hjk : j = k
    · subst hjk
      unfold xOp; simp only [hk, hwt, hh, if_true]; exact H
    · obtain ⟨v, w', _, H'⟩ := heavyAt_some H
      have := hdone _ _ _ H' j (ready_mono hj hjk)
      omega
  | succ fuel ih =>
    intro listed a w inv hw hr hwt H
    have hun := (mem_ready.1 hr).1
    refine ⟨fun h => (by rw [h] at hr; cases hr), fun j hj => ?_⟩
    have hjn : j < n := by
      rcases Nat.lt_or_ge j n with h | h
      · exact h
      · exact absurd hj (tail_waits hs hc hn inv _ k rfl hin hun j h)
    refine ⟨hjn, ?_⟩
    by_cases hjk : j = k
    · subst hjk
      unfold xOp; simp only [hk, hwt, hh, if_true]; exact H
    · have hcj : hv j = false := by
        cases h : hv j
        · rfl
        · exact absurd (chain_one hC (closed_of inv) hj hr h hh) hjk
      obtain ⟨oj, hoj, _⟩ := ready_bound hj
      have hap := ready_apart hA hj hr hjk hoj hk (.inl hcj)
      obtain ⟨p1, p2, p3⟩ := Oper.apart_spec hap
      have hsj : ∀ cs b, oj.op ≠ .select cs b := fun cs b => hsel j oj cs b hoj
      have hsk : ∀ cs b, ok.op ≠ .select cs b := fun cs b => hsel k ok cs b hk
      have key : ∃ vj, YieldsX P ops w0 oj vj a := by
        obtain ⟨v, w', _, H'⟩ := heavyAt_some H
        have h1 := (H'.2 j (ready_mono hj hjk)).2
        unfold xOp at h1
        simp only [hoj] at h1
        rw [wanted_put oj a ok.dst v p3] at h1
        by_cases hwj : Region.wanted oj (yielded ops a.tmps) = true
        · simp only [hwj, if_true, hcj, Bool.false_eq_true, if_false] at h1
          obtain ⟨vj, h2, _⟩ := h1
          refine ⟨vj, .inl ⟨hwj, fun x => ?_⟩⟩
          have := h2 x
          unfold calmAt at *
          rwa [execOp_put oj hsj a ok.dst v p3] at this
        · exact ⟨undef, .inr ⟨by simpa using hwj, rfl⟩⟩
      obtain ⟨vj, hy⟩ := key
      refine hy.xOp hoj (.inl hcj) ?_
      refine ih (listed.setIfInBounds j true) (a.put oj.dst vj) w (inv.set hj hjn) hw (ready_mono hr (Ne.symm hjk)) (by rw [wanted_put ok a oj.dst vj p1]; exact hwt) ?_
      unfold heavyAt at *
      rw [execOp_put ok hsk a oj.dst vj p1]
      refine heavyAt_mono (P := P) (o := ok) (a := a) (w := w) (fun v w' ⟨hb, hX⟩ => ⟨hb, ?_⟩) H
      have h1 := (hX.2 j (ready_mono hj hjk)).2
      unfold xOp at h1
      simp only [hoj] at h1
      rw [wanted_put oj a ok.dst v p3] at h1
      rw [Array.setIfInBounds_comm _ _ hjk, ← Act.put_comm a v vj (fun d hd hd' => p2 d hd' hd)]
      rcases hy with ⟨hwj, hyj⟩ | ⟨hwj, rfl⟩
      · simp only [hwj, if_true, hcj, Bool.false_eq_true, if_false] at h1
        obtain ⟨vj', h2, h3⟩ := h1
        have e : vj' = vj := by
          have a1 := h2 w
          have a2 := hyj w
          unfold calmAt at a1
          rw [execOp_put oj hsj a ok.dst v p3] at a1
          exact calmAt_one (o := oj) (a := a) a1 a2
        subst e
        exact h3
      · simp only [hwj, Bool.false_eq_true, if_false] at h1
        exact h1
def lexsT (md : Region.Mode) (ops : Array Oper) (g : Nat) : Nat → Nat → Array Bool → Bool
  | 0, k, listed => Region.seqB md ops g k listed
  | f + 1, k, listed => (Region.ready md ops listed).contains k && lexsT md ops g f (k + 1) (listed.setIfInBounds k true)
def seqsTailB (md : Region.Mode) (ops : Array Oper) (hv : Nat → Bool) (n : Nat) : Bool :=
  Region.noSelect ops && apartB md ops hv && chainsB md ops hv && decide (n < ops.size) && Region.sinkB md ops n && Region.chainB md ops n && lexsT md ops (ops.size - n) n 0 (Array.replicate ops.size false)
theorem seq_T {n g : Nat} (hsel : Region.noSelect ops = true) (hA : apartB md ops hv = true) (hC : chainsB md ops hv = true) (hs : Region.sinkB md ops n = true) (hc : Region.chainB md ops n = true) (hn : n < ops.size) :
    ∀ (l : List Oper) (k : Nat) (listed : Array Bool) (a : Act) (w : World), (∀ j, j < l.length → l[j]? = ops[k + j]?) → k + l.length = n →
    lexsT md ops g l.length k listed = true → HeadInv md ops n listed → Below w0.heap.size w0 w → wpSeq P ops w0 hv Q l k a w →
    wpT P md ops w0 hv n (fun listed' a' w' => Region.seqB md ops g n listed' = true ∧ Q a' w') l.length listed a w
  | [], k, listed, a, w, _, hk, hB, _, _, h => by
    have : k = n := by simpa using hk
    subst this
    unfold wpSeq at h
    exact ⟨by simpa [lexsT] using hB, h⟩
  | o :: l, k, listed, a, w, hl, hk, hB, inv, hw, h => by
    have h0 : ops[k]? = some o := by simpa using (hl 0 (by simp)).symm
    simp only [List.length_cons, lexsT, Bool.and_eq_true] at hB
    obtain ⟨hr, hB'⟩ := hB
    have hkn : k < n := by simp only [List.length_cons] at hk; omega
    have hr' : k ∈ Region.ready md ops listed := by simpa using hr
    have hl' : ∀ j, j < l.length → l[j]? = ops[k + 1 + j]? := fun j hj => by have := hl (j + 1) (by simp; omega); simpa [Nat.add_assoc, Nat.add_comm 1 j] using this
    have hk' : k + 1 + l.length = n := by simp only [List.length_cons] at hk; omega
    have hss := Region.noSelect_spec hsel
    have hdone : ∀ (listed' : Array Bool) (a' : Act) (w' : World), (Region.seqB md ops g n listed' = true ∧ Q a' w') → ∀ j ∈ Region.ready md ops listed', n ≤ j := fun _ _ _ hL => seqB_ready hL.1
    unfold wpSeq at h
    split at h
    · rename_i hwt
      split at h
      · rename_i hh
        refine wpT_heavy h0 hss hA hC hh hs hc hn hkn hdone l.length listed a w inv hw hr' hwt ?_
        exact heavyAt_mono (fun v w' ⟨hb, hX⟩ => ⟨hb, seq_T hsel hA hC hs hc hn l (k + 1) _ _ _ hl' hk' hB' (inv.set hr' hkn) (hw.trans hb) hX⟩) h
      · rename_i hh
        obtain ⟨v, h1, h2⟩ := h
        exact wpT_calm h0 hss hA hC hs hc hn hkn hdone l.length listed a w inv hr' ⟨.inl ⟨hwt, h1⟩, .inl (by simpa using hh)⟩ (seq_T hsel hA hC hs hc hn l (k + 1) _ _ _ hl' hk' hB' (inv.set hr' hkn) hw h2)
    · rename_i hwt
      have hwt' : Region.wanted o (yielded ops a.tmps) = false := by simpa using hwt
      exact wpT_calm h0 hss hA hC hs hc hn hkn hdone l.length listed a w inv hr' ⟨.inr ⟨hwt', rfl⟩, .inr hwt'⟩ (seq_T hsel hA hC hs hc hn l (k + 1) _ _ _ hl' hk' hB' (inv.set hr' hkn) hw h)
/-- **THE REGION WITH A TAIL.** hs: the numbers of the heavy ones; n: where the tail begins. -/
theorem wp_region_seq_tail {id : Nat} {Q' : Exit → Act → World → Prop} {a : Act} {w : World} {l : List Oper} (hs : List Nat) (n : Nat) (hm : P.follows .mixedOrders = true) (hB : seqsTailB .any l.toArray (fun i => hs.contains i) n = true)
    (h : wpSeq P l.toArray w (fun i => hs.contains i) (fun a' w' => wpList P l.toArray Q' (l.drop n) a' w') (l.take n) 0 a w.drew) : (Code.region id l.toArray true).wp P Q' a w := by
  simp only [seqsTailB, Bool.and_eq_true, decide_eq_true_eq] at hB
  obtain ⟨⟨⟨⟨⟨⟨h1, h2⟩, h3⟩, hn⟩, h5⟩, h6⟩, h7⟩ := hB
  have hn' : n < l.length := by simpa using hn
  have htl : (l.take n).length = n := by simp; omega
  have hdl : (l.drop n).length = l.toArray.size - n := by simp
  have inv0 : HeadInv .any l.toArray n (Array.replicate l.toArray.size false) :=
    ⟨by simp, fun j oj _ hl => (by rw [getD_replicate_false] at hl; cases hl), fun t _ ht => getD_in (by simpa using ht) (getD_replicate_false _ _)⟩
  have H := seq_T (w0 := w) (g := l.toArray.size - n) h1 h2 h3 h5 h6 hn (l.take n) 0 (Array.replicate l.toArray.size false) a w.drew (fun j hj => by
    have hj' : j < n := by rw [htl] at hj; exact hj
    simp [hj']) (by simpa using htl) (by rw [htl]; exact h7) inv0 (Below.refl _ _).drew h
  refine wp_region_any hm ?_
  have := wpAny_of_T (md := .any) (Q' := Q') (g := l.toArray.size - n) (fun listed a' w' _ hL => by
    have := wpAny_of_seq (md := .any) (Q' := Q') (l.drop n) n listed a' w' (fun j => by simp [List.getElem?_drop]) (by rw [hdl]; exact hL.1) hL.2
    rwa [hdl] at this) _ _ _ _ (Below.refl _ _).drew H
  rw [htl, show n + (l.toArray.size - n) = l.toArray.size by omega] at this
  exact this
end
end Go.Proofs.Ytbigadbnijpcjaa
