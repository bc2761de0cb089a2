/-
  A region that draws its order, whose heavy operations (calls, makers) do not lean on each other and stand in no order: one walk in the text's order. What each brings about is said by R (it stands as long as what was there stays), the blocks that it makes by B; a tail of operations that wait for all others comes last.
-/
import Derived.Test.YtbigadbnijpcjaaSeqT
namespace Go.Proofs.Ytbigadbnijpcjaa
open Go.RowKit
section
variable {P : Program} {ops : Array Oper} {md : Region.Mode} {w0 : World} {hv : Nat → Bool} {R : Nat → Value → World → Prop} {B : Nat → Value → Nat → Prop}
def heavyE (P : Program) (e : Sem Next) (w : World) (S : Value → World → Prop) : Prop := heavyUpon P S (e.run P w)
/-- Operation i, whose run is e, may be carried out in whatever world. -/
def okF (P : Program) (w0 : World) (hv : Nat → Bool) (R : Nat → Value → World → Prop) (B : Nat → Value → Nat → Prop) (i : Nat) (e : Sem Next) (wt : Bool) : Prop :=
  wt = true → hv i = true → ∀ w, Below w0.heap.size w0 w → heavyE P e w (fun v w' => Below w.heap.size w w' ∧ R i v w' ∧ ∀ b, B i v b → w.heap.size ≤ b ∧ b < w'.heap.size)
/-- What it may yield. -/
def mayF (P : Program) (w0 : World) (hv : Nat → Bool) (i : Nat) (e : Sem Next) (wt : Bool) (v : Value) : Prop :=
  if wt = true then (if hv i = true then True else ∀ x, calmUpon (later w0 x) v (e.run P (later w0 x))) else v = undef
def extF (hv : Nat → Bool) (i : Nat) (wt : Bool) (v : Value) (vs : List (Nat × Value)) : List (Nat × Value) := if wt = true ∧ hv i = true then (i, v) :: vs else vs
def gF (P : Program) (ops : Array Oper) (w0 : World) (hv : Nat → Bool) (R : Nat → Value → World → Prop) (B : Nat → Value → Nat → Prop) (i : Nat) (K : Act → List (Nat × Value) → Prop) (a : Act) (vs : List (Nat × Value)) : Prop :=
  ∀ o, ops[i]? = some o → okF P w0 hv R B i (execOp a.eval o) (Region.wanted o (yielded ops a.tmps)) ∧ (∃ v, mayF P w0 hv i (execOp a.eval o) (Region.wanted o (yielded ops a.tmps)) v) ∧
    ∀ v, mayF P w0 hv i (execOp a.eval o) (Region.wanted o (yielded ops a.tmps)) v → K (a.put o.dst v) (extF hv i (Region.wanted o (yielded ops a.tmps)) v vs)
def wpJ (P : Program) (md : Region.Mode) (ops : Array Oper) (w0 : World) (hv : Nat → Bool) (R : Nat → Value → World → Prop) (B : Nat → Value → Nat → Prop) (n : Nat) (L : Array Bool → Act → List (Nat × Value) → Prop) : Nat → Array Bool → Act → List (Nat × Value) → Prop
  | 0, listed, a, vs => L listed a vs
  | fuel + 1, listed, a, vs => Region.ready md ops listed ≠ [] ∧ ∀ i ∈ Region.ready md ops listed, i < n ∧ gF P ops w0 hv R B i (wpJ P md ops w0 hv R B n L fuel (listed.setIfInBounds i true)) a vs
/-- What stands of all that has come up. -/
def GoodF (w0 : World) (R : Nat → Value → World → Prop) (B : Nat → Value → Nat → Prop) (vs : List (Nat × Value)) (w : World) : Prop :=
  (∀ p ∈ vs, R p.1 p.2 w ∧ ∀ b, B p.1 p.2 b → w0.heap.size ≤ b ∧ b < w.heap.size) ∧ ∀ p ∈ vs, ∀ q ∈ vs, p.1 ≠ q.1 → ∀ b, B p.1 p.2 b → ¬ B q.1 q.2 b
theorem GoodF.perm {vs vs' : List (Nat × Value)} {w : World} (h : vs.Perm vs') (g : GoodF w0 R B vs' w) : GoodF w0 R B vs w :=
  ⟨fun p hp => g.1 p (h.mem_iff.1 hp), fun p hp q hq => g.2 p (h.mem_iff.1 hp) q (h.mem_iff.1 hq)⟩
theorem good_nil (w : World) : GoodF w0 R B [] w := ⟨fun p hp => absurd hp (List.not_mem_nil), fun p hp => absurd hp (List.not_mem_nil)⟩
theorem ext_perm (hv : Nat → Bool) (i j : Nat) (x y : Bool) (u v : Value) (vs : List (Nat × Value)) : (extF hv i x u (extF hv j y v vs)).Perm (extF hv j y v (extF hv i x u vs)) := by
  unfold extF
  split <;> split <;> first | exact .swap _ _ _ | exact .refl _
theorem ext_perm_of (hv : Nat → Bool) (i : Nat) (x : Bool) (u : Value) {vs vs' : List (Nat × Value)} (h : vs.Perm vs') : (extF hv i x u vs).Perm (extF hv i x u vs') := by
  unfold extF
  split
  · exact .cons _ h
  · exact h
theorem wpJ_perm {n : Nat} {L : Array Bool → Act → List (Nat × Value) → Prop} (hp : ∀ listed a vs vs', vs.Perm vs' → L listed a vs → L listed a vs') :
    ∀ (fuel : Nat) (listed : Array Bool) (a : Act) (vs vs' : List (Nat × Value)), vs.Perm vs' → wpJ P md ops w0 hv R B n L fuel listed a vs → wpJ P md ops w0 hv R B n L fuel listed a vs'
  | 0, _, _, _, _, h, H => hp _ _ _ _ h H
  | fuel + 1, listed, a, vs, vs', h, H => ⟨H.1, fun i hi => ⟨(H.2 i hi).1, fun o ho => by
      obtain ⟨h1, h2, h3⟩ := (H.2 i hi).2 o ho
      exact ⟨h1, h2, fun v hv' => wpJ_perm hp fuel _ _ _ _ (ext_perm_of hv i _ v h) (h3 v hv')⟩⟩⟩
theorem wpAny_of_J {n g : Nat} {L : Array Bool → Act → List (Nat × Value) → Prop} {Q' : Exit → Act → World → Prop} (hR : ∀ k v w w', R k v w → Below w.heap.size w w' → R k v w')
    (hL : ∀ listed a vs w, Below w0.heap.size w0 w → GoodF w0 R B vs w → L listed a vs → wpAny P md ops Q' g listed a w) :
    ∀ (fuel : Nat) (listed : Array Bool) (a : Act) (vs : List (Nat × Value)) (w : World), Below w0.heap.size w0 w → GoodF w0 R B vs w → wpJ P md ops w0 hv R B n L fuel listed a vs → wpAny P md ops Q' (fuel + g) listed a w
  | 0, _, _, _, _, hw, hg, h => by rw [Nat.zero_add]; exact hL _ _ _ _ hw hg h
  | fuel + 1, listed, a, vs, w, hw, hg, h => by
    rw [show fuel + 1 + g = (fuel + g) + 1 by omega]
    refine ⟨fun h0 => absurd h0 h.1, fun i hi => ?_⟩
    obtain ⟨o, ho, _⟩ := ready_bound hi
    obtain ⟨h1, ⟨v0, h2⟩, h3⟩ := (h.2 i hi).2 o ho
    unfold wpOp
    simp only [ho]
    by_cases hwt : Region.wanted o (yielded ops a.tmps) = true
    · simp only [hwt, if_true]
      rw [hwt] at h1 h2 h3
      refine .inl ?_
      unfold Oper.wp
      by_cases hh : hv i = true
      · have hs := h1 rfl hh w hw
        have hgood : ∀ v w', (Below w.heap.size w w' ∧ R i v w' ∧ ∀ b, B i v b → w.heap.size ≤ b ∧ b < w'.heap.size) → wpAny P md ops Q' (fuel + g) (listed.setIfInBounds i true) (a.put o.dst v) w' := fun v w' ⟨hb, hr, hB⟩ => by
          have := h3 v (by unfold mayF; simp [hh])
          unfold extF at this
          rw [if_pos ⟨rfl, hh⟩] at this
          refine wpAny_of_J hR hL fuel _ _ _ w' (hw.trans (hb.mono hw.size)) ⟨fun p hp => ?_, fun p hp q hq hne b hbp hbq => ?_⟩ this
          · rcases List.mem_cons.1 hp with rfl | hp
            · exact ⟨hr, fun b hb => ⟨Nat.le_trans hw.size (hB b hb).1, (hB b hb).2⟩⟩
            · obtain ⟨g1, g2⟩ := hg.1 p hp
              exact ⟨hR _ _ _ _ g1 hb, fun b hb' => ⟨(g2 b hb').1, Nat.lt_of_lt_of_le (g2 b hb').2 hb.size⟩⟩
          · rcases List.mem_cons.1 hp with rfl | hp
            · rcases List.mem_cons.1 hq with rfl | hq
              · exact hne rfl
              · have := (hB b hbp).1
                have := ((hg.1 q hq).2 b hbq).2
                omega
            · rcases List.mem_cons.1 hq with rfl | hq
              · have := (hB b hbq).1
                have := ((hg.1 p hp).2 b hbp).2
                omega
              · exact hg.2 p hp q hq hne b hbp hbq
        unfold heavyE at hs
        generalize (execOp a.eval o).run P w = r at *
        cases r with
        | ok m w' =>
          cases m <;> simp only [heavyUpon] at hs <;> simp only [Oper.upon]
          case value u => exact hgood _ _ hs
          case skip => exact hgood _ _ hs
          case enter f args =>
            refine Calls.mono hs fun e w'' he => ?_
            obtain ⟨v, rfl, hx⟩ := he
            exact hgood _ _ hx
        | halt x w' => simp only [heavyUpon] at hs
      · have hh' : hv i = false := by simpa using hh
        unfold mayF at h2
        simp only [if_true, hh', Bool.false_eq_true, if_false] at h2
        have hc := h2 w
        rw [later_of hw] at hc
        have hk := h3 v0 (by unfold mayF; simp only [if_true, hh', Bool.false_eq_true, if_false]; exact h2)
        unfold extF at hk
        rw [if_neg (by simp [hh'])] at hk
        generalize (execOp a.eval o).run P w = r at *
        cases r with
        | ok m w' =>
          cases m <;> simp only [calmUpon] at hc <;> simp only [Oper.upon]
          case value u => obtain ⟨e1, e2⟩ := hc; rw [e1, e2]; exact wpAny_of_J hR hL fuel _ _ _ _ hw hg hk
          case skip => obtain ⟨e1, e2⟩ := hc; rw [e1, ← e2]; exact wpAny_of_J hR hL fuel _ _ _ _ hw hg hk
        | halt x w' => simp only [calmUpon] at hc
    · have hwt' : Region.wanted o (yielded ops a.tmps) = false := by simpa using hwt
      simp only [hwt', Bool.false_eq_true, if_false]
      rw [hwt'] at h3
      have hk := h3 undef (by unfold mayF; simp)
      unfold extF at hk
      rw [if_neg (by simp)] at hk
      exact wpAny_of_J hR hL fuel _ _ _ _ hw hg hk
/-- The one whose turn it is may be taken first. -/
theorem wpJ_first {n i : Nat} {oi : Oper} {L : Array Bool → Act → List (Nat × Value) → Prop} (hp : ∀ listed a vs vs', vs.Perm vs' → L listed a vs → L listed a vs') (hi : ops[i]? = some oi) (hsel : ∀ (j : Nat) (o : Oper) cs b, ops[j]? = some o → o.op ≠ .select cs b) (hA : apartB md ops (fun _ => false) = true)
    (hs : Region.sinkB md ops n = true) (hc : Region.chainB md ops n = true) (hn : n < ops.size) (hin : i < n) (hdone : ∀ listed a vs, L listed a vs → ∀ j ∈ Region.ready md ops listed, n ≤ j) :
    ∀ (fuel : Nat) (listed : Array Bool) (a : Act) (vs : List (Nat × Value)), HeadInv md ops n listed → i ∈ Region.ready md ops listed →
      gF P ops w0 hv R B i (wpJ P md ops w0 hv R B n L fuel (listed.setIfInBounds i true)) a vs → wpJ P md ops w0 hv R B n L (fuel + 1) listed a vs := by
  intro fuel
  induction fuel with
  | zero =>
    intro listed a vs inv hr H
    have hun := (mem_ready.1 hr).1
    refine ⟨fun h => (by rw [h] at hr; cases hr), fun j hj => ?_⟩
    have hjn : j < n := by
      rcases Nat.lt_or_ge j n with h | h
      · exact h
      · exact absurd hj (tail_waits hs hc hn inv _ i rfl hin hun j h)
    refine ⟨hjn, ?_⟩
    by_cases hji : j = i
    · subst hji; exact H
    · obtain ⟨_, ⟨v0, h2⟩, h3⟩ := H oi hi
      have := hdone _ _ _ (h3 v0 h2) j (ready_mono hj hji)
      omega
  | succ fuel ih =>
    intro listed a vs inv hr H
    have hun := (mem_ready.1 hr).1
    refine ⟨fun h => (by rw [h] at hr; cases hr), fun j hj => ?_⟩
    have hjn : j < n := by
      rcases Nat.lt_or_ge j n with h | h
      · exact h
      · exact absurd hj (tail_waits hs hc hn inv _ i rfl hin hun j h)
    refine ⟨hjn, ?_⟩
    by_cases hji : j = i
    · subst hji; exact H
    · obtain ⟨oj, hoj, _⟩ := ready_bound hj
      have hap := ready_apart hA hr hj (Ne.symm hji) hi hoj (.inl rfl)
      obtain ⟨p1, p2, p3⟩ := Oper.apart_spec hap
      have hsi : ∀ cs b, oi.op ≠ .select cs b := fun cs b => hsel i oi cs b hi
      have hsj : ∀ cs b, oj.op ≠ .select cs b := fun cs b => hsel j oj cs b hoj
      obtain ⟨h1, ⟨v0, h2⟩, h3⟩ := H oi hi
      intro oj' hoj'
      have : oj' = oj := Option.some.inj (hoj'.symm.trans hoj)
      subst this
      have hjx : ∀ v, mayF P w0 hv i (execOp a.eval oi) (Region.wanted oi (yielded ops a.tmps)) v →
          okF P w0 hv R B j (execOp a.eval oj') (Region.wanted oj' (yielded ops a.tmps)) ∧ (∃ u, mayF P w0 hv j (execOp a.eval oj') (Region.wanted oj' (yielded ops a.tmps)) u) ∧
            ∀ u, mayF P w0 hv j (execOp a.eval oj') (Region.wanted oj' (yielded ops a.tmps)) u →
              wpJ P md ops w0 hv R B n L fuel ((listed.setIfInBounds i true).setIfInBounds j true) ((a.put oi.dst v).put oj'.dst u) (extF hv j (Region.wanted oj' (yielded ops a.tmps)) u (extF hv i (Region.wanted oi (yielded ops a.tmps)) v vs)) := fun v hvv => by
        have := ((h3 v hvv).2 j (ready_mono hj hji)).2 oj' hoj
        rw [wanted_put oj' a oi.dst v p1, execOp_put oj' hsj a oi.dst v p1] at this
        exact this
      refine ⟨(hjx v0 h2).1, (hjx v0 h2).2.1, fun u hu => ?_⟩
      refine ih (listed.setIfInBounds j true) (a.put oj'.dst u) _ (inv.set hj hjn) (ready_mono hr (Ne.symm hji)) ?_
      intro oi' hoi'
      have : oi' = oi := Option.some.inj (hoi'.symm.trans hi)
      subst this
      rw [wanted_put oi' a oj'.dst u p3, execOp_put oi' hsi a oj'.dst u p3]
      refine ⟨h1, ⟨v0, h2⟩, fun v hvv => ?_⟩
      have hx := (hjx v hvv).2.2 u hu
      rw [Array.setIfInBounds_comm _ _ hji, ← Act.put_comm a v u p2]
      exact wpJ_perm hp fuel _ _ _ _ (ext_perm hv j i _ _ u v vs) hx
/-- THE LEXICAL WALK. -/
def wpI (P : Program) (ops : Array Oper) (w0 : World) (hv : Nat → Bool) (R : Nat → Value → World → Prop) (B : Nat → Value → Nat → Prop) (Q : Act → World → Prop) : List Oper → Nat → Act → List (Nat × Value) → Prop
  | [], _, a, vs => ∀ w, Below w0.heap.size w0 w → GoodF w0 R B vs w → Q a w
  | o :: l, k, a, vs => okF P w0 hv R B k (execOp a.eval o) (Region.wanted o (yielded ops a.tmps)) ∧ (∃ v, mayF P w0 hv k (execOp a.eval o) (Region.wanted o (yielded ops a.tmps)) v) ∧
      ∀ v, mayF P w0 hv k (execOp a.eval o) (Region.wanted o (yielded ops a.tmps)) v → wpI P ops w0 hv R B Q l (k + 1) (a.put o.dst v) (extF hv k (Region.wanted o (yielded ops a.tmps)) v vs)
def freeB (md : Region.Mode) (ops : Array Oper) (n : Nat) : Bool :=
  Region.noSelect ops && apartB md ops (fun _ => false) && decide (n < ops.size) && Region.sinkB md ops n && Region.chainB md ops n && lexsT md ops (ops.size - n) n 0 (Array.replicate ops.size false)
theorem free_J {n g : Nat} {Q : Act → World → Prop} (hsel : Region.noSelect ops = true) (hA : apartB md ops (fun _ => false) = true) (hs : Region.sinkB md ops n = true) (hc : Region.chainB md ops n = true) (hn : n < ops.size) :
    ∀ (l : List Oper) (k : Nat) (listed : Array Bool) (a : Act) (vs : List (Nat × Value)), (∀ j, j < l.length → l[j]? = ops[k + j]?) → k + l.length = n →
    lexsT md ops g l.length k listed = true → HeadInv md ops n listed → wpI P ops w0 hv R B Q l k a vs →
    wpJ P md ops w0 hv R B n (fun listed' a' vs' => Region.seqB md ops g n listed' = true ∧ ∀ w, Below w0.heap.size w0 w → GoodF w0 R B vs' w → Q a' w) l.length listed a vs
  | [], k, listed, a, vs, _, hk, hB, _, h => by
    have : k = n := by simpa using hk
    subst this
    exact ⟨by simpa [lexsT] using hB, h⟩
  | o :: l, k, listed, a, vs, hl, hk, hB, inv, h => by
    have h0 : ops[k]? = some o := by simpa using (hl 0 (by simp)).symm
    simp only [List.length_cons, lexsT, Bool.and_eq_true] at hB
    obtain ⟨hr, hB'⟩ := hB
    have hkn : k < n := by simp only [List.length_cons] at hk; omega
    have hr' : k ∈ Region.ready md ops listed := by simpa using hr
    have hl' : ∀ j, j < l.length → l[j]? = ops[k + 1 + j]? := fun j hj => by have := hl (j + 1) (by simp; omega); simpa [Nat.add_assoc, Nat.add_comm 1 j] using this
    have hk' : k + 1 + l.length = n := by simp only [List.length_cons] at hk; omega
    refine wpJ_first (fun listed a vs vs' hp ⟨x, y⟩ => ⟨x, fun w hw hg => y w hw (hg.perm hp)⟩) h0 (Region.noSelect_spec hsel) hA hs hc hn hkn (fun _ _ _ hL => seqB_ready hL.1) l.length listed a vs inv hr' ?_
    intro o' ho'
    have : o' = o := Option.some.inj (ho'.symm.trans h0)
    subst this
    obtain ⟨h1, h2, h3⟩ := h
    exact ⟨h1, h2, fun v hvv => free_J hsel hA hs hc hn l (k + 1) _ _ _ hl' hk' hB' (inv.set hr' hkn) (h3 v hvv)⟩
/-- **THE REGION.** hs: the numbers of the heavy ones; n: where the tail begins. -/
theorem wp_region_free {id : Nat} {Q' : Exit → Act → World → Prop} {a : Act} {w : World} {l : List Oper} (hs : List Nat) (n : Nat) (R : Nat → Value → World → Prop) (B : Nat → Value → Nat → Prop) (hR : ∀ k v w w', R k v w → Below w.heap.size w w' → R k v w')
    (hm : P.follows .mixedOrders = true) (hB : freeB .any l.toArray n = true)
    (h : wpI P l.toArray w (fun i => hs.contains i) R B (fun a' w' => wpList P l.toArray Q' (l.drop n) a' w') (l.take n) 0 a []) : (Code.region id l.toArray true).wp P Q' a w := by
  simp only [freeB, Bool.and_eq_true, decide_eq_true_eq] at hB
  obtain ⟨⟨⟨⟨⟨h1, h2⟩, hn⟩, h5⟩, h6⟩, h7⟩ := hB
  have hn' : n < l.length := by simpa using hn
  have htl : (l.take n).length = n := by simp; omega
  have hdl : (l.drop n).length = l.toArray.size - n := by simp
  have inv0 : HeadInv .any l.toArray n (Array.replicate l.toArray.size false) :=
    ⟨by simp, fun j oj _ hl => (by rw [getD_replicate_false] at hl; cases hl), fun t _ ht => getD_in (by simpa using ht) (getD_replicate_false _ _)⟩
  have H := free_J (w0 := w) (g := l.toArray.size - n) h1 h2 h5 h6 hn (l.take n) 0 (Array.replicate l.toArray.size false) a [] (fun j hj => by
    have hj' : j < n := by rw [htl] at hj; exact hj
    simp [hj']) (by simpa using htl) (by rw [htl]; exact h7) inv0 h
  refine wp_region_any hm ?_
  have := wpAny_of_J (md := .any) (Q' := Q') (g := l.toArray.size - n) hR (fun listed a' vs' w' hw hg hL => by
    have := wpAny_of_seq (md := .any) (Q' := Q') (l.drop n) n listed a' w' (fun j => by simp [List.getElem?_drop]) (by rw [hdl]; exact hL.1) (hL.2 w' hw hg)
    rwa [hdl] at this) _ _ _ _ { w with drawn := w.drawn + 1 } (Below.refl _ _).drew (good_nil _) H
  rw [htl, show n + (l.toArray.size - n) = l.toArray.size by omega] at this
  exact this
/-! ### The steps of the walk -/
theorem fr_soft {Q : Act → World → Prop} {k : Nat} {o : Oper} {l : List Oper} {a : Act} {vs : List (Nat × Value)} (hk : hv k = false)
    (h : ∀ K : Act → Prop, (∀ a', wpI P ops w0 hv R B Q l (k + 1) a' vs → K a') → if Region.wanted o (yielded ops a.tmps) = true then ∃ v, (∀ x, calmAt P o a (later w0 x) v) ∧ K (a.put o.dst v) else K (a.put o.dst undef)) : wpI P ops w0 hv R B Q (o :: l) k a vs := by
  have := h _ (fun _ h => h)
  split at this
  · rename_i hw
    obtain ⟨v, h1, h2⟩ := this
    refine ⟨fun _ hh => (by rw [hk] at hh; cases hh), ⟨v, ?_⟩, fun u hu => ?_⟩
    · unfold mayF; simp only [hw, hk, if_true, Bool.false_eq_true, if_false]; exact h1
    · unfold mayF at hu; simp only [hw, hk, if_true, Bool.false_eq_true, if_false] at hu
      have e : u = v := calmAt_one (o := o) (a := a) (hu w0) (h1 w0)
      subst e
      unfold extF; rw [if_neg (by simp [hk])]; exact h2
  · rename_i hw
    have hw' : Region.wanted o (yielded ops a.tmps) = false := by simpa using hw
    refine ⟨fun h1 => absurd h1 hw, ⟨undef, by unfold mayF; simp [hw']⟩, fun u hu => ?_⟩
    unfold mayF at hu
    simp only [hw', Bool.false_eq_true, if_false] at hu
    subst hu
    unfold extF; rw [if_neg (by simp [hw'])]; exact this
theorem fr_heavy {Q : Act → World → Prop} {k : Nat} {o : Oper} {l : List Oper} {a : Act} {vs : List (Nat × Value)} (hk : hv k = true) (hw : Region.wanted o (yielded ops a.tmps) = true)
    (h : ∀ w, Below w0.heap.size w0 w → heavyAt P o a w (fun v w' => Below w.heap.size w w' ∧ R k v w' ∧ ∀ b, B k v b → w.heap.size ≤ b ∧ b < w'.heap.size))
    (hK : ∀ v, wpI P ops w0 hv R B Q l (k + 1) (a.put o.dst v) ((k, v) :: vs)) : wpI P ops w0 hv R B Q (o :: l) k a vs := by
  refine ⟨fun _ _ => h, ⟨undef, by unfold mayF; simp [hw, hk]⟩, fun v _ => ?_⟩
  unfold extF; rw [if_pos ⟨hw, hk⟩]; exact hK v
theorem fr_nil {Q : Act → World → Prop} {k : Nat} {a : Act} {vs : List (Nat × Value)} (h : ∀ w, Below w0.heap.size w0 w → GoodF w0 R B vs w → Q a w) : wpI P ops w0 hv R B Q [] k a vs := h
end
attribute [irreducible] wpI
end Go.Proofs.Ytbigadbnijpcjaa
