/-
  A region that draws its order, some of whose operations are heavy (they call, or make memory; what was there stays as it was) and stand in one chain, while all others only reckon or read what was there at the region's beginning: one walk in the text's order.
-/
import Derived.Test.YtbigadbnijpcjaaCalm
namespace Go.Proofs.Ytbigadbnijpcjaa
open Go.RowKit
section
variable {P : Program} {ops : Array Oper} {md : Region.Mode} {w0 : World} {hv : Nat → Bool} {Q : Act → World → Prop}

/-- The value v, and the world as it was. -/
def calmUpon (w : World) (v : Value) : Result Next → Prop
  | .ok (.value u) w' => w' = w ∧ u = v
  | .ok .skip w' => w' = w ∧ v = undef
  | _ => False
def calmAt (P : Program) (o : Oper) (a : Act) (w : World) (v : Value) : Prop := calmUpon w v ((execOp a.eval o).run P w)
/-- It comes to a value and a world of which R holds. -/
def heavyUpon (P : Program) (R : Value → World → Prop) : Result Next → Prop
  | .ok (.value u) w' => R u w'
  | .ok .skip w' => R undef w'
  | .ok (.enter f args) w' => Calls P f args w' (fun e w'' => ∃ v, e = .returned v ∧ R v w'')
  | _ => False
def heavyAt (P : Program) (o : Oper) (a : Act) (w : World) (R : Value → World → Prop) : Prop := heavyUpon P R ((execOp a.eval o).run P w)

theorem calmAt_one {o : Oper} {a : Act} {w : World} {u v : Value} (h : calmAt P o a w u) (h' : calmAt P o a w v) : u = v := by
  unfold calmAt at *
  generalize (execOp a.eval o).run P w = r at *
  cases r with
  | ok n w' => cases n <;> simp only [calmUpon] at h h' <;> first | exact h.2.symm.trans h'.2 | (rw [h.2, h'.2])
  | halt x w' => simp only [calmUpon] at h
theorem heavyAt_mono {o : Oper} {a : Act} {w : World} {R R' : Value → World → Prop} (h : ∀ v w', R v w' → R' v w') (hh : heavyAt P o a w R) : heavyAt P o a w R' := by
  unfold heavyAt at *
  generalize (execOp a.eval o).run P w = r at *
  cases r with
  | ok n w' =>
    cases n <;> simp only [heavyUpon] at hh ⊢
    case value u => exact h _ _ hh
    case skip => exact h _ _ hh
    case enter f args => exact hh.mono fun e w'' ⟨v, he, hr⟩ => ⟨v, he, h _ _ hr⟩
  | halt x w' => simp only [heavyUpon] at hh
theorem heavyAt_some {o : Oper} {a : Act} {w : World} {R : Value → World → Prop} (hh : heavyAt P o a w R) : ∃ v w', R v w' := by
  unfold heavyAt at hh
  generalize (execOp a.eval o).run P w = r at *
  cases r with
  | ok n w' =>
    cases n <;> simp only [heavyUpon] at hh
    case value u => exact ⟨_, _, hh⟩
    case skip => exact ⟨_, _, hh⟩
    case enter f args =>
      obtain ⟨e, w'', _, ⟨v, _, hr⟩, _⟩ := hh []
      exact ⟨_, _, hr⟩
  | halt x w' => simp only [heavyUpon] at hh

/-- Operation i comes up. -/
def xOp (P : Program) (ops : Array Oper) (w0 : World) (hv : Nat → Bool) (i : Nat) (K : Act → World → Prop) (a : Act) (w : World) : Prop :=
  match ops[i]? with
  | none => K a w
  | some o => if Region.wanted o (yielded ops a.tmps) = true then
      (if hv i = true then heavyAt P o a w (fun v w' => Below w0.heap.size w w' ∧ K (a.put o.dst v) w') else ∃ v, (∀ x, calmAt P o a (later w0 x) v) ∧ K (a.put o.dst v) w)
    else K (a.put o.dst undef) w
def wpX (P : Program) (md : Region.Mode) (ops : Array Oper) (w0 : World) (hv : Nat → Bool) (Q : Act → World → Prop) : Nat → Array Bool → Act → World → Prop
  | 0, listed, a, w => Region.ready md ops listed = [] ∧ Q a w
  | fuel + 1, listed, a, w => (Region.ready md ops listed = [] → Q a w) ∧ ∀ i ∈ Region.ready md ops listed, xOp P ops w0 hv i (wpX P md ops w0 hv Q fuel (listed.setIfInBounds i true)) a w

theorem xOp_mono {i : Nat} {a : Act} {w : World} {K K' : Act → World → Prop} (h : ∀ a w, K a w → K' a w) (hh : xOp P ops w0 hv i K a w) : xOp P ops w0 hv i K' a w := by
  unfold xOp at *
  split
  · exact h _ _ (by simpa [*] using hh)
  · rename_i o ho
    simp only [ho] at hh
    split
    · rename_i hw
      simp only [hw, if_true] at hh
      split
      · rename_i hh1; simp only [hh1, if_true] at hh; exact heavyAt_mono (fun v w' ⟨h1, h2⟩ => ⟨h1, h _ _ h2⟩) hh
      · rename_i hh1; simp only [hh1] at hh
        obtain ⟨v, h1, h2⟩ := hh
        exact ⟨v, h1, h _ _ h2⟩
    · rename_i hw; simp only [hw] at hh; exact h _ _ hh

theorem wpAny_of_X {Q' : Exit → Act → World → Prop} (hQ : ∀ a w, Below w0.heap.size w0 w → Q a w → Q' .normal a w) : ∀ (fuel : Nat) (listed : Array Bool) (a : Act) (w : World), Below w0.heap.size w0 w →
    wpX P md ops w0 hv Q fuel listed a w → wpAny P md ops Q' fuel listed a w
  | 0, _, _, _, hw, h => ⟨h.1, hQ _ _ hw h.2⟩
  | fuel + 1, listed, a, w, hw, h => ⟨fun h0 => hQ _ _ hw (h.1 h0), fun i hi => by
      have hx := h.2 i hi
      unfold xOp at hx
      unfold wpOp
      split
      · rename_i ho; simp only [ho] at hx; exact wpAny_of_X hQ fuel _ _ _ hw hx
      · rename_i o ho
        simp only [ho] at hx
        split
        · rename_i hwt
          simp only [hwt, if_true] at hx
          refine .inl ?_
          unfold Oper.wp
          split at hx
          · unfold heavyAt at hx
            generalize (execOp a.eval o).run P w = r at *
            cases r with
            | ok n w' =>
              cases n <;> simp only [heavyUpon] at hx <;> simp only [Oper.upon]
              case value u => exact wpAny_of_X hQ fuel _ _ _ (hw.trans hx.1) hx.2
              case skip => exact wpAny_of_X hQ fuel _ _ _ (hw.trans hx.1) hx.2
              case enter f args =>
                refine Calls.mono hx fun e w'' he => ?_
                obtain ⟨v, rfl, h1, h2⟩ := he
                exact wpAny_of_X hQ fuel _ _ _ (hw.trans h1) h2
            | halt x w' => simp only [heavyUpon] at hx
          · obtain ⟨v, h1, h2⟩ := hx
            have h3 := h1 w
            rw [later_of hw] at h3
            unfold calmAt at h3
            generalize (execOp a.eval o).run P w = r at *
            cases r with
            | ok n w' =>
              cases n <;> simp only [calmUpon] at h3 <;> simp only [Oper.upon]
              case value u => obtain ⟨e1, e2⟩ := h3; rw [e1, e2]; exact wpAny_of_X hQ fuel _ _ _ hw h2
              case skip => obtain ⟨e1, e2⟩ := h3; rw [e1, ← e2]; exact wpAny_of_X hQ fuel _ _ _ hw h2
            | halt x w' => simp only [calmUpon] at h3
        · rename_i hwt; simp only [hwt] at hx; exact wpAny_of_X hQ fuel _ _ _ hw hx⟩

/-- Operation o, not heavy, is known to yield v in state a. -/
def YieldsX (P : Program) (ops : Array Oper) (w0 : World) (o : Oper) (v : Value) (a : Act) : Prop :=
  (Region.wanted o (yielded ops a.tmps) = true ∧ ∀ x, calmAt P o a (later w0 x) v) ∨ (Region.wanted o (yielded ops a.tmps) = false ∧ v = undef)
theorem YieldsX.of_same {o : Oper} {v : Value} {a a' : Act} (hy : YieldsX P ops w0 o v a) (he : execOp a'.eval o = execOp a.eval o)
    (hw : Region.wanted o (yielded ops a'.tmps) = Region.wanted o (yielded ops a.tmps)) : YieldsX P ops w0 o v a' := by
  unfold YieldsX calmAt at *
  rw [he, hw]
  exact hy
theorem YieldsX.xOp {i : Nat} {o : Oper} {v : Value} {a : Act} (hi : ops[i]? = some o) (hc : hv i = false ∨ Region.wanted o (yielded ops a.tmps) = false) (hy : YieldsX P ops w0 o v a) {K : Act → World → Prop} {w : World} (h : K (a.put o.dst v) w) : xOp P ops w0 hv i K a w := by
  unfold Proofs.Ytbigadbnijpcjaa.xOp
  simp only [hi]
  rcases hy with ⟨hw, hvv⟩ | ⟨hw, rfl⟩
  · rcases hc with hc | hc
    · simp only [hw, hc, if_true, Bool.false_eq_true, if_false]; exact ⟨v, hvv, h⟩
    · rw [hw] at hc; cases hc
  · simp only [hw, Bool.false_eq_true, if_false]; exact h

theorem xOp_put {j : Nat} {oi oj : Oper} {v : Value} (hj : ops[j]? = some oj) (hap : oi.apart ops oj = true)
    (hsj : ∀ cs b, oj.op ≠ .select cs b) {K : Act → World → Prop} {a : Act} {w : World} {Z : Act → Prop}
    (hy : Z a) (keep : ∀ u, Z (a.put oj.dst u)) (h : xOp P ops w0 hv j K (a.put oi.dst v) w) :
    xOp P ops w0 hv j (fun a' w' => Z a' ∧ K (a'.put oi.dst v) w') a w := by
  obtain ⟨h1, h2, h3⟩ := Oper.apart_spec hap
  unfold xOp at *
  simp only [hj] at *
  rw [wanted_put oj a oi.dst v h1] at h
  split
  · rename_i hw
    simp only [hw, if_true] at h
    split
    · rename_i hh; simp only [hh, if_true] at h
      unfold heavyAt at *
      rw [execOp_put oj hsj a oi.dst v h1] at h
      exact heavyAt_mono (P := P) (o := oj) (a := a) (w := w) (fun u w' ⟨hb, hK⟩ => ⟨hb, keep u, by rw [← Act.put_comm a v u h2]; exact hK⟩) h
    · rename_i hh; simp only [hh] at h
      obtain ⟨u, hu, hn⟩ := h
      refine ⟨u, fun x => ?_, keep u, by rw [← Act.put_comm a v u h2]; exact hn⟩
      have := hu x
      unfold calmAt at *
      rwa [execOp_put oj hsj a oi.dst v h1] at this
  · rename_i hw
    simp only [hw] at h
    exact ⟨keep _, by rw [← Act.put_comm a v undef h2]; exact h⟩

/-! ### The Bools over a region -/
def waitsB (md : Region.Mode) (ops : Array Oper) (j i : Nat) : Bool := match ops[j]? with | some oj => oj.after.any fun e => Region.binds md e && e.on == i | none => false
def reachB (md : Region.Mode) (ops : Array Oper) : Nat → Nat → Nat → Bool
  | 0, _, _ => false
  | f + 1, k, j => match ops[k]? with | some ok => ok.after.any (fun e => Region.binds md e && (e.on == j || reachB md ops f e.on j)) | none => false
def apartB (md : Region.Mode) (ops : Array Oper) (hv : Nat → Bool) : Bool :=
  (List.range ops.size).all fun i => (List.range ops.size).all fun j => i == j || (hv i && hv j) || waitsB md ops j i || waitsB md ops i j || match ops[i]?, ops[j]? with | some oi, some oj => oi.apart ops oj | _, _ => true
def chainsB (md : Region.Mode) (ops : Array Oper) (hv : Nat → Bool) : Bool :=
  (List.range ops.size).all fun i => (List.range ops.size).all fun j => i == j || !hv i || !hv j || reachB md ops ops.size i j || reachB md ops ops.size j i
def lexsB (md : Region.Mode) (ops : Array Oper) : Nat → Nat → Array Bool → Bool
  | 0, _, listed => (Region.ready md ops listed).isEmpty
  | f + 1, k, listed => (Region.ready md ops listed).contains k && lexsB md ops f (k + 1) (listed.setIfInBounds k true)
def seqsB (md : Region.Mode) (ops : Array Oper) (hv : Nat → Bool) : Bool :=
  Region.noSelect ops && apartB md ops hv && chainsB md ops hv && lexsB md ops ops.size 0 (Array.replicate ops.size false)

structure ClosedL (md : Region.Mode) (ops : Array Oper) (listed : Array Bool) : Prop where
  size : listed.size = ops.size
  closed : ∀ j oj, ops[j]? = some oj → listed.getD j false = true → ∀ e ∈ oj.after, Region.binds md e = true → listed.getD e.on false = true
theorem ClosedL.set {i : Nat} {listed : Array Bool} (inv : ClosedL md ops listed) (hi : i ∈ Region.ready md ops listed) : ClosedL md ops (listed.setIfInBounds i true) := by
  obtain ⟨_, oi, hoi, hall⟩ := mem_ready.1 hi
  refine ⟨by simp [inv.size], fun j oj hj hl e he hb => ?_⟩
  by_cases hij : i = j
  · subst hij
    have : oj = oi := Option.some.inj (hj.symm.trans hoi)
    subst this
    exact getD_set_true (hall e he hb)
  · rw [getD_set_ne false hij] at hl
    exact getD_set_true (inv.closed j oj hj hl e he hb)
theorem reach_listed {listed : Array Bool} (inv : ClosedL md ops listed) : ∀ (f k j : Nat) (ok : Oper), ops[k]? = some ok → (∀ e ∈ ok.after, Region.binds md e = true → listed.getD e.on false = true) → reachB md ops f k j = true → listed.getD j false = true
  | 0, _, _, _, _, _, h => by cases h
  | f + 1, k, j, ok, hk, hall, h => by
    unfold reachB at h
    simp only [hk] at h
    obtain ⟨e, he, hb⟩ := Array.any_eq_true'.1 h
    simp only [Bool.and_eq_true, Bool.or_eq_true, beq_iff_eq] at hb
    obtain ⟨hb, hr⟩ := hb
    have hl := hall e he hb
    rcases hr with rfl | hr
    · exact hl
    · cases ho : ops[e.on]? with
      | none => cases f with
        | zero => cases hr
        | succ f => unfold reachB at hr; simp only [ho] at hr; cases hr
      | some oe => exact reach_listed inv f e.on j oe ho (inv.closed e.on oe ho hl) hr
theorem ready_bound {i : Nat} {listed : Array Bool} (hi : i ∈ Region.ready md ops listed) : ∃ oi, ops[i]? = some oi ∧ i < ops.size := by
  obtain ⟨_, oi, hoi, _⟩ := mem_ready.1 hi
  exact ⟨oi, hoi, (Array.getElem?_eq_some_iff.1 hoi).1⟩
theorem getD_no {listed : Array Bool} {i : Nat} (h : listed.getD i true = false) : listed.getD i false = false := by
  rcases Nat.lt_or_ge i listed.size with h' | h'
  · simp [h'] at h ⊢; exact h
  · simp [Array.getElem?_eq_none h'] at h
/-- Two heavy ones never may come up together. -/
theorem chain_one {i j : Nat} {listed : Array Bool} (hB : chainsB md ops hv = true) (inv : ClosedL md ops listed) (hi : i ∈ Region.ready md ops listed) (hj : j ∈ Region.ready md ops listed) (h1 : hv i = true) (h2 : hv j = true) : i = j := by
  obtain ⟨oi, hoi, hli⟩ := ready_bound hi
  obtain ⟨oj, hoj, hlj⟩ := ready_bound hj
  have := List.all_eq_true.1 (List.all_eq_true.1 hB i (List.mem_range.2 hli)) j (List.mem_range.2 hlj)
  simp only [h1, h2, Bool.not_true, Bool.or_false, Bool.or_eq_true, beq_iff_eq] at this
  obtain ⟨ni, _, _, alli⟩ := mem_ready.1 hi
  obtain ⟨nj, _, _, allj⟩ := mem_ready.1 hj
  obtain ⟨_, oi', hoi', alli⟩ := mem_ready.1 hi
  obtain ⟨_, oj', hoj', allj⟩ := mem_ready.1 hj
  rcases this with (h | h) | h
  · exact h
  · have := reach_listed inv _ i j oi' hoi' alli h
    rw [getD_no nj] at this; cases this
  · have := reach_listed inv _ j i oj' hoj' allj h
    rw [getD_no ni] at this; cases this
theorem ready_apart {i j : Nat} {oi oj : Oper} {listed : Array Bool} (hB : apartB md ops hv = true) (hi : i ∈ Region.ready md ops listed) (hj : j ∈ Region.ready md ops listed) (hne : i ≠ j) (hoi : ops[i]? = some oi) (hoj : ops[j]? = some oj) (hc : hv i = false ∨ hv j = false) : oi.apart ops oj = true := by
  obtain ⟨_, _, hli⟩ := ready_bound hi
  obtain ⟨_, _, hlj⟩ := ready_bound hj
  have := List.all_eq_true.1 (List.all_eq_true.1 hB i (List.mem_range.2 hli)) j (List.mem_range.2 hlj)
  obtain ⟨ni, oi', hoi', alli⟩ := mem_ready.1 hi
  obtain ⟨nj, oj', hoj', allj⟩ := mem_ready.1 hj
  have e1 : oi' = oi := Option.some.inj (hoi'.symm.trans hoi)
  have e2 : oj' = oj := Option.some.inj (hoj'.symm.trans hoj)
  subst e1 e2
  have w1 : waitsB md ops j i = false := by
    cases h : waitsB md ops j i
    · rfl
    · unfold waitsB at h
      simp only [hoj] at h
      obtain ⟨e, he, hb⟩ := Array.any_eq_true'.1 h
      simp only [Bool.and_eq_true, beq_iff_eq] at hb
      have := allj e he hb.1
      rw [hb.2, getD_no ni] at this; cases this
  have w2 : waitsB md ops i j = false := by
    cases h : waitsB md ops i j
    · rfl
    · unfold waitsB at h
      simp only [hoi] at h
      obtain ⟨e, he, hb⟩ := Array.any_eq_true'.1 h
      simp only [Bool.and_eq_true, beq_iff_eq] at hb
      have := alli e he hb.1
      rw [hb.2, getD_no nj] at this; cases this
  simp only [w1, w2, hoi, hoj, Bool.or_false, Bool.or_eq_true, beq_iff_eq, Bool.and_eq_true] at this
  rcases this with (h | h) | h
  · exact absurd h hne
  · rcases hc with hc | hc
    · rw [hc] at h; cases h.1
    · rw [hc] at h; cases h.2
  · exact h

/-- One that is not heavy, or is passed over, may be taken first. -/
theorem wpX_calm {i : Nat} {oi : Oper} {v : Value} (hi : ops[i]? = some oi) (hsel : ∀ (j : Nat) (o : Oper) cs b, ops[j]? = some o → o.op ≠ .select cs b) (hA : apartB md ops hv = true) (hC : chainsB md ops hv = true) :
    ∀ (fuel : Nat) (listed : Array Bool) (a : Act) (w : World), ClosedL md ops listed → i ∈ Region.ready md ops listed → (YieldsX P ops w0 oi v a ∧ (hv i = false ∨ Region.wanted oi (yielded ops a.tmps) = false)) →
      wpX P md ops w0 hv Q fuel (listed.setIfInBounds i true) (a.put oi.dst v) w → wpX P md ops w0 hv Q (fuel + 1) listed a w := by
  intro fuel
  induction fuel with
  | zero =>
    intro listed a w inv hr hy H
    refine ⟨fun h => (by rw [h] at hr; cases hr), fun j hj => ?_⟩
    by_cases hji : j = i
    · subst hji; exact hy.1.xOp hi hy.2 H
    · have := ready_mono hj hji
      rw [H.1] at this
      cases this
  | succ fuel ih =>
    intro listed a w inv hr hy H
    refine ⟨fun h => (by rw [h] at hr; cases hr), fun j hj => ?_⟩
    by_cases hji : j = i
    · subst hji; exact hy.1.xOp hi hy.2 H
    · have h1 := H.2 j (ready_mono hj hji)
      obtain ⟨oj, hoj, _⟩ := ready_bound hj
      have hc : hv i = false ∨ hv j = false := by
        cases e1 : hv i
        · exact .inl rfl
        · cases e2 : hv j
          · exact .inr rfl
          · exact absurd (chain_one hC inv hj hr e2 e1) hji
      have hap := ready_apart hA hr hj (Ne.symm hji) hi hoj hc
      obtain ⟨p1, p2, p3⟩ := Oper.apart_spec hap
      have hsi : ∀ cs b, oi.op ≠ .select cs b := fun cs b => hsel i oi cs b hi
      have h2 := xOp_put (Z := fun a => YieldsX P ops w0 oi v a ∧ (hv i = false ∨ Region.wanted oi (yielded ops a.tmps) = false)) hoj hap (fun cs b => hsel j oj cs b hoj) hy
        (fun u => ⟨hy.1.of_same (execOp_put oi hsi a oj.dst u p3) (wanted_put oi a oj.dst u p3), by rw [wanted_put oi a oj.dst u p3]; exact hy.2⟩) h1
      refine xOp_mono (fun a' w' h3 => ih (listed.setIfInBounds j true) a' w' (inv.set hj) (ready_mono hr (Ne.symm hji)) h3.1 ?_) h2
      rw [Array.setIfInBounds_comm _ _ hji]
      exact h3.2

/-- The heavy one whose turn it is may be taken first. -/
theorem wpX_heavy {k : Nat} {ok : Oper} (hk : ops[k]? = some ok) (hsel : ∀ (j : Nat) (o : Oper) cs b, ops[j]? = some o → o.op ≠ .select cs b) (hA : apartB md ops hv = true) (hC : chainsB md ops hv = true) (hh : hv k = true) :
    ∀ (fuel : Nat) (listed : Array Bool) (a : Act) (w : World), ClosedL md ops listed → Below w0.heap.size w0 w → k ∈ Region.ready md ops listed → Region.wanted ok (yielded ops a.tmps) = true →
      heavyAt P ok a w (fun v w' => Below w0.heap.size w w' ∧ wpX P md ops w0 hv Q fuel (listed.setIfInBounds k true) (a.put ok.dst v) w') → wpX P md ops w0 hv Q (fuel + 1) listed a w := by
  intro fuel
  induction fuel with
  | zero =>
    intro listed a w inv hw hr hwt H
    refine ⟨fun h => (by rw [h] at hr; cases hr), fun j hj => ?_⟩
    by_cases hjk : j = k
    · subst hjk
      unfold xOp; simp only [hk, hwt, hh, if_true]; exact H
    · obtain ⟨v, w', _, H'⟩ := heavyAt_some H
      have := ready_mono hj hjk
      rw [H'.1] at this
      cases this
  | succ fuel ih =>
    intro listed a w inv hw hr hwt H
    refine ⟨fun h => (by rw [h] at hr; cases hr), fun j hj => ?_⟩
    by_cases hjk : j = k
    · subst hjk
      unfold xOp; simp only [hk, hwt, hh, if_true]; exact H
    · have hcj : hv j = false := by
        cases h : hv j
        · rfl
        · exact absurd (chain_one hC inv hj hr h hh) hjk
      obtain ⟨oj, hoj, _⟩ := ready_bound hj
      have hap := ready_apart hA hj hr hjk hoj hk (.inl hcj)
      obtain ⟨p1, p2, p3⟩ := Oper.apart_spec hap
      have hsj : ∀ cs b, oj.op ≠ .select cs b := fun cs b => hsel j oj cs b hoj
      have hsk : ∀ cs b, ok.op ≠ .select cs b := fun cs b => hsel k ok cs b hk
      -- what j yields, whatever k comes to
      have key : ∃ vj, YieldsX P ops w0 oj vj a := by
        obtain ⟨v, w', _, H'⟩ := heavyAt_some H
        have h1 := H'.2 j (ready_mono hj hjk)
        unfold xOp at h1
        simp only [hoj] at h1
        rw [wanted_put oj a ok.dst v p3] at h1
        by_cases hwj : Region.wanted oj (yielded ops a.tmps) = true
        · simp only [hwj, if_true, hcj, Bool.false_eq_true, if_false] at h1
          obtain ⟨vj, h2, _⟩ := h1
          refine ⟨vj, .inl ⟨hwj, fun x => ?_⟩⟩
          have := h2 x
          unfold calmAt at *
          rwa [execOp_put oj hsj a ok.dst v p3] at this
        · exact ⟨undef, .inr ⟨by simpa using hwj, rfl⟩⟩
      obtain ⟨vj, hy⟩ := key
      refine hy.xOp hoj (.inl hcj) ?_
      refine ih (listed.setIfInBounds j true) (a.put oj.dst vj) w (inv.set hj) hw (ready_mono hr (Ne.symm hjk)) (by rw [wanted_put ok a oj.dst vj p1]; exact hwt) ?_
      unfold heavyAt at *
      rw [execOp_put ok hsk a oj.dst vj p1]
      refine heavyAt_mono (P := P) (o := ok) (a := a) (w := w) (fun v w' ⟨hb, hX⟩ => ⟨hb, ?_⟩) H
      have h1 := hX.2 j (ready_mono hj hjk)
      unfold xOp at h1
      simp only [hoj] at h1
      rw [wanted_put oj a ok.dst v p3] at h1
      rw [Array.setIfInBounds_comm _ _ hjk, ← Act.put_comm a v vj (fun d hd hd' => p2 d hd' hd)]
      rcases hy with ⟨hwj, hyj⟩ | ⟨hwj, rfl⟩
      · simp only [hwj, if_true, hcj, Bool.false_eq_true, if_false] at h1
        obtain ⟨vj', h2, h3⟩ := h1
        have e : vj' = vj := by
          have a1 := h2 w
          have a2 := hyj w
          unfold calmAt at a1
          rw [execOp_put oj hsj a ok.dst v p3] at a1
          exact calmAt_one (o := oj) (a := a) a1 a2
        subst e
        exact h3
      · simp only [hwj, Bool.false_eq_true, if_false] at h1
        exact h1

/-- THE LEXICAL WALK. -/
def wpSeq (P : Program) (ops : Array Oper) (w0 : World) (hv : Nat → Bool) (Q : Act → World → Prop) : List Oper → Nat → Act → World → Prop
  | [], _, a, w => Q a w
  | o :: l, k, a, w => if Region.wanted o (yielded ops a.tmps) = true then
      (if hv k = true then heavyAt P o a w (fun v w' => Below w0.heap.size w w' ∧ wpSeq P ops w0 hv Q l (k + 1) (a.put o.dst v) w') else ∃ v, (∀ x, calmAt P o a (later w0 x) v) ∧ wpSeq P ops w0 hv Q l (k + 1) (a.put o.dst v) w)
    else wpSeq P ops w0 hv Q l (k + 1) (a.put o.dst undef) w

theorem seq_X (hsel : Region.noSelect ops = true) (hA : apartB md ops hv = true) (hC : chainsB md ops hv = true) : ∀ (l : List Oper) (k : Nat) (listed : Array Bool) (a : Act) (w : World), (∀ j, l[j]? = ops[k + j]?) →
    lexsB md ops l.length k listed = true → ClosedL md ops listed → Below w0.heap.size w0 w → wpSeq P ops w0 hv Q l k a w → wpX P md ops w0 hv Q l.length listed a w
  | [], _, _, _, _, _, hB, _, _, h => ⟨by simpa [lexsB] using hB, h⟩
  | o :: l, k, listed, a, w, hl, hB, inv, hw, h => by
    have h0 : ops[k]? = some o := by simpa using (hl 0).symm
    simp only [List.length_cons, lexsB, Bool.and_eq_true] at hB
    obtain ⟨hr, hB'⟩ := hB
    have hr' : k ∈ Region.ready md ops listed := by simpa using hr
    have hl' : ∀ j, l[j]? = ops[k + 1 + j]? := fun j => by have := hl (j + 1); simpa [Nat.add_assoc, Nat.add_comm 1 j] using this
    have hs := Region.noSelect_spec hsel
    unfold wpSeq at h
    split at h
    · rename_i hwt
      split at h
      · rename_i hh
        refine wpX_heavy h0 hs hA hC hh l.length listed a w inv hw hr' hwt ?_
        exact heavyAt_mono (fun v w' ⟨hb, hX⟩ => ⟨hb, seq_X hsel hA hC l (k + 1) _ _ _ hl' hB' (inv.set hr') (hw.trans hb) hX⟩) h
      · rename_i hh
        obtain ⟨v, h1, h2⟩ := h
        exact wpX_calm h0 hs hA hC l.length listed a w inv hr' ⟨.inl ⟨hwt, h1⟩, .inl (by simpa using hh)⟩ (seq_X hsel hA hC l (k + 1) _ _ _ hl' hB' (inv.set hr') hw h2)
    · rename_i hwt
      have hwt' : Region.wanted o (yielded ops a.tmps) = false := by simpa using hwt
      exact wpX_calm h0 hs hA hC l.length listed a w inv hr' ⟨.inr ⟨hwt', rfl⟩, .inr hwt'⟩ (seq_X hsel hA hC l (k + 1) _ _ _ hl' hB' (inv.set hr') hw h)

/-- **THE REGION.** hs: the numbers of the heavy ones. -/
theorem wp_region_seq {id : Nat} {Q' : Exit → Act → World → Prop} {a : Act} {w : World} {l : List Oper} (hs : List Nat) (hm : P.follows .mixedOrders = true) (hB : seqsB .any l.toArray (fun i => hs.contains i) = true)
    (h : wpSeq P l.toArray w (fun i => hs.contains i) (fun a' w' => Q' .normal a' w') l 0 a w.drew) : (Code.region id l.toArray true).wp P Q' a w := by
  simp only [seqsB, Bool.and_eq_true] at hB
  obtain ⟨⟨⟨h1, h2⟩, h3⟩, h4⟩ := hB
  refine wp_region_any hm ?_
  have inv : ClosedL .any l.toArray (Array.replicate l.toArray.size false) := ⟨by simp, fun j oj _ hl => (by rw [getD_replicate_false] at hl; cases hl)⟩
  have := seq_X (w0 := w) (Q := fun a' w' => Q' .normal a' w') h1 h2 h3 l 0 (Array.replicate l.toArray.size false) a w.drew (fun j => by simp) (by simpa using h4) inv (Below.refl _ _).drew h
  have := wpAny_of_X (md := .any) (Q' := Q') (fun a w _ h => h) _ _ _ _ (Below.refl _ _).drew this
  simpa using this

/-! ### The steps of the walk -/
/-- A calm one. -/
theorem sq_calm {k : Nat} {o : Oper} {l : List Oper} {a : Act} {w : World} (hk : hv k = false)
    (h : ∀ K : Act → Prop, (∀ a', wpSeq P ops w0 hv Q l (k + 1) a' w → K a') → if Region.wanted o (yielded ops a.tmps) = true then ∃ v, (∀ x, calmAt P o a (later w0 x) v) ∧ K (a.put o.dst v) else K (a.put o.dst undef)) : wpSeq P ops w0 hv Q (o :: l) k a w := by
  unfold wpSeq
  have := h _ (fun _ h => h)
  simp only [hk, Bool.false_eq_true, if_false]
  exact this
/-- One that is passed over. -/
theorem sq_skip {k : Nat} {o : Oper} {l : List Oper} {a : Act} {w : World} (hw : Region.wanted o (yielded ops a.tmps) = false) (h : wpSeq P ops w0 hv Q l (k + 1) (a.put o.dst undef) w) : wpSeq P ops w0 hv Q (o :: l) k a w := by
  unfold wpSeq
  simp only [hw, Bool.false_eq_true, if_false]
  exact h
/-- A calm one, or one that is passed over. -/
theorem sq_soft {k : Nat} {o : Oper} {l : List Oper} {a : Act} {w : World}
    (h : ∀ K : Act → Prop, (∀ a', wpSeq P ops w0 hv Q l (k + 1) a' w → K a') → if Region.wanted o (yielded ops a.tmps) = true then ∃ v, hv k = false ∧ (∀ x, calmAt P o a (later w0 x) v) ∧ K (a.put o.dst v) else K (a.put o.dst undef)) : wpSeq P ops w0 hv Q (o :: l) k a w := by
  have := h _ (fun _ h => h)
  unfold wpSeq
  split at this
  · rename_i hw
    obtain ⟨v, h1, h2, h3⟩ := this
    simp only [hw, h1, if_true, Bool.false_eq_true, if_false]
    exact ⟨v, h2, h3⟩
  · rename_i hw
    simp only [hw]
    exact this
/-- A heavy one. -/
theorem sq_heavy {k : Nat} {o : Oper} {l : List Oper} {a : Act} {w : World} (hk : hv k = true) (hw : Region.wanted o (yielded ops a.tmps) = true)
    (h : ∀ K : Value → World → Prop, (∀ v w', Below w0.heap.size w w' → wpSeq P ops w0 hv Q l (k + 1) (a.put o.dst v) w' → K v w') → heavyAt P o a w K) : wpSeq P ops w0 hv Q (o :: l) k a w := by
  unfold wpSeq
  simp only [hw, hk, if_true]
  exact h _ (fun v w' h1 h2 => ⟨h1, h2⟩)
theorem sq_nil {k : Nat} {a : Act} {w : World} (h : Q a w) : wpSeq P ops w0 hv Q [] k a w := h
/-- 'append', by what its run comes to. -/
theorem heavy_append {o : Oper} {a : Act} {w w' : World} {K : Value → World → Prop} (s x : Operand) (t : TypeId) {v u r : Value}
    (ho : o.op = .call { callee := .builtin .append, args := #[s, x], argTypes := #[t, t] }) (hs : a.eval s = v) (hx : a.eval x = u)
    (hr : (Builtin.append_ #[t, t] o.type #[v, u]).run P w = .ok r w') (hK : K r w') : heavyAt P o a w K := by
  unfold heavyAt execOp
  simp only [ho, resolve, invoke, builtin, Sem.run_bind, Sem.run_pure, Result.andThen_ok, List.map_toArray, List.map_cons, List.map_nil, hs, hx, hr]
  exact hK
end
attribute [irreducible] wpSeq
attribute [go_sem] calmAt calmUpon heavyAt heavyUpon
end Go.Proofs.Ytbigadbnijpcjaa
