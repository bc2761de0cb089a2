/-
  Slices whose elements are read off memory; 'append' of what is read onto what the call owns.
-/
import Derived.Test.YtbigadbnijpcjaaCalm
import Derived.Laws.AppendOwn
import Derived.Laws.OwnMore
import Derived.Maps.AppendAt
import Derived.Deep.AppendLies
namespace Go.Proofs.Ytbigadbnijpcjaa
open Go.RowKit

/-- A slice type of elements e of some cells and bytes. -/
def ElemOk (P : Program) (t e : TypeId) (size bytes : Nat) : Prop :=
  P.underlying t = some (.slice e) ∧ 0 < size ∧ ∃ i z, P.info? e = some i ∧ i.zero = some z ∧ i.size = size ∧ i.bytes = bytes ∧ z.cells.size = size
theorem elemOk {P : Program} {t e : TypeId} {size bytes : Nat} {z : Value} (ht : P.underlying t = some (.slice e)) (hs : 0 < size) (hi : (P.info? e).map (fun i => (i.zero, i.size, i.bytes)) = some (some z, size, bytes)) (hz : z.cells.size = size) : ElemOk P t e size bytes := by
  obtain ⟨i0, h, hz0, hz1, hz2⟩ := info_parts hi
  exact ⟨ht, hs, i0, z, h, hz0, hz1, hz2, hz⟩

/-- m elements of some cells each lie at A (nil, if there are none). -/
def rdC (w : World) (A : Option Addr) (m size : Nat) (ys : List Value) : Prop :=
  ys.length = m * size ∧ (0 < m → ∃ ad, A = some ad ∧ ad.block < w.heap.size ∧ ∀ j u, ys[j]? = some u → w.cell? (ad.add j) = some u)
theorem add_block (a : Addr) (n : Nat) : (a.add n).block = a.block := by unfold Addr.add; split <;> rfl
theorem rdC_tr {w w1 : World} {A : Option Addr} {m size : Nat} {ys : List Value} (h : rdC w A m size ys) (hb : Below w.heap.size w w1) : rdC w1 A m size ys :=
  ⟨h.1, fun hm => by
    obtain ⟨ad, e, hl, hc⟩ := h.2 hm
    exact ⟨ad, e, Nat.lt_of_lt_of_le hl hb.size, fun j u hu => (hb.cell (p := ad.add j) (by rw [add_block]; exact hl)).trans (hc j u hu)⟩⟩
theorem rdC_nil (w : World) (A : Option Addr) (size : Nat) : rdC w A 0 size [] := ⟨by simp, fun h => by omega⟩
theorem rdC_own {w : World} {base : Nat} {e : TypeId} {size n c : Nat} {A : Option Addr} {xs : List Value} (h : w.ownsRow base e size (.slice A n c) n xs) : rdC w A n size xs := by
  refine ⟨h.1, fun hn => ?_⟩
  obtain ⟨g, cap, hv, _, hlt⟩ := h.form hn
  have hA : A = some ⟨g, 0, none⟩ := by injection hv
  subst hA
  exact ⟨_, rfl, hlt, h.cells (g := g) rfl⟩
theorem own_tr {w w1 : World} {base n : Nat} {t : TypeId} {sz : Nat} {v : Value} {xs : List Value} (h : w.ownsRow base t sz v n xs) (hb : Below w.heap.size w w1) : w1.ownsRow base t sz v n xs :=
  h.kept (row := none) ⟨hb.os, hb.tape, hb.output, hb.size, fun i hi _ => hb.block i hi⟩ (by cases v.ownBlock <;> simp)
theorem own_nil (w : World) (base : Nat) (e : TypeId) (size : Nat) : w.ownsRow base e size (.slice none 0 0) 0 [] := World.ownsRow_nil w base e size
theorem own_new (w : World) (base : Nat) (e : TypeId) (size n : Nat) (cs : Array Value) (hb : base ≤ w.heap.size) (hs : cs.size = n * size) (hn : n ≤ maxLen) {g : Nat} (hg : g = w.heap.size) : (w.alloc (.cells cs e)).ownsRow base e size (.slice (some ⟨g, 0, none⟩) n n) n cs.toList := by
  subst hg
  exact ⟨by simpa using hs, .inr ⟨w.heap.size, n, cs, rfl, hb, blk_new w e cs, Nat.le_refl _, hn, hs, by rw [List.take_of_length_le (by simp [hs])]⟩⟩

/-- 'append(x, y...)'. -/
theorem app_rd {P : Program} {t ty e : TypeId} {size bytes : Nat} (E : ElemOk P t e size bytes) {w : World} {base : Nat} {A B : Option Addr} {n c m c' : Nat} {xs ys : List Value}
    (h1 : w.ownsRow base e size (.slice A n c) n xs) (h2 : rdC w B m size ys) (ho : ∀ u ∈ ys, u.oneCell' = true) (hb : base ≤ w.heap.size) (hn : n + m ≤ maxLen) (hby : (n + m) * bytes ≤ 140737488355328) :
    ∃ D d w', (Builtin.append_ #[t, t] ty #[.slice A n c, .slice B m c']).run P w = .ok (.slice D (n + m) d) w' ∧
      w'.ownsRow base e size (.slice D (n + m) d) (n + m) (xs ++ ys) ∧ Below base w w' := by
  obtain ⟨ht, hs, i0, z, hi, hz0, hz1, hz2, hz3⟩ := E
  have nilCase : m = 0 → B = none → ∃ D d w', (Builtin.append_ #[t, t] ty #[.slice A n c, .slice B m c']).run P w = .ok (.slice D (n + m) d) w' ∧
      w'.ownsRow base e size (.slice D (n + m) d) (n + m) (xs ++ ys) ∧ Below base w w' := by
    rintro rfl rfl
    have hy : ys = [] := List.eq_nil_of_length_eq_zero (by simpa using h2.1)
    subst hy
    refine ⟨A, c, w, ?_, by simpa using h1, Below.refl _ _⟩
    rcases h1.2 with ⟨hv1, hm1⟩ | ⟨g, cap, cur, hv1, _, _, hnc, _⟩
    · obtain ⟨rfl, rfl, rfl⟩ : A = none ∧ n = 0 ∧ c = 0 := by simpa using hv1
      simp [Builtin.append_, run_underlying ht, sizeOf, typeInfo, hi, Builtin.lenOf, Builtin.firstCells]
    · obtain ⟨rfl, rfl⟩ : A = some ⟨g, 0, none⟩ ∧ c = cap := by simpa using hv1
      simp [Builtin.append_, run_underlying ht, sizeOf, typeInfo, hi, Builtin.lenOf, Builtin.firstCells, hnc, storeCells]
  have main : ∀ ad, B = some ad → (∀ j u, ys[j]? = some u → w.cell? (ad.add j) = some u) → ∃ D d w', (Builtin.append_ #[t, t] ty #[.slice A n c, .slice B m c']).run P w = .ok (.slice D (n + m) d) w' ∧
      w'.ownsRow base e size (.slice D (n + m) d) (n + m) (xs ++ ys) ∧ Below base w w' := by
    rintro ad rfl hc
    obtain ⟨v', w', hr, hown, hg, _, _⟩ := run_append_own_at (P := P) w base t ty e i0 z size bytes ht hi hz0 hz1 hz2 hz3 hs (.slice A n c) n xs h1 ad m c' ys h2.1 hc ho hn hby hb
    have hf : ∃ D d, v' = .slice D (n + m) d := by
      rcases hown.2 with ⟨rfl, h0⟩ | ⟨g2, c2, cu, rfl, _⟩
      · exact ⟨none, 0, by rw [h0]⟩
      · exact ⟨_, _, rfl⟩
    obtain ⟨D, d, rfl⟩ := hf
    exact ⟨D, d, w', hr, hown, (Below.refl _ _).grown hg hb (fun k hk => (h1.lt k hk).1)⟩
  rcases Nat.eq_zero_or_pos m with h0 | h0
  · cases B with
    | none => exact nilCase h0 rfl
    | some ad =>
      subst h0
      have hy : ys = [] := List.eq_nil_of_length_eq_zero (by simpa using h2.1)
      exact main ad rfl (by subst hy; intro j u hu; simp at hu)
  · obtain ⟨ad, rfl, _, hc⟩ := h2.2 h0
    exact main ad rfl hc

/-- A block other than the one that grows. -/
theorem blk_grown {w w' : World} {g : Nat} {t : TypeId} {cs : Array Value} {o : Option Nat} (h : Blk w g t cs) (hg : w.grownBy w' o) (ne : o ≠ some g) : Blk w' g t cs := by
  obtain ⟨_, _, _, _, hk⟩ := hg
  exact (hk g (blk_lt h) (Ne.symm ne)).trans h
theorem own_lt {w : World} {base n c : Nat} {t : TypeId} {sz g : Nat} {A : Option Addr} {xs : List Value} (h : w.ownsRow base t sz (.slice A n c) n xs) (hg : (Value.slice A n c).ownBlock = some g) : base ≤ g ∧ g < w.heap.size := h.lt g hg
/-- 'append(x, y...)', and what is left as it was. -/
theorem app_rd2 {P : Program} {t ty e : TypeId} {size bytes : Nat} (E : ElemOk P t e size bytes) {w : World} {base : Nat} {A B : Option Addr} {n c m c' : Nat} {xs ys : List Value}
    (h1 : w.ownsRow base e size (.slice A n c) n xs) (h2 : rdC w B m size ys) (ho : ∀ u ∈ ys, u.oneCell' = true) (hb : base ≤ w.heap.size) (hn : n + m ≤ maxLen) (hby : (n + m) * bytes ≤ 140737488355328) (hB : B.isSome = true) :
    ∃ D d w', (Builtin.append_ #[t, t] ty #[.slice A n c, .slice B m c']).run P w = .ok (.slice D (n + m) d) w' ∧
      w'.ownsRow base e size (.slice D (n + m) d) (n + m) (xs ++ ys) ∧ Below base w w' ∧ w.grownBy w' (Value.slice A n c).ownBlock ∧ ((Value.slice D (n + m) d).ownBlock = (Value.slice A n c).ownBlock ∨ (Value.slice D (n + m) d).ownBlock = some w.heap.size) := by
  obtain ⟨ht, hs, i0, z, hi, hz0, hz1, hz2, hz3⟩ := E
  have main : ∀ ad, B = some ad → (∀ j u, ys[j]? = some u → w.cell? (ad.add j) = some u) → ∃ D d w', (Builtin.append_ #[t, t] ty #[.slice A n c, .slice B m c']).run P w = .ok (.slice D (n + m) d) w' ∧
      w'.ownsRow base e size (.slice D (n + m) d) (n + m) (xs ++ ys) ∧ Below base w w' ∧ w.grownBy w' (Value.slice A n c).ownBlock ∧ ((Value.slice D (n + m) d).ownBlock = (Value.slice A n c).ownBlock ∨ (Value.slice D (n + m) d).ownBlock = some w.heap.size) := by
    rintro ad rfl hc
    obtain ⟨v', w', hr, hown, hg, _, hob⟩ := run_append_own_at (P := P) w base t ty e i0 z size bytes ht hi hz0 hz1 hz2 hz3 hs (.slice A n c) n xs h1 ad m c' ys h2.1 hc ho hn hby hb
    have hf : ∃ D d, v' = .slice D (n + m) d := by
      rcases hown.2 with ⟨rfl, h0⟩ | ⟨g2, c2, cu, rfl, _⟩
      · exact ⟨none, 0, by rw [h0]⟩
      · exact ⟨_, _, rfl⟩
    obtain ⟨D, d, rfl⟩ := hf
    exact ⟨D, d, w', hr, hown, (Below.refl _ _).grown hg hb (fun k hk => (h1.lt k hk).1), hg, hob⟩
  obtain ⟨ad, rfl⟩ := Option.isSome_iff_exists.1 hB
  rcases Nat.eq_zero_or_pos m with h0 | h0
  · subst h0
    have hy : ys = [] := List.eq_nil_of_length_eq_zero (by simpa using h2.1)
    exact main ad rfl (by subst hy; intro j u hu; simp at hu)
  · obtain ⟨ad', e', _, hc⟩ := h2.2 h0
    cases e'
    exact main ad rfl hc

theorem own_base {w : World} {base b n : Nat} {t : TypeId} {sz : Nat} {v : Value} {xs : List Value} (h : w.ownsRow base t sz v n xs) (hb : b ≤ base) : w.ownsRow b t sz v n xs := by
  refine ⟨h.1, ?_⟩
  rcases h.2 with h0 | ⟨g, cap, cur, h1, h2, h3⟩
  · exact .inl h0
  · exact .inr ⟨g, cap, cur, h1, Nat.le_trans hb h2, h3⟩
/-- A cell of another block, written. -/
theorem own_far {w : World} {base n : Nat} {t : TypeId} {sz : Nat} {v : Value} {xs : List Value} (h : w.ownsRow base t sz v n xs) {p : Addr} (hp : v.ownBlock ≠ some p.block) (u : Value) : (w.setCell p u).ownsRow base t sz v n xs :=
  h.kept (row := some p.block) ⟨rfl, rfl, rfl, by simp, fun i _ hne => Below.heap_setCell w p u i (fun e => hne (by rw [e]))⟩ (.inr hp)
/-- 'append(x, ys...)', the ys lying in a block that was made for it. -/
theorem app_new {P : Program} {t ty e : TypeId} {size bytes : Nat} (E : ElemOk P t e size bytes) {w : World} {base : Nat} {A : Option Addr} {n c m g : Nat} {xs : List Value} (ys : Array Value)
    (h1 : w.ownsRow base e size (.slice A n c) n xs) (hys : ys.size = m * size) (ho : ∀ u ∈ ys.toList, u.oneCell' = true) (hg : g = w.heap.size) (hb : base ≤ w.heap.size) (hn : n + m ≤ maxLen) (hby : (n + m) * bytes ≤ 140737488355328) :
    ∃ D d w', (Builtin.append_ #[t, t] ty #[.slice A n c, .slice (some ⟨g, 0, none⟩) m m]).run P (w.alloc (.cells ys e)) = .ok (.slice D (n + m) d) w' ∧
      w'.ownsRow base e size (.slice D (n + m) d) (n + m) (xs ++ ys.toList) ∧ Below base w w' ∧ (∀ g' t' cs, Blk w g' t' cs → (Value.slice A n c).ownBlock ≠ some g' → Blk w' g' t' cs) ∧
      ((Value.slice D (n + m) d).ownBlock = (Value.slice A n c).ownBlock ∨ (Value.slice D (n + m) d).ownBlock = some (w.heap.size + 1)) ∧ w.heap.size < w'.heap.size := by
  subst hg
  have hB := blk_new w e ys
  obtain ⟨D, d, w', hr, hown, hbw, hgr, hob⟩ := app_rd2 (ty := ty) E (c' := m) (h1.alloc (.cells ys e)) (B := some ⟨w.heap.size, 0, none⟩) (m := m) (ys := ys.toList)
    ⟨by simpa using hys, fun _ => ⟨_, rfl, by simp, fun j u hu => by
      have e1 : (⟨w.heap.size, 0, none⟩ : Addr).add j = ⟨w.heap.size, j, none⟩ := by unfold Addr.add; split <;> simp_all
      rw [e1, blk_cell hB]; simpa using hu⟩⟩ ho (by simp; omega) hn hby rfl
  refine ⟨D, d, w', hr, hown, ((Below.refl _ _).alloc hb _).trans hbw, fun g' t' cs h hne => blk_grown (blk_al h _) hgr hne, ?_⟩
  refine ⟨?_, by have := hbw.size; simp at this; omega⟩
  rcases hob with h | h
  · exact .inl h
  · right; simpa using h

/-- 'append' at a plain region's list of operations, by what its run comes to. -/
theorem list_append {P : Program} {ops : Array Oper} {rest : List Oper} {o : Oper} {a : Act} {w w' : World} {Q : Exit → Act → World → Prop} (s x : Operand) (t : TypeId) {v u r : Value} (hgd : o.guard = none)
    (ho : o.op = .call { callee := .builtin .append, args := #[s, x], argTypes := #[t, t] }) (hs : a.eval s = v) (hx : a.eval x = u)
    (hr : (Builtin.append_ #[t, t] o.type #[v, u]).run P w = .ok r w') (hK : wpList P ops Q rest (a.put o.dst r) w') : wpList P ops Q (o :: rest) a w := by
  refine wpList_plain hgd fun K hKK => ?_
  unfold Oper.wp execOp
  simp only [ho, resolve, invoke, builtin, Sem.run_bind, Sem.run_pure, Result.andThen_ok, List.map_toArray, List.map_cons, List.map_nil, hs, hx, hr]
  exact hKK _ _ hK
end Go.Proofs.Ytbigadbnijpcjaa
