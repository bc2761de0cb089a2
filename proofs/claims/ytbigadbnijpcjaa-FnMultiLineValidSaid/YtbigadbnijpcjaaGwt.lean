/-
  Contracts: gWeight, gSmall (how much a geometry weighs).
-/
import Derived.Test.YtbigadbnijpcjaaTree
import Derived.Test.YtbigadbnijpcjaaNum
namespace Go.Proofs.Ytbigadbnijpcjaa
open Go.RowKit
mutual
def GT.w : GT → Int → Int
  | .mk _ _ ns ks, l => if l < 1 ∨ l < (ns.length : Int) ∨ l < (ks.length : Int) then -1 else wl ks (l - 1 - ns.length)
def wl : List GT → Int → Int
  | [], l => l
  | k :: ks, l => if l < 0 then l else wl ks (k.w l)
end
theorem wl_neg : ∀ (m : List GT) (l : Int), l < 0 → wl m l = l
  | [], l, _ => by rw [wl]
  | k :: ks, l, h => by rw [wl, if_pos h]
theorem wl_append : ∀ (a b : List GT) (l : Int), wl (a ++ b) l = wl b (wl a l)
  | [], b, l => by simp [wl]
  | k :: ks, b, l => by
    simp only [List.cons_append, wl]
    by_cases h : l < 0
    · rw [if_pos h, if_pos h, wl_neg b l h]
    · rw [if_neg h, if_neg h, wl_append ks b]
theorem GT.ind {P : GT → Prop} (h : ∀ k d ns ks, (∀ (i : Nat) (t : GT), ks[i]? = some t → P t) → P (.mk k d ns ks)) (g : GT) : P g := by
  have : ∀ n, ∀ g : GT, SizeOf.sizeOf g ≤ n → P g := by
    intro n
    induction n with
    | zero => intro g hg; cases g; simp at hg
    | succ n ih =>
      intro g hg
      cases g with
      | mk k d ns ks =>
        refine h k d ns ks fun i t ht => ih t ?_
        have := List.sizeOf_lt_of_mem (List.mem_of_getElem? ht)
        simp at hg; omega
  exact this _ g (Nat.le_refl _)
mutual
theorem GT.w_le : ∀ (g : GT) (l : Int), g.w l ≤ l ∨ g.w l = -1
  | .mk _ _ ns ks, l => by
    rw [GT.w]
    by_cases h : l < 1 ∨ l < (ns.length : Int) ∨ l < (ks.length : Int)
    · rw [if_pos h]; exact .inr rfl
    · rw [if_neg h]
      rcases wl_le ks (l - 1 - ns.length) with h | h
      · exact .inl (by omega)
      · exact .inr h
theorem wl_le : ∀ (m : List GT) (l : Int), wl m l ≤ l ∨ wl m l = -1
  | [], l => by rw [wl]; exact .inl (Int.le_refl _)
  | k :: ks, l => by
    rw [wl]
    by_cases h : l < 0
    · rw [if_pos h]; exact .inl (Int.le_refl _)
    · rw [if_neg h]
      rcases wl_le ks (k.w l) with h1 | h1
      · rcases GT.w_le k l with h2 | h2
        · exact .inl (by omega)
        · by_cases h3 : k.w l < 0
          · rw [wl_neg _ _ h3, h2]; exact .inr rfl
          · omega
      · exact .inr h1
end
mutual
theorem GT.w_ge : ∀ (g : GT) (l : Int), -1 ≤ g.w l
  | .mk _ _ ns ks, l => by
    rw [GT.w]
    by_cases h : l < 1 ∨ l < (ns.length : Int) ∨ l < (ks.length : Int)
    · rw [if_pos h]; exact Int.le_refl _
    · rw [if_neg h]
      exact wl_ge ks (l - 1 - ns.length) (by omega)
theorem wl_ge : ∀ (m : List GT) (l : Int), -1 ≤ l → -1 ≤ wl m l
  | [], l, h => by rw [wl]; exact h
  | k :: ks, l, h => by
    rw [wl]
    by_cases h : l < 0
    · rw [if_pos h]; omega
    · rw [if_neg h]; exact wl_ge ks _ (GT.w_ge k l)
end
theorem wl_snoc {ks : List GT} {k : Nat} {t : GT} (h : ks[k]? = some t) (l : Int) (h0 : 0 ≤ wl (ks.take k) l) : wl (ks.take (k + 1)) l = t.w (wl (ks.take k) l) := by
  rw [List.take_add_one, h, Option.toList_some, wl_append, wl, wl, if_neg (by omega)]
set_option maxRecDepth 100000 in
theorem gWeight_any (g : GT) : ∀ (s t : Value) (w : World) (l : Int), RdG w s t g → l ≤ 2000 → i64 l →
    Calls Try.prog 59 #[.agg #[.int .i64 g.kind, .int .i64 g.dim, s, t], .int .i64 l] w fun e w' => e = .returned (.int .i64 (g.w l)) ∧ Below w.heap.size w w' := by
  induction g using GT.ind with
  | h kd dm ns ks IH =>
  intro s t w l h hl hl64
  have h0 := h
  obtain ⟨f, hk, hd, hc, hc', he, he', hn, hB, hf⟩ := h0
  unfold i64 at hl64
  unfold maxLen at hc' he'
  simp only [GT.kind, GT.dim, GT.w]
  by_cases h1 : l < 1
  · rw [if_pos (.inl h1)]
    go_enter Try.func59, Try.ntmps59
    go_wp2
    go_ret
    refine ⟨rfl, ?_⟩
    repeat' (first | (with_reducible exact bl_refl _) | (with_reducible assumption) | (with_reducible apply bl_al) | (with_reducible apply bl_dr) | (with_reducible refine bl_st ?_ ?_ _) | (with_reducible refine bl_tr ?_ (by with_reducible assumption)) | (first | (with_reducible exact Nat.le_refl _) | (with_reducible assumption) | omega | (simp; omega) | (simp; done)))
  by_cases h2 : l < (ns.length : Int)
  · rw [if_pos (.inr (.inl h2))]
    go_enter Try.func59, Try.ntmps59
    go_wp2
    go_ret
    refine ⟨rfl, ?_⟩
    repeat' (first | (with_reducible exact bl_refl _) | (with_reducible assumption) | (with_reducible apply bl_al) | (with_reducible apply bl_dr) | (with_reducible refine bl_st ?_ ?_ _) | (with_reducible refine bl_tr ?_ (by with_reducible assumption)) | (first | (with_reducible exact Nat.le_refl _) | (with_reducible assumption) | omega | (simp; omega) | (simp; done)))
  by_cases h3 : l < (ks.length : Int)
  · rw [if_pos (.inr (.inr h3))]
    go_enter Try.func59, Try.ntmps59
    go_wp2
    go_ret
    refine ⟨rfl, ?_⟩
    repeat' (first | (with_reducible exact bl_refl _) | (with_reducible assumption) | (with_reducible apply bl_al) | (with_reducible apply bl_dr) | (with_reducible refine bl_st ?_ ?_ _) | (with_reducible refine bl_tr ?_ (by with_reducible assumption)) | (first | (with_reducible exact Nat.le_refl _) | (with_reducible assumption) | omega | (simp; omega) | (simp; done)))
  rw [if_neg (by omega)]
  have hl0 : -1 ≤ l - 1 - (ns.length : Int) := by omega
  have hl1 : l - 1 - (ns.length : Int) ≤ 2000 := by omega
  obtain ⟨l0, e0⟩ : ∃ l0, l - 1 - (ns.length : Int) = l0 := ⟨_, rfl⟩
  rw [e0] at hl0 hl1 ⊢
  have hge := fun k => wl_ge (ks.take k) l0 hl0
  have hle : ∀ k, wl (ks.take k) l0 ≤ 2000 := fun k => by rcases wl_le (ks.take k) l0 with h | h <;> omega
  have HIH := Lib.hid IH
  have HB := Lib.hid hB
  have HF := Lib.hid hf
  clear IH hB hf h hn
  rename_i A B c d
  have hnl : (ns.length : Int) ≤ 2000 := by omega
  have hkl : (ks.length : Int) ≤ 2000 := by omega
  obtain ⟨n, en⟩ : ∃ n, ks.length = n := ⟨_, rfl⟩
  have HN := Lib.hid en
  rw [en] at he h3 hkl ⊢
  clear en
  generalize ns.length = N at *
  go_enter Try.func59, Try.ntmps59
  go_wp2
  try rw [e0]
  have HE0 := Lib.hid e0
  clear e0 h1 h2 h3 hk hd hc
  go_loopw [1, 5] (fun x i wr => ∃ k : Nat, k ≤ n ∧ i = .int .i64 k ∧ x = .int .i64 (wl (ks.take k) l0) ∧ Below w.heap.size w wr ∧ Blk wr w.heap.size 25 #[.int .i64 kd, .int .i64 dm, .slice A N c, .slice B n d]) (fun _ i _ => n - (intOf i).toNat)
  case atStart =>
    refine ⟨0, Nat.zero_le _, rfl, by rw [List.take_zero, wl], ?_, blk_new _ _ _⟩
    repeat' (first | (with_reducible exact bl_refl _) | (with_reducible assumption) | (with_reducible apply bl_al) | (with_reducible apply bl_dr) | (with_reducible refine bl_st ?_ ?_ _) | (with_reducible refine bl_tr ?_ (by with_reducible assumption)) | (first | (with_reducible exact Nat.le_refl _) | (with_reducible assumption) | omega | (simp; omega) | (simp; done)))
  case round =>
    obtain ⟨k, hk, rfl, rfl, hbw, hBk⟩ := hrel
    have g1 := hge k
    have g2 := hle k
    have b2 := (blk_cell hBk 2).trans (rfl : _ = some (Value.slice A N c))
    have b3 := (blk_cell hBk 3).trans (rfl : _ = some (Value.slice B n d))
    by_cases hlt : k < n
    · by_cases hx0 : wl (ks.take k) l0 < 0
      · have HE : Hid (wl ks l0 = wl (ks.take k) l0) := by
          show wl ks l0 = _
          have := wl_append (ks.take k) (ks.drop k) l0
          rw [List.take_append_drop, wl_neg _ _ hx0] at this; exact this
        generalize wl (ks.take k) l0 = x at *
        go_wp2
        go_ret
        exact ⟨by rw [HE.out]; rfl, hbw⟩
      · obtain ⟨t, et⟩ : ∃ t, ks[k]? = some t := ⟨_, List.getElem?_eq_getElem (by have := HN.out; omega)⟩
        obtain ⟨b, off, rfl, hb, hx⟩ := HB.out (by have := HN.out; omega)
        obtain ⟨c0, c1, c2, c3⟩ := hx k t et
        have d0 := (bl_rc hbw hb _).trans c0
        have d1 := (bl_rc hbw hb _).trans c1
        have d2 := (bl_rc hbw hb _).trans c2
        have d3 := (bl_rc hbw hb _).trans c3
        have HS := Lib.hid (wl_snoc et l0 (by omega))
        have HI := Lib.hid fun x h1 h2 => HIH.out k t et _ _ wr x ((HF.out k t et).tr hbw) h1 h2
        clear c0 c1 c2 c3 et hx
        generalize wl (ks.take k) l0 = x at *
        go_wp2_with fail
        refine (HI.out x (by omega) ⟨by omega, by omega⟩).mono ?_
        rintro e w1 ⟨rfl, hb1⟩
        go_wp2
        go_roundw
        case rel =>
          refine ⟨k + 1, by omega, by go_num, ?_, ?_, blk_tr hBk hb1⟩
          · rw [HS.out]
          · repeat' (first | (with_reducible exact bl_refl _) | (with_reducible assumption) | (with_reducible apply bl_al) | (with_reducible apply bl_dr) | (with_reducible refine bl_st ?_ ?_ _) | (with_reducible refine bl_tr ?_ (by with_reducible assumption)) | (first | (with_reducible exact Nat.le_refl _) | (with_reducible assumption) | omega | (simp; omega) | (simp; done)))
        case measure => simp [intOf]; omega
    · obtain rfl : k = n := by omega
      have e1 : ks.take k = ks := List.take_of_length_le (by have := HN.out; omega)
      rw [e1] at g1 g2 ⊢
      go_wp2
      go_ret
      exact ⟨rfl, hbw⟩
/-- A list of geometries that lies in memory. -/
def rdK (w : World) (B : Option Addr) (f : Nat → Value × Value) (kids : List GT) : Prop := (0 < kids.length → ∃ b off, B = some ⟨b, off, none⟩ ∧ b < w.heap.size ∧ ∀ (i : Nat) (k : GT), kids[i]? = some k →
  w.cell? ⟨b, off + i * 4, none⟩ = some (.int .i64 k.kind) ∧ w.cell? ⟨b, off + i * 4 + 1, none⟩ = some (.int .i64 k.dim) ∧ w.cell? ⟨b, off + i * 4 + 2, none⟩ = some (f i).1 ∧ w.cell? ⟨b, off + i * 4 + 3, none⟩ = some (f i).2) ∧
  ∀ (i : Nat) (k : GT), kids[i]? = some k → RdG w (f i).1 (f i).2 k
set_option maxRecDepth 100000 in
theorem gSmall_any (B : Option Addr) (ks : List GT) (n d : Nat) (f : Nat → Value × Value) (w : World) (hn : ks.length = n) (hr : rdK w B f ks) (hl : n ≤ 65536) :
    Calls Try.prog 14 #[.slice B n d] w fun e w' => e = .returned (.bool (decide (0 ≤ wl ks 2000))) ∧ Below w.heap.size w w' := by
  have hge := fun k => wl_ge (ks.take k) 2000 (by omega)
  have hle : ∀ k, wl (ks.take k) 2000 ≤ 2000 := fun k => by rcases wl_le (ks.take k) 2000 with h | h <;> omega
  have HN := Lib.hid hn
  have HB := Lib.hid hr.1
  have HF := Lib.hid hr.2
  clear hn hr
  go_enter Try.func14, Try.ntmps14
  go_wp2
  go_loopw [3, 4] (fun x i wr => ∃ k : Nat, k ≤ n ∧ i = .int .i64 k ∧ x = .int .i64 (wl (ks.take k) 2000) ∧ Below w.heap.size w wr) (fun _ i _ => n - (intOf i).toNat)
  case atStart => exact ⟨0, Nat.zero_le _, rfl, by rw [List.take_zero, wl], Below.refl _ _⟩
  case round =>
    obtain ⟨k, hk, rfl, rfl, hbw⟩ := hrel
    have g1 := hge k
    have g2 := hle k
    by_cases hlt : k < n
    · by_cases hx0 : wl (ks.take k) 2000 < 0
      · have HE : Hid (wl ks 2000 = wl (ks.take k) 2000) := by
          show wl ks 2000 = _
          have := wl_append (ks.take k) (ks.drop k) 2000
          rw [List.take_append_drop, wl_neg _ _ hx0] at this; exact this
        generalize wl (ks.take k) 2000 = x at *
        go_wp2
        go_ret
        refine ⟨?_, hbw⟩
        rw [HE.out]
        simp [go_sem]
      · obtain ⟨t, et⟩ : ∃ t, ks[k]? = some t := ⟨_, List.getElem?_eq_getElem (by have := HN.out; omega)⟩
        obtain ⟨b, off, rfl, hb, hx⟩ := HB.out (by have := HN.out; omega)
        obtain ⟨c0, c1, c2, c3⟩ := hx k t et
        have d0 := (bl_rc hbw hb _).trans c0
        have d1 := (bl_rc hbw hb _).trans c1
        have d2 := (bl_rc hbw hb _).trans c2
        have d3 := (bl_rc hbw hb _).trans c3
        have HS := Lib.hid (wl_snoc et 2000 (by omega))
        have HI := Lib.hid fun x h1 h2 => gWeight_any t _ _ wr x ((HF.out k t et).tr hbw) h1 h2
        clear c0 c1 c2 c3 et hx
        generalize wl (ks.take k) 2000 = x at *
        go_wp2_with fail
        refine (HI.out x (by omega) ⟨by omega, by omega⟩).mono ?_
        rintro e w1 ⟨rfl, hb1⟩
        go_wp2
        go_roundw
        case rel =>
          refine ⟨k + 1, by omega, by go_num, ?_, ?_⟩
          · rw [HS.out]
          · repeat' (first | (with_reducible exact bl_refl _) | (with_reducible assumption) | (with_reducible apply bl_al) | (with_reducible apply bl_dr) | (with_reducible refine bl_st ?_ ?_ _) | (with_reducible refine bl_tr ?_ (by with_reducible assumption)) | (first | (with_reducible exact Nat.le_refl _) | (with_reducible assumption) | omega | (simp; omega) | (simp; done)))
        case measure => simp [intOf]; omega
    · obtain rfl : k = n := by omega
      have e1 : ks.take k = ks := List.take_of_length_le (by have := HN.out; omega)
      rw [e1] at g1 g2 ⊢
      go_wp2
      go_ret
      exact ⟨rfl, hbw⟩
end Go.Proofs.Ytbigadbnijpcjaa
