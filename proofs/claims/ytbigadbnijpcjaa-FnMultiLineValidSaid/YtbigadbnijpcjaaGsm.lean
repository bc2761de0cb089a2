/-
  One geometry in a list of its own: gSmall.
-/
import Derived.Test.YtbigadbnijpcjaaGwt
namespace Go.Proofs.Ytbigadbnijpcjaa
open Go.RowKit
/-- One geometry in a list of its own. -/
theorem gSmall_one (g : GT) (s t : Value) (w W : World) (b : Nat) (hg : RdG w s t g) (hb : Below w.heap.size w W) (hbl : b = W.heap.size) :
    Calls Try.prog 14 #[.slice (some ⟨b, 0, none⟩) 1 1] (W.alloc (.cells #[.int .i64 g.kind, .int .i64 g.dim, s, t] 25)) fun e w' => e = .returned (.bool (decide (0 ≤ g.w 2000))) ∧ Below W.heap.size W w' ∧ Below (W.heap.size + 1) (W.alloc (.cells #[.int .i64 g.kind, .int .i64 g.dim, s, t] 25)) w' := by
  subst hbl
  have hB := blk_new W 25 #[.int .i64 g.kind, .int .i64 g.dim, s, t]
  have := gSmall_any (some ⟨W.heap.size, 0, none⟩) [g] 1 1 (fun _ => (s, t)) (W.alloc (.cells #[.int .i64 g.kind, .int .i64 g.dim, s, t] 25)) rfl ⟨fun _ => ⟨_, 0, rfl, by simp, fun i k hi => ?_⟩, fun i k hi => ?_⟩ (by omega)
  · have e1 : wl [g] 2000 = g.w 2000 := by rw [wl, wl, if_neg (by decide)]
    rw [e1] at this
    exact this.mono fun e w' ⟨h1, h2⟩ => ⟨h1, (bl_al (bl_refl _) _).trans (h2.mono (by simp)), h2.mono (by simp)⟩
  · match i, hi with
    | 0, hi =>
      obtain rfl : g = k := by simpa using hi
      exact ⟨(blk_cell hB _).trans rfl, (blk_cell hB _).trans rfl, (blk_cell hB _).trans rfl, (blk_cell hB _).trans rfl⟩
  · match i, hi with
    | 0, hi =>
      obtain rfl : g = k := by simpa using hi
      exact hg.tr (bl_al hb _)
theorem w_small {kd dm : Int} {ns : List Nat} {ks : List GT} (h : 0 ≤ (GT.mk kd dm ns ks).w 2000) : ns.length ≤ 2000 ∧ ks.length ≤ 2000 := by
  rw [GT.w] at h
  split at h
  · omega
  · omega
theorem own_cap {w : World} {base n c : Nat} {t : TypeId} {sz : Nat} {A : Option Addr} {xs : List Value} (h : w.ownsRow base t sz (.slice A n c) n xs) : n ≤ c := by
  rcases h.2 with ⟨hv1, hm1⟩ | ⟨g, cap, cur, hv1, _, _, hnc, _⟩
  · omega
  · injection hv1 with _ _ e; omega
end Go.Proofs.Ytbigadbnijpcjaa
