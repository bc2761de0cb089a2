/-
  Contracts of the small functions on one number: IsNaN, Abs, IsInf, gFinite.
-/
import Derived.Test.YtbigadbnijpcjaaRows
import Derived.Test.YtbigadbnijpcjaaFloat
import Derived.WalkKit
import Derived.WalkSpells
import Derived.WalkLawsBesides
import Derived.BigQuiet
import Derived.Deep.QuietTactic
import Derived.Deep.RegionHeld3
import Derived.Lib.Hide
import Derived.Laws.Externs
import Derived.Laws.BitsAllLaws
namespace Go.Proofs.Ytbigadbnijpcjaa
open Go.RowKit

@[go_sem] theorem call_bits (a : Nat) (w : World) : (callFunc 66 #[.float .f64 a]).run Try.prog w = .ok (.value (.int .u64 a)) w := by
  rw [run_callFunc_extern Try.func66 (by kernel_rfl) (by kernel_rfl) (by kernel_rfl) (e := Extern.MathFloatBits.float64bits) (by kernel_rfl)]; rfl
@[go_sem] theorem call_frombits (a : Int) (w : World) : (callFunc 75 #[.int .u64 a]).run Try.prog w = .ok (.value (.float .f64 a.toNat)) w := by
  rw [run_callFunc_extern Try.func75 (by kernel_rfl) (by kernel_rfl) (by kernel_rfl) (e := Extern.MathFloatBits.float64frombits) (by kernel_rfl)]; rfl

@[go_sem] theorem run_store_float (P : Program) (w : World) (a : Addr) (m : Mode) (k : FloatKind) (b : Nat) : (store a (.float k b) m).run P w = stored P w a (.float k b) m := run_store P w a _ m rfl

theorem clear_sign (a : Nat) : (bits .andNot .u64 (a : Int) 9223372036854775808).toNat = Fl.rung a := by
  have h1 : (BitVec.ofInt 64 (a : Int)).toNat = a % 2 ^ 64 := by rw [BitVec.ofInt_natCast, BitVec.toNat_ofNat]
  show (IntKind.u64.wrap ((BitVec.ofInt 64 (a : Int) &&& ~~~(BitVec.ofInt 64 9223372036854775808)).toNat : Int)).toNat = _
  have h2 : (~~~(BitVec.ofInt 64 9223372036854775808)).toNat = 2 ^ 63 - 1 := by decide
  rw [BitVec.toNat_and, h1, h2, Nat.and_two_pow_sub_one_eq_mod]
  have h3 : a % 2 ^ 64 % 2 ^ 63 = Fl.rung a := by unfold Fl.rung Fl.P63; omega
  rw [h3]
  have h4 := Fl.rung_le a
  unfold Fl.P63 at h4
  rw [IntKind.wrap_u64]
  omega

theorem isNaN_any (a : Nat) (w : World) :
    Calls Try.prog 142 #[.float .f64 a] w fun e w' => e = .returned (.bool (!Fl.num a)) ∧ w = w' := by
  go_enter Try.func142, Try.ntmps142
  go_wp2
  go_ret
  exact ⟨by rw [← Fl.fne_self]; rfl, rfl⟩
theorem abs_any (a : Nat) (w : World) :
    Calls Try.prog 30 #[.float .f64 a] w fun e w' => e = .returned (.float .f64 (Fl.rung a)) ∧ w = w' := by
  go_enter Try.func30, Try.ntmps30
  go_wp2
  go_ret
  exact ⟨by rw [← clear_sign]; rfl, rfl⟩
/-- 'math.IsInf(x, 0)', x no NaN. -/
theorem isInf_any (a : Nat) (h : Fl.num a = true) (w : World) :
    Calls Try.prog 143 #[.float .f64 a, .int .i64 0] w fun e w' => e = .returned (.bool (!Fl.fin a)) ∧ w = w' := by
  have hg := Lib.hid (Fl.isInf_test a h)
  clear h
  go_enter Try.func143, Try.ntmps143
  go_wp2_with (go_at_call 30; refine (abs_any _ _).mono ?_; rintro e w' ⟨rfl, rfl⟩)
  go_ret
  exact ⟨by rw [← hg.out]; rfl, rfl⟩
theorem gFinite_any (a : Nat) (w : World) :
    Calls Try.prog 87 #[.float .f64 a] w fun e w' => e = .returned (.bool (Fl.fin a)) ∧ w = w' := by
  by_cases h : Fl.num a = true
  · go_enter Try.func87, Try.ntmps87
    go_wp2_with (first | (go_at_call 142; refine (isNaN_any _ _).mono ?_; rintro e w' ⟨rfl, rfl⟩) | (go_at_call 143; refine (isInf_any _ h _).mono ?_; rintro e w' ⟨rfl, rfl⟩))
    go_ret
    exact ⟨by simp, rfl⟩
  · have h' : Fl.num a = false := by simpa using h
    have h'' : Fl.fin a = false := by
      cases hf : Fl.fin a
      · rfl
      · exact absurd (Fl.num_of_fin hf) h
    clear h
    go_enter Try.func87, Try.ntmps87
    go_wp2_with (first | (go_at_call 142; refine (isNaN_any _ _).mono ?_; rintro e w' ⟨rfl, rfl⟩))
    go_ret
    exact ⟨by simp [h''], rfl⟩
end Go.Proofs.Ytbigadbnijpcjaa
