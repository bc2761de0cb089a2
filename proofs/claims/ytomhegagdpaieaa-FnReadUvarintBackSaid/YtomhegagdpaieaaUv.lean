/-
  Contracts: spec.Uvarint, encoding/binary.Uvarint.
-/
import Derived.Test.YtomhegagdpaieaaRows
import Derived.Test.YtomhegagdpaieaaUvPlain
import Derived.Test.YtomhegagdpaieaaOwn
import Derived.WalkSpells
import Derived.WalkLawsBesides
import Derived.Lib.Hide
namespace Go.Proofs.Ytomhegagdpaieaa
open Go.RowKit

theorem bl_tr' {w W w1 : World} (h : Below w.heap.size w W) (hb : Below w.heap.size W w1) : Below w.heap.size w w1 := h.trans hb
theorem elem_u8 : ElemOk Try.prog 29 5 1 1 := elemOk (z := .int .u8 0) Try.underlying29 (by omega) (by kernel_rfl) rfl
def u8s (l : List Nat) : List Value := l.map fun (b : Nat) => .int .u8 (b : Int)
theorem u8s_one (l : List Nat) : ∀ u ∈ u8s l, u.oneCell' = true := by
  intro u h
  simp only [u8s, List.mem_map] at h
  obtain ⟨b, _, rfl⟩ := h
  rfl
set_option maxRecDepth 100000 in
set_option maxHeartbeats 400000 in
theorem uvarint_any (n : Nat) (hn : n < 18446744073709551616) (w : World) :
    Calls Try.prog 11 #[.int .u64 n] w fun e w' => ∃ A c, e = .returned (.slice A (uvB n).length c) ∧ w'.ownsRow w.heap.size 5 1 (.slice A (uvB n).length c) (uvB n).length (u8s (uvB n)) ∧ Below w.heap.size w w' := by
  go_enter Try.func11, Try.ntmps11
  go_wp2
  go_loopw [0, 3] (fun t o wr => ∃ (m : Nat) (pre : List Nat) (A : Option Addr) (c : Nat), t = .int .u64 m ∧ m < 18446744073709551616 ∧ o = .slice A pre.length c ∧ wr.ownsRow w.heap.size 5 1 (.slice A pre.length c) pre.length (u8s pre) ∧ pre ++ uvB m = uvB n ∧ Below w.heap.size w wr) (fun t _ _ => (intOf t).toNat)
  case atStart => exact ⟨n, [], none, 0, rfl, hn, rfl, own_nil _ _ _ _, rfl, Below.refl _ _⟩
  case round =>
    obtain ⟨m, pre, A, c, rfl, hm, rfl, hown, hpre, hbw⟩ := hrel
    have hlen : pre.length + (uvB m).length = (uvB n).length := by rw [← hpre]; simp
    have h10 := uvB_len64 hn
    have hp := uvB_pos m
    have hsz := hbw.size
    by_cases hlt : m < 128
    · have HU := Lib.hid (uvB_small hlt)
      have HP := Lib.hid hpre
      clear hpre
      obtain ⟨D, d, w5, hr, hD, hb5⟩ := app_rd (ty := 29) elem_u8 (c' := 1) (World.ownsRow.alloc hown (.cells #[.int .u8 (m : Int)] 5)) (B := some ⟨wr.heap.size, 0, none⟩) (m := 1) (ys := [.int .u8 (m : Int)])
        ⟨rfl, fun _ => ⟨_, rfl, by simp, cell_one_new _ _ _⟩⟩ (by simp [Value.oneCell']) (by simp; omega) (by unfold maxLen; omega) (by omega)
      go_wp2_with (first | (at_builtin; refine list_append _ _ _ rfl rfl rfl rfl hr ?_))
      go_ret
      rw [HU.out] at *
      have hpre : pre ++ [m] = uvB n := HP.out
      rw [← hpre]
      refine ⟨D, d, by simp, ?_, ?_⟩
      · simpa [u8s] using hD
      · exact bl_tr' (bl_al hbw _) hb5
    · have HU := Lib.hid (uvB_big hlt)
      have HP := Lib.hid hpre
      have hx : 0 ≤ (m : Int) % 128 := by omega
      have hx2 : (m : Int) % 128 < 128 := by omega
      clear hpre
      obtain ⟨D, d, w5, hr, hD, hb5⟩ := app_rd (ty := 29) elem_u8 (c' := 1) (World.ownsRow.alloc hown (.cells #[.int .u8 ((m : Int) % 128 + 128)] 5)) (B := some ⟨wr.heap.size, 0, none⟩) (m := 1) (ys := [.int .u8 ((m : Int) % 128 + 128)])
        ⟨rfl, fun _ => ⟨_, rfl, by simp, cell_one_new _ _ _⟩⟩ (by simp [Value.oneCell']) (by simp; omega) (by unfold maxLen; omega) (by omega)
      go_wp2_with (first | (at_builtin; refine list_append _ _ _ rfl rfl rfl rfl hr ?_))
      go_roundw
      case rel =>
        refine ⟨m / 128, pre ++ [m % 128 + 128], D, d, ?_, by omega, by simp, ?_, ?_, ?_⟩
        · go_num
        · have e : ((m : Int) % 128 + 128) = ((m % 128 + 128 : Nat) : Int) := by omega
          rw [e] at hD
          simpa [u8s] using hD
        · have hpre : pre ++ uvB m = uvB n := HP.out
          rw [← hpre, HU.out]; simp
        · exact bl_tr' (bl_al hbw _) hb5
      case measure => simp [intOf]; omega

set_option maxRecDepth 100000 in
set_option maxHeartbeats 400000 in
theorem binUv_any (n : Nat) (hn : n < 18446744073709551616) (rest : List Nat) (b off cap : Nat) (w : World) (hl : (uvB n ++ rest).length ≤ maxLen)
    (h : ∀ (j x : Nat), (uvB n ++ rest)[j]? = some x → w.cell? ⟨b, off + j, none⟩ = some (.int .u8 (x : Int))) :
    Calls Try.prog 67 #[.slice (some ⟨b, off, none⟩) (uvB n ++ rest).length cap] w fun e w' => e = .returned (.tuple #[.int .u64 n, .int .i64 (uvB n).length]) ∧ w = w' := by
  have hp := uvB_pos n
  have h10 := uvB_len64 hn
  unfold maxLen at hl
  obtain ⟨L, hL⟩ : ∃ L, (uvB n ++ rest).length = L := ⟨_, rfl⟩
  rw [hL] at hl ⊢
  have HL := Lib.hid hL
  clear hL
  go_enter Try.func67, Try.ntmps67
  go_wp2
  go_loop [4, 5, 6, 7, 10] (fun x s _ _ i => ∃ (k m y : Nat), i = .int .i64 k ∧ k + (uvB m).length = (uvB n).length ∧ x = .int .u64 y ∧ s = .int .u64 ((7 * k : Nat) : Int) ∧ y < 2 ^ (7 * k) ∧ y + m * 2 ^ (7 * k) = n ∧ (uvB n ++ rest).drop k = uvB m ++ rest) (fun _ _ _ _ i => (uvB n).length - (intOf i).toNat)
  case atStart => exact ⟨0, n, 0, rfl, by simp, rfl, rfl, by simp, by simp, rfl⟩
  case round =>
    obtain ⟨k, m, y, rfl, hk, rfl, rfl, hy, hm, hd⟩ := hrel
    have hpm := uvB_pos m
    have hLl : (uvB n).length ≤ L := by rw [← HL.out]; simp
    have hkL : k < L := by omega
    by_cases hlt : m < 128
    · have hbyte : (uvB n ++ rest)[k]? = some m := by
        have : ((uvB n ++ rest).drop k)[0]? = some m := by rw [hd, uvB_small hlt]; simp
        simpa [List.getElem?_drop] using this
      have hc := h k m hbyte
      have HM := Lib.hid hm
      have HD := Lib.hid hd
      have HK := Lib.hid hk
      clear hm hd hk h
      have hk9 : k = 0 ∨ k = 1 ∨ k = 2 ∨ k = 3 ∨ k = 4 ∨ k = 5 ∨ k = 6 ∨ k = 7 ∨ k = 8 ∨ k = 9 := by have := HK.out; omega
      rcases hk9 with rfl | rfl | rfl | rfl | rfl | rfl | rfl | rfl | rfl | rfl
      · simp only [Nat.reduceMul, Nat.reducePow] at hy
        simp only [Nat.add_zero] at hc
        have hm : y + m * 1 = n := by have := HM.out; simpa using this
        have hb : y + m * 1 < 18446744073709551616 := by omega
        have HV := Lib.hid (or_val (j := 0) (p := 1) (by decide) (by omega) hb)
        have HN := Lib.hid hm
        have hm1 : m ≤ 18446744073709551615 := by omega
        clear hm
        go_wp2
        go_ret2
        refine ⟨?_, rfl⟩
        have e1 := HV.out
        rw [HN.out] at e1
        have e2 : (uvB n).length = 1 := by have := HK.out; rw [uvB_small hlt] at this; simp at this; omega
        rw [e2]
        rw [show ((1 : Nat) : Int) = 1 from rfl, Int.mul_one] at e1
        simp [e1]
      · simp only [Nat.reduceMul, Nat.reducePow] at hy
        have hm : y + m * 128 = n := by have := HM.out; simpa using this
        have hb : y + m * 128 < 18446744073709551616 := by omega
        have HV := Lib.hid (or_val (j := 7) (p := 128) (by decide) (by omega) hb)
        have HN := Lib.hid hm
        have hm1 : m ≤ 144115188075855871 := by omega
        clear hm
        go_wp2
        go_ret2
        refine ⟨?_, rfl⟩
        have e1 := HV.out
        rw [HN.out] at e1
        have e2 : (uvB n).length = 2 := by have := HK.out; rw [uvB_small hlt] at this; simp at this; omega
        rw [e2]
        rw [show ((128 : Nat) : Int) = 128 from rfl] at e1
        simp [e1]
      · simp only [Nat.reduceMul, Nat.reducePow] at hy
        have hm : y + m * 16384 = n := by have := HM.out; simpa using this
        have hb : y + m * 16384 < 18446744073709551616 := by omega
        have HV := Lib.hid (or_val (j := 14) (p := 16384) (by decide) (by omega) hb)
        have HN := Lib.hid hm
        have hm1 : m ≤ 1125899906842623 := by omega
        clear hm
        go_wp2
        go_ret2
        refine ⟨?_, rfl⟩
        have e1 := HV.out
        rw [HN.out] at e1
        have e2 : (uvB n).length = 3 := by have := HK.out; rw [uvB_small hlt] at this; simp at this; omega
        rw [e2]
        rw [show ((16384 : Nat) : Int) = 16384 from rfl] at e1
        simp [e1]
      · simp only [Nat.reduceMul, Nat.reducePow] at hy
        have hm : y + m * 2097152 = n := by have := HM.out; simpa using this
        have hb : y + m * 2097152 < 18446744073709551616 := by omega
        have HV := Lib.hid (or_val (j := 21) (p := 2097152) (by decide) (by omega) hb)
        have HN := Lib.hid hm
        have hm1 : m ≤ 8796093022207 := by omega
        clear hm
        go_wp2
        go_ret2
        refine ⟨?_, rfl⟩
        have e1 := HV.out
        rw [HN.out] at e1
        have e2 : (uvB n).length = 4 := by have := HK.out; rw [uvB_small hlt] at this; simp at this; omega
        rw [e2]
        rw [show ((2097152 : Nat) : Int) = 2097152 from rfl] at e1
        simp [e1]
      · simp only [Nat.reduceMul, Nat.reducePow] at hy
        have hm : y + m * 268435456 = n := by have := HM.out; simpa using this
        have hb : y + m * 268435456 < 18446744073709551616 := by omega
        have HV := Lib.hid (or_val (j := 28) (p := 268435456) (by decide) (by omega) hb)
        have HN := Lib.hid hm
        have hm1 : m ≤ 68719476735 := by omega
        clear hm
        go_wp2
        go_ret2
        refine ⟨?_, rfl⟩
        have e1 := HV.out
        rw [HN.out] at e1
        have e2 : (uvB n).length = 5 := by have := HK.out; rw [uvB_small hlt] at this; simp at this; omega
        rw [e2]
        rw [show ((268435456 : Nat) : Int) = 268435456 from rfl] at e1
        simp [e1]
      · simp only [Nat.reduceMul, Nat.reducePow] at hy
        have hm : y + m * 34359738368 = n := by have := HM.out; simpa using this
        have hb : y + m * 34359738368 < 18446744073709551616 := by omega
        have HV := Lib.hid (or_val (j := 35) (p := 34359738368) (by decide) (by omega) hb)
        have HN := Lib.hid hm
        have hm1 : m ≤ 536870911 := by omega
        clear hm
        go_wp2
        go_ret2
        refine ⟨?_, rfl⟩
        have e1 := HV.out
        rw [HN.out] at e1
        have e2 : (uvB n).length = 6 := by have := HK.out; rw [uvB_small hlt] at this; simp at this; omega
        rw [e2]
        rw [show ((34359738368 : Nat) : Int) = 34359738368 from rfl] at e1
        simp [e1]
      · simp only [Nat.reduceMul, Nat.reducePow] at hy
        have hm : y + m * 4398046511104 = n := by have := HM.out; simpa using this
        have hb : y + m * 4398046511104 < 18446744073709551616 := by omega
        have HV := Lib.hid (or_val (j := 42) (p := 4398046511104) (by decide) (by omega) hb)
        have HN := Lib.hid hm
        have hm1 : m ≤ 4194303 := by omega
        clear hm
        go_wp2
        go_ret2
        refine ⟨?_, rfl⟩
        have e1 := HV.out
        rw [HN.out] at e1
        have e2 : (uvB n).length = 7 := by have := HK.out; rw [uvB_small hlt] at this; simp at this; omega
        rw [e2]
        rw [show ((4398046511104 : Nat) : Int) = 4398046511104 from rfl] at e1
        simp [e1]
      · simp only [Nat.reduceMul, Nat.reducePow] at hy
        have hm : y + m * 562949953421312 = n := by have := HM.out; simpa using this
        have hb : y + m * 562949953421312 < 18446744073709551616 := by omega
        have HV := Lib.hid (or_val (j := 49) (p := 562949953421312) (by decide) (by omega) hb)
        have HN := Lib.hid hm
        have hm1 : m ≤ 32767 := by omega
        clear hm
        go_wp2
        go_ret2
        refine ⟨?_, rfl⟩
        have e1 := HV.out
        rw [HN.out] at e1
        have e2 : (uvB n).length = 8 := by have := HK.out; rw [uvB_small hlt] at this; simp at this; omega
        rw [e2]
        rw [show ((562949953421312 : Nat) : Int) = 562949953421312 from rfl] at e1
        simp [e1]
      · simp only [Nat.reduceMul, Nat.reducePow] at hy
        have hm : y + m * 72057594037927936 = n := by have := HM.out; simpa using this
        have hb : y + m * 72057594037927936 < 18446744073709551616 := by omega
        have HV := Lib.hid (or_val (j := 56) (p := 72057594037927936) (by decide) (by omega) hb)
        have HN := Lib.hid hm
        have hm1 : m ≤ 255 := by omega
        clear hm
        go_wp2
        go_ret2
        refine ⟨?_, rfl⟩
        have e1 := HV.out
        rw [HN.out] at e1
        have e2 : (uvB n).length = 9 := by have := HK.out; rw [uvB_small hlt] at this; simp at this; omega
        rw [e2]
        rw [show ((72057594037927936 : Nat) : Int) = 72057594037927936 from rfl] at e1
        simp [e1]
      · simp only [Nat.reduceMul, Nat.reducePow] at hy
        have hm : y + m * 9223372036854775808 = n := by have := HM.out; simpa using this
        have hb : y + m * 9223372036854775808 < 18446744073709551616 := by omega
        have HV := Lib.hid (or_val (j := 63) (p := 9223372036854775808) (by decide) (by omega) hb)
        have HN := Lib.hid hm
        have hm1 : m ≤ 1 := by omega
        clear hm
        go_wp2
        go_ret2
        refine ⟨?_, rfl⟩
        have e1 := HV.out
        rw [HN.out] at e1
        have e2 : (uvB n).length = 10 := by have := HK.out; rw [uvB_small hlt] at this; simp at this; omega
        rw [e2]
        rw [show ((9223372036854775808 : Nat) : Int) = 9223372036854775808 from rfl] at e1
        simp [e1]
    · have hbyte : (uvB n ++ rest)[k]? = some (m % 128 + 128) := by
        have : ((uvB n ++ rest).drop k)[0]? = some (m % 128 + 128) := by rw [hd, uvB_big hlt]; simp
        simpa [List.getElem?_drop] using this
      have hc := h k (m % 128 + 128) hbyte
      have hand := and_127 m
      have hd1 : m % 128 < 128 := by omega
      have hc1 : m % 128 + 128 < 256 := by omega
      have hc0 : 128 ≤ m % 128 + 128 := by omega
      have HDm : Hid (m = m / 128 * 128 + m % 128) := by show m = _; omega
      generalize m % 128 + 128 = cc at *
      generalize m % 128 = dd at *
      have HM := Lib.hid hm
      have HD := Lib.hid hd
      have HK := Lib.hid hk
      have hlen : (uvB m).length = (uvB (m / 128)).length + 1 := by rw [uvB_big hlt]; simp
      have hp2 := uvB_pos (m / 128)
      clear hm hd hk h hbyte
      have hk8 : k = 0 ∨ k = 1 ∨ k = 2 ∨ k = 3 ∨ k = 4 ∨ k = 5 ∨ k = 6 ∨ k = 7 ∨ k = 8 := by have := HK.out; omega
      rcases hk8 with rfl | rfl | rfl | rfl | rfl | rfl | rfl | rfl | rfl
      · simp only [Nat.reduceMul, Nat.reducePow] at hy
        simp only [Nat.add_zero] at hc
        have hb : y + dd * 1 < 18446744073709551616 := by omega
        have HV := Lib.hid (or_val (j := 0) (p := 1) (by decide) (by omega) hb)
        have hb2 : dd * 1 ≤ 127 := by omega
        go_wp2
        go_round
        case rel =>
          refine ⟨1, m / 128, y + dd * 1, rfl, by have := HK.out; omega, ?_, rfl, by simp only [Nat.reduceMul, Nat.reducePow]; omega, ?_, ?_⟩
          · have e1 := HV.out
            rw [show ((1 : Nat) : Int) = 1 from rfl, Int.mul_one] at e1
            simp [e1]
          · have e1 := HM.out
            have e2 := HDm.out
            simp only [Nat.reduceMul, Nat.reducePow] at e1 ⊢
            omega
          · have e1 := HD.out
            have e2 := uvB_big hlt
            rw [e2] at e1
            have := congrArg (List.drop 1) e1
            simpa [List.drop_drop] using this
        case measure => simp [intOf]; have := HK.out; omega
      · simp only [Nat.reduceMul, Nat.reducePow] at hy
        have hb : y + dd * 128 < 18446744073709551616 := by omega
        have HV := Lib.hid (or_val (j := 7) (p := 128) (by decide) (by omega) hb)
        have hb2 : dd * 128 ≤ 16256 := by omega
        go_wp2
        go_round
        case rel =>
          refine ⟨2, m / 128, y + dd * 128, rfl, by have := HK.out; omega, ?_, rfl, by simp only [Nat.reduceMul, Nat.reducePow]; omega, ?_, ?_⟩
          · have e1 := HV.out
            rw [show ((128 : Nat) : Int) = 128 from rfl] at e1
            simp [e1]
          · have e1 := HM.out
            have e2 := HDm.out
            simp only [Nat.reduceMul, Nat.reducePow] at e1 ⊢
            omega
          · have e1 := HD.out
            have e2 := uvB_big hlt
            rw [e2] at e1
            have := congrArg (List.drop 1) e1
            simpa [List.drop_drop] using this
        case measure => simp [intOf]; have := HK.out; omega
      · simp only [Nat.reduceMul, Nat.reducePow] at hy
        have hb : y + dd * 16384 < 18446744073709551616 := by omega
        have HV := Lib.hid (or_val (j := 14) (p := 16384) (by decide) (by omega) hb)
        have hb2 : dd * 16384 ≤ 2080768 := by omega
        go_wp2
        go_round
        case rel =>
          refine ⟨3, m / 128, y + dd * 16384, rfl, by have := HK.out; omega, ?_, rfl, by simp only [Nat.reduceMul, Nat.reducePow]; omega, ?_, ?_⟩
          · have e1 := HV.out
            rw [show ((16384 : Nat) : Int) = 16384 from rfl] at e1
            simp [e1]
          · have e1 := HM.out
            have e2 := HDm.out
            simp only [Nat.reduceMul, Nat.reducePow] at e1 ⊢
            omega
          · have e1 := HD.out
            have e2 := uvB_big hlt
            rw [e2] at e1
            have := congrArg (List.drop 1) e1
            simpa [List.drop_drop] using this
        case measure => simp [intOf]; have := HK.out; omega
      · simp only [Nat.reduceMul, Nat.reducePow] at hy
        have hb : y + dd * 2097152 < 18446744073709551616 := by omega
        have HV := Lib.hid (or_val (j := 21) (p := 2097152) (by decide) (by omega) hb)
        have hb2 : dd * 2097152 ≤ 266338304 := by omega
        go_wp2
        go_round
        case rel =>
          refine ⟨4, m / 128, y + dd * 2097152, rfl, by have := HK.out; omega, ?_, rfl, by simp only [Nat.reduceMul, Nat.reducePow]; omega, ?_, ?_⟩
          · have e1 := HV.out
            rw [show ((2097152 : Nat) : Int) = 2097152 from rfl] at e1
            simp [e1]
          · have e1 := HM.out
            have e2 := HDm.out
            simp only [Nat.reduceMul, Nat.reducePow] at e1 ⊢
            omega
          · have e1 := HD.out
            have e2 := uvB_big hlt
            rw [e2] at e1
            have := congrArg (List.drop 1) e1
            simpa [List.drop_drop] using this
        case measure => simp [intOf]; have := HK.out; omega
      · simp only [Nat.reduceMul, Nat.reducePow] at hy
        have hb : y + dd * 268435456 < 18446744073709551616 := by omega
        have HV := Lib.hid (or_val (j := 28) (p := 268435456) (by decide) (by omega) hb)
        have hb2 : dd * 268435456 ≤ 34091302912 := by omega
        go_wp2
        go_round
        case rel =>
          refine ⟨5, m / 128, y + dd * 268435456, rfl, by have := HK.out; omega, ?_, rfl, by simp only [Nat.reduceMul, Nat.reducePow]; omega, ?_, ?_⟩
          · have e1 := HV.out
            rw [show ((268435456 : Nat) : Int) = 268435456 from rfl] at e1
            simp [e1]
          · have e1 := HM.out
            have e2 := HDm.out
            simp only [Nat.reduceMul, Nat.reducePow] at e1 ⊢
            omega
          · have e1 := HD.out
            have e2 := uvB_big hlt
            rw [e2] at e1
            have := congrArg (List.drop 1) e1
            simpa [List.drop_drop] using this
        case measure => simp [intOf]; have := HK.out; omega
      · simp only [Nat.reduceMul, Nat.reducePow] at hy
        have hb : y + dd * 34359738368 < 18446744073709551616 := by omega
        have HV := Lib.hid (or_val (j := 35) (p := 34359738368) (by decide) (by omega) hb)
        have hb2 : dd * 34359738368 ≤ 4363686772736 := by omega
        go_wp2
        go_round
        case rel =>
          refine ⟨6, m / 128, y + dd * 34359738368, rfl, by have := HK.out; omega, ?_, rfl, by simp only [Nat.reduceMul, Nat.reducePow]; omega, ?_, ?_⟩
          · have e1 := HV.out
            rw [show ((34359738368 : Nat) : Int) = 34359738368 from rfl] at e1
            simp [e1]
          · have e1 := HM.out
            have e2 := HDm.out
            simp only [Nat.reduceMul, Nat.reducePow] at e1 ⊢
            omega
          · have e1 := HD.out
            have e2 := uvB_big hlt
            rw [e2] at e1
            have := congrArg (List.drop 1) e1
            simpa [List.drop_drop] using this
        case measure => simp [intOf]; have := HK.out; omega
      · simp only [Nat.reduceMul, Nat.reducePow] at hy
        have hb : y + dd * 4398046511104 < 18446744073709551616 := by omega
        have HV := Lib.hid (or_val (j := 42) (p := 4398046511104) (by decide) (by omega) hb)
        have hb2 : dd * 4398046511104 ≤ 558551906910208 := by omega
        go_wp2
        go_round
        case rel =>
          refine ⟨7, m / 128, y + dd * 4398046511104, rfl, by have := HK.out; omega, ?_, rfl, by simp only [Nat.reduceMul, Nat.reducePow]; omega, ?_, ?_⟩
          · have e1 := HV.out
            rw [show ((4398046511104 : Nat) : Int) = 4398046511104 from rfl] at e1
            simp [e1]
          · have e1 := HM.out
            have e2 := HDm.out
            simp only [Nat.reduceMul, Nat.reducePow] at e1 ⊢
            omega
          · have e1 := HD.out
            have e2 := uvB_big hlt
            rw [e2] at e1
            have := congrArg (List.drop 1) e1
            simpa [List.drop_drop] using this
        case measure => simp [intOf]; have := HK.out; omega
      · simp only [Nat.reduceMul, Nat.reducePow] at hy
        have hb : y + dd * 562949953421312 < 18446744073709551616 := by omega
        have HV := Lib.hid (or_val (j := 49) (p := 562949953421312) (by decide) (by omega) hb)
        have hb2 : dd * 562949953421312 ≤ 71494644084506624 := by omega
        go_wp2
        go_round
        case rel =>
          refine ⟨8, m / 128, y + dd * 562949953421312, rfl, by have := HK.out; omega, ?_, rfl, by simp only [Nat.reduceMul, Nat.reducePow]; omega, ?_, ?_⟩
          · have e1 := HV.out
            rw [show ((562949953421312 : Nat) : Int) = 562949953421312 from rfl] at e1
            simp [e1]
          · have e1 := HM.out
            have e2 := HDm.out
            simp only [Nat.reduceMul, Nat.reducePow] at e1 ⊢
            omega
          · have e1 := HD.out
            have e2 := uvB_big hlt
            rw [e2] at e1
            have := congrArg (List.drop 1) e1
            simpa [List.drop_drop] using this
        case measure => simp [intOf]; have := HK.out; omega
      · simp only [Nat.reduceMul, Nat.reducePow] at hy
        have hb : y + dd * 72057594037927936 < 18446744073709551616 := by omega
        have HV := Lib.hid (or_val (j := 56) (p := 72057594037927936) (by decide) (by omega) hb)
        have hb2 : dd * 72057594037927936 ≤ 9151314442816847872 := by omega
        go_wp2
        go_round
        case rel =>
          refine ⟨9, m / 128, y + dd * 72057594037927936, rfl, by have := HK.out; omega, ?_, rfl, by simp only [Nat.reduceMul, Nat.reducePow]; omega, ?_, ?_⟩
          · have e1 := HV.out
            rw [show ((72057594037927936 : Nat) : Int) = 72057594037927936 from rfl] at e1
            simp [e1]
          · have e1 := HM.out
            have e2 := HDm.out
            simp only [Nat.reduceMul, Nat.reducePow] at e1 ⊢
            omega
          · have e1 := HD.out
            have e2 := uvB_big hlt
            rw [e2] at e1
            have := congrArg (List.drop 1) e1
            simpa [List.drop_drop] using this
        case measure => simp [intOf]; have := HK.out; omega
end Go.Proofs.Ytomhegagdpaieaa
