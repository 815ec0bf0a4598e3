/- Texts of this claim, joined: Y57 XMakeNum Y10D Y13D XText XDraw XDigs Y3D Y4D Y5D Y6D Y7D Y1D Y2D. Of each, what the claim uses. -/
import Derived.Test.YtjkpelaeelihhaaGreatDoorRRKad
import Derived.Test.YtjkpelaeelihhaaGreatDoorRRKaq
import Derived.Test.YtjkpelaeelihhaaGreatDoorRRKas
import Derived.Lib.Hide
import Derived.Test.YtjkpelaeelihhaaGreatDoorRRKar
import Derived.Test.YtjkpelaeelihhaaGreatDoorRRKac
import Derived.Lib.ItoaNum
section
namespace Go.Proofs.YtjkpelaeelihhaaGreatDoorRR.Y
open Go.RowKit Go.Proofs.YtjkpelaeelihhaaGreatDoorRRW.PrintWords Go.Proofs.YtjkpelaeelihhaaGreatDoorRRW.PrintLast Go.Proofs.YtjkpelaeelihhaaGreatDoorRRW.PrintMore
attribute [local go_sem] max2_int min2_int max_two min_two max_three min_three max_four min_four   -- for this text's walks alone
set_option linter.unusedVariables false
set_option linter.unusedSimpArgs false
set_option maxHeartbeats 8000000 in
set_option maxRecDepth 100000 in
theorem xansi_SetCursorStyle.calls (a0 : Int) (r : ByteArray) (w : World) (hT : XTab w) (h : xansi_SetCursorStyle.f a0 = some r) :
    Calls Tryz.prog 51 #[.int .i64 a0] w fun e w' => e = .returned (.string r) ∧ Below w.heap.size w w' := by
  have HT := Aside0.mk hT
  clear hT
  have HB := Aside0.mk (Below.refl w.heap.size w)
  have H : (if a0 < 0 then ((strconv_Itoa.f 0).bind fun t329 => (if 2 + t329.size ≤ 9223372036854775807 then (if 2 + t329.size + 2 ≤ 9223372036854775807 then (some (((⟨#[27, 91]⟩ : ByteArray) ++ t329) ++ (⟨#[32, 113]⟩ : ByteArray))) else (none)) else (none))) else ((strconv_Itoa.f a0).bind fun t330 => (if 2 + t330.size ≤ 9223372036854775807 then (if 2 + t330.size + 2 ≤ 9223372036854775807 then (some (((⟨#[27, 91]⟩ : ByteArray) ++ t330) ++ (⟨#[32, 113]⟩ : ByteArray))) else (none)) else (none)))) = some r := h
  clear h
  by_cases c2 : a0 < 0
  · rw [if_pos c2] at H
    have c2b0 : decide (a0 < 0) = true := decide_eq_true c2
    clear c2
    replace H := Option.bind_eq_some_iff.mp H
    obtain ⟨t329, A30, H⟩ := H
    replace H : (if 2 + t329.size ≤ 9223372036854775807 then (if 2 + t329.size + 2 ≤ 9223372036854775807 then (some (((⟨#[27, 91]⟩ : ByteArray) ++ t329) ++ (⟨#[32, 113]⟩ : ByteArray))) else (none)) else (none)) = some r := H
    have A3 := Aside0.mk A30
    clear A30
    by_cases c4 : 2 + t329.size ≤ 9223372036854775807
    · rw [if_pos c4] at H
      have c4b0 := eq_true c4
      have c4b1 : decide (2 + t329.size ≤ 9223372036854775807) = true := decide_eq_true c4
      try have c4b2 : (9223372036854775807 < 2 + t329.size) = False := eq_false (Nat.not_lt.2 c4)
      by_cases c5 : 2 + t329.size + 2 ≤ 9223372036854775807
      · rw [if_pos c5] at H
        have c5b0 := eq_true c5
        have c5b1 : decide (2 + t329.size + 2 ≤ 9223372036854775807) = true := decide_eq_true c5
        try have c5b2 : (9223372036854775807 < 2 + t329.size + 2) = False := eq_false (Nat.not_lt.2 c5)
        obtain rfl := Option.some.inj H
        go_enter Tryz.func51, Tryz.ntmps51
        go_wp2_with (first | ((with_reducible refine gate_callee (f := 101) rfl ?_); refine goesL_ (some 6) rfl rfl Tryz.func101 (by kernel_rfl) rfl #[.int .i64 0] rfl (by (try simp only [List.map_toArray, List.map_cons, List.map_nil]); first | done | rfl | (simp only [List.length_drop, List.length_take]; rfl)) ?_; (with_reducible refine (strconv_Itoa.calls 0 t329 _ ?side1 A3.out).mono ?_); (case side1 => exact XTab.below HT.out (by repeat (first | (with_reducible first | exact HB.out | apply below_alloc | apply pw_below_drewN | apply below_drew1) | exact HB.out))); rintro e w6 ⟨rfl, hb⟩; refine ⟨_, rfl, ?_⟩; have n0_ := Aside0.mk (below_step (by repeat (first | (with_reducible first | exact HB.out | apply below_alloc | apply pw_below_drewN | apply below_drew1) | exact HB.out)) hb); clear HB; have HB := n0_; clear n0_; (try clear hb); (try clear hb2); (try clear hk); (try clear hi)))
        go_ret
        exact ⟨by first | rfl | (simp [errW_none, errW_some] <;> rfl) | (simp [*, errW_none, errW_some] <;> rfl), by repeat (first | (with_reducible first | exact HB.out | apply below_alloc | apply pw_below_drewN | apply below_drew1) | exact HB.out)⟩
      · rw [if_neg c5] at H
        exact absurd H (by simp)
    · rw [if_neg c4] at H
      exact absurd H (by simp)
  · rw [if_neg c2] at H
    have c2b0 : decide (a0 < 0) = false := decide_eq_false c2
    clear c2
    replace H := Option.bind_eq_some_iff.mp H
    obtain ⟨t330, A70, H⟩ := H
    replace H : (if 2 + t330.size ≤ 9223372036854775807 then (if 2 + t330.size + 2 ≤ 9223372036854775807 then (some (((⟨#[27, 91]⟩ : ByteArray) ++ t330) ++ (⟨#[32, 113]⟩ : ByteArray))) else (none)) else (none)) = some r := H
    have A7 := Aside0.mk A70
    clear A70
    by_cases c8 : 2 + t330.size ≤ 9223372036854775807
    · rw [if_pos c8] at H
      have c8b0 := eq_true c8
      have c8b1 : decide (2 + t330.size ≤ 9223372036854775807) = true := decide_eq_true c8
      try have c8b2 : (9223372036854775807 < 2 + t330.size) = False := eq_false (Nat.not_lt.2 c8)
      by_cases c9 : 2 + t330.size + 2 ≤ 9223372036854775807
      · rw [if_pos c9] at H
        have c9b0 := eq_true c9
        have c9b1 : decide (2 + t330.size + 2 ≤ 9223372036854775807) = true := decide_eq_true c9
        try have c9b2 : (9223372036854775807 < 2 + t330.size + 2) = False := eq_false (Nat.not_lt.2 c9)
        obtain rfl := Option.some.inj H
        go_enter Tryz.func51, Tryz.ntmps51
        go_wp2_with (first | ((with_reducible refine gate_callee (f := 101) rfl ?_); refine goesL_ (some 6) rfl rfl Tryz.func101 (by kernel_rfl) rfl #[.int .i64 a0] rfl (by (try simp only [List.map_toArray, List.map_cons, List.map_nil]); first | done | rfl | (simp only [List.length_drop, List.length_take]; rfl)) ?_; (with_reducible refine (strconv_Itoa.calls a0 t330 _ ?side1 A7.out).mono ?_); (case side1 => exact XTab.below HT.out (by repeat (first | (with_reducible first | exact HB.out | apply below_alloc | apply pw_below_drewN | apply below_drew1) | exact HB.out))); rintro e w10 ⟨rfl, hb⟩; refine ⟨_, rfl, ?_⟩; have n0_ := Aside0.mk (below_step (by repeat (first | (with_reducible first | exact HB.out | apply below_alloc | apply pw_below_drewN | apply below_drew1) | exact HB.out)) hb); clear HB; have HB := n0_; clear n0_; (try clear hb); (try clear hb2); (try clear hk); (try clear hi)))
        go_ret
        exact ⟨by first | rfl | (simp [errW_none, errW_some] <;> rfl) | (simp [*, errW_none, errW_some] <;> rfl), by repeat (first | (with_reducible first | exact HB.out | apply below_alloc | apply pw_below_drewN | apply below_drew1) | exact HB.out)⟩
      · rw [if_neg c9] at H
        exact absurd H (by simp)
    · rw [if_neg c8] at H
      exact absurd H (by simp)
end Go.Proofs.YtjkpelaeelihhaaGreatDoorRR.Y
end
section
namespace Go.Proofs.YtjkpelaeelihhaaGreatDoorRR.Y
open Go.RowKit Go.Proofs.YtjkpelaeelihhaaGreatDoorRRW.PrintWords Go.Proofs.YtjkpelaeelihhaaGreatDoorRRW.PrintLast Go.Proofs.YtjkpelaeelihhaaGreatDoorRRW.PrintMore
def impl_MakeNumber.f (a0 : Int) (a1 : Int) : Option (ByteArray) :=
  if a0 = 0 then xansi_CursorUp.f a1 else
  if a0 = 1 then xansi_CursorDown.f a1 else
  if a0 = 2 then xansi_CursorForward.f a1 else
  if a0 = 3 then xansi_CursorBackward.f a1 else
  if a0 = 4 then xansi_CursorNextLine.f a1 else
  if a0 = 5 then xansi_CursorPreviousLine.f a1 else
  if a0 = 6 then xansi_CursorHorizontalAbsolute.f a1 else
  if a0 = 9 then xansi_EraseCharacter.f a1 else
  if a0 = 10 then xansi_EraseDisplay.f a1 else
  if a0 = 11 then xansi_EraseLine.f a1 else
  if a0 = 12 then xansi_ScrollUp.f a1 else
  if a0 = 13 then xansi_ScrollDown.f a1 else
  if a0 = 14 then xansi_InsertLine.f a1 else
  if a0 = 15 then xansi_DeleteLine.f a1 else
  if a0 = 16 then xansi_InsertCharacter.f a1 else
  if a0 = 17 then xansi_DeleteCharacter.f a1 else
  if a0 = 18 then xansi_VerticalPositionAbsolute.f a1 else
  if a0 = 19 then xansi_VerticalPositionRelative.f a1 else
  if a0 = 20 then xansi_HorizontalPositionAbsolute.f a1 else
  if a0 = 21 then xansi_HorizontalPositionRelative.f a1 else
  if a0 = 22 then xansi_RepeatPreviousCharacter.f a1 else
  if a0 = 23 then xansi_SetCursorStyle.f a1 else
  none
theorem impl_MakeNumber.calls (a0 : Int) (a1 : Int) (r : ByteArray) (w : World) (hT : XTab w) (h : impl_MakeNumber.f a0 a1 = some r) :
    Calls Tryz.prog 14 #[.int .i64 a0, .int .i64 a1] w fun e w' => e = .returned (.string r) ∧ Below w.heap.size w w' := by
  unfold impl_MakeNumber.f at h
  by_cases c0 : a0 = 0
  · subst c0
    have H := Lib.hid (xansi_CursorUp.calls a1 r w hT (by simpa using h))
    clear h
    go_enter Tryz.func14, Tryz.ntmps14
    go_wp2_with fail
    refine H.out.mono ?_
    rintro e w' ⟨rfl, hb⟩
    go_wp2_with fail
    go_ret
    exact ⟨rfl, hb⟩
  rw [if_neg c0] at h
  by_cases c1 : a0 = 1
  · subst c1
    have H := Lib.hid (xansi_CursorDown.calls a1 r w hT (by simpa using h))
    clear h
    go_enter Tryz.func14, Tryz.ntmps14
    go_wp2_with fail
    refine H.out.mono ?_
    rintro e w' ⟨rfl, hb⟩
    go_wp2_with fail
    go_ret
    exact ⟨rfl, hb⟩
  rw [if_neg c1] at h
  by_cases c2 : a0 = 2
  · subst c2
    have H := Lib.hid (xansi_CursorForward.calls a1 r w hT (by simpa using h))
    clear h
    go_enter Tryz.func14, Tryz.ntmps14
    go_wp2_with fail
    refine H.out.mono ?_
    rintro e w' ⟨rfl, hb⟩
    go_wp2_with fail
    go_ret
    exact ⟨rfl, hb⟩
  rw [if_neg c2] at h
  by_cases c3 : a0 = 3
  · subst c3
    have H := Lib.hid (xansi_CursorBackward.calls a1 r w hT (by simpa using h))
    clear h
    go_enter Tryz.func14, Tryz.ntmps14
    go_wp2_with fail
    refine H.out.mono ?_
    rintro e w' ⟨rfl, hb⟩
    go_wp2_with fail
    go_ret
    exact ⟨rfl, hb⟩
  rw [if_neg c3] at h
  by_cases c4 : a0 = 4
  · subst c4
    have H := Lib.hid (xansi_CursorNextLine.calls a1 r w hT (by simpa using h))
    clear h
    go_enter Tryz.func14, Tryz.ntmps14
    go_wp2_with fail
    refine H.out.mono ?_
    rintro e w' ⟨rfl, hb⟩
    go_wp2_with fail
    go_ret
    exact ⟨rfl, hb⟩
  rw [if_neg c4] at h
  by_cases c5 : a0 = 5
  · subst c5
    have H := Lib.hid (xansi_CursorPreviousLine.calls a1 r w hT (by simpa using h))
    clear h
    go_enter Tryz.func14, Tryz.ntmps14
    go_wp2_with fail
    refine H.out.mono ?_
    rintro e w' ⟨rfl, hb⟩
    go_wp2_with fail
    go_ret
    exact ⟨rfl, hb⟩
  rw [if_neg c5] at h
  by_cases c6 : a0 = 6
  · subst c6
    have H := Lib.hid (xansi_CursorHorizontalAbsolute.calls a1 r w hT (by simpa using h))
    clear h
    go_enter Tryz.func14, Tryz.ntmps14
    go_wp2_with fail
    refine H.out.mono ?_
    rintro e w' ⟨rfl, hb⟩
    go_wp2_with fail
    go_ret
    exact ⟨rfl, hb⟩
  rw [if_neg c6] at h
  by_cases c9 : a0 = 9
  · subst c9
    have H := Lib.hid (xansi_EraseCharacter.calls a1 r w hT (by simpa using h))
    clear h
    go_enter Tryz.func14, Tryz.ntmps14
    go_wp2_with fail
    refine H.out.mono ?_
    rintro e w' ⟨rfl, hb⟩
    go_wp2_with fail
    go_ret
    exact ⟨rfl, hb⟩
  rw [if_neg c9] at h
  by_cases c10 : a0 = 10
  · subst c10
    have H := Lib.hid (xansi_EraseDisplay.calls a1 r w hT (by simpa using h))
    clear h
    go_enter Tryz.func14, Tryz.ntmps14
    go_wp2_with fail
    refine H.out.mono ?_
    rintro e w' ⟨rfl, hb⟩
    go_wp2_with fail
    go_ret
    exact ⟨rfl, hb⟩
  rw [if_neg c10] at h
  by_cases c11 : a0 = 11
  · subst c11
    have H := Lib.hid (xansi_EraseLine.calls a1 r w hT (by simpa using h))
    clear h
    go_enter Tryz.func14, Tryz.ntmps14
    go_wp2_with fail
    refine H.out.mono ?_
    rintro e w' ⟨rfl, hb⟩
    go_wp2_with fail
    go_ret
    exact ⟨rfl, hb⟩
  rw [if_neg c11] at h
  by_cases c12 : a0 = 12
  · subst c12
    have H := Lib.hid (xansi_ScrollUp.calls a1 r w hT (by simpa using h))
    clear h
    go_enter Tryz.func14, Tryz.ntmps14
    go_wp2_with fail
    refine H.out.mono ?_
    rintro e w' ⟨rfl, hb⟩
    go_wp2_with fail
    go_ret
    exact ⟨rfl, hb⟩
  rw [if_neg c12] at h
  by_cases c13 : a0 = 13
  · subst c13
    have H := Lib.hid (xansi_ScrollDown.calls a1 r w hT (by simpa using h))
    clear h
    go_enter Tryz.func14, Tryz.ntmps14
    go_wp2_with fail
    refine H.out.mono ?_
    rintro e w' ⟨rfl, hb⟩
    go_wp2_with fail
    go_ret
    exact ⟨rfl, hb⟩
  rw [if_neg c13] at h
  by_cases c14 : a0 = 14
  · subst c14
    have H := Lib.hid (xansi_InsertLine.calls a1 r w hT (by simpa using h))
    clear h
    go_enter Tryz.func14, Tryz.ntmps14
    go_wp2_with fail
    refine H.out.mono ?_
    rintro e w' ⟨rfl, hb⟩
    go_wp2_with fail
    go_ret
    exact ⟨rfl, hb⟩
  rw [if_neg c14] at h
  by_cases c15 : a0 = 15
  · subst c15
    have H := Lib.hid (xansi_DeleteLine.calls a1 r w hT (by simpa using h))
    clear h
    go_enter Tryz.func14, Tryz.ntmps14
    go_wp2_with fail
    refine H.out.mono ?_
    rintro e w' ⟨rfl, hb⟩
    go_wp2_with fail
    go_ret
    exact ⟨rfl, hb⟩
  rw [if_neg c15] at h
  by_cases c16 : a0 = 16
  · subst c16
    have H := Lib.hid (xansi_InsertCharacter.calls a1 r w hT (by simpa using h))
    clear h
    go_enter Tryz.func14, Tryz.ntmps14
    go_wp2_with fail
    refine H.out.mono ?_
    rintro e w' ⟨rfl, hb⟩
    go_wp2_with fail
    go_ret
    exact ⟨rfl, hb⟩
  rw [if_neg c16] at h
  by_cases c17 : a0 = 17
  · subst c17
    have H := Lib.hid (xansi_DeleteCharacter.calls a1 r w hT (by simpa using h))
    clear h
    go_enter Tryz.func14, Tryz.ntmps14
    go_wp2_with fail
    refine H.out.mono ?_
    rintro e w' ⟨rfl, hb⟩
    go_wp2_with fail
    go_ret
    exact ⟨rfl, hb⟩
  rw [if_neg c17] at h
  by_cases c18 : a0 = 18
  · subst c18
    have H := Lib.hid (xansi_VerticalPositionAbsolute.calls a1 r w hT (by simpa using h))
    clear h
    go_enter Tryz.func14, Tryz.ntmps14
    go_wp2_with fail
    refine H.out.mono ?_
    rintro e w' ⟨rfl, hb⟩
    go_wp2_with fail
    go_ret
    exact ⟨rfl, hb⟩
  rw [if_neg c18] at h
  by_cases c19 : a0 = 19
  · subst c19
    have H := Lib.hid (xansi_VerticalPositionRelative.calls a1 r w hT (by simpa using h))
    clear h
    go_enter Tryz.func14, Tryz.ntmps14
    go_wp2_with fail
    refine H.out.mono ?_
    rintro e w' ⟨rfl, hb⟩
    go_wp2_with fail
    go_ret
    exact ⟨rfl, hb⟩
  rw [if_neg c19] at h
  by_cases c20 : a0 = 20
  · subst c20
    have H := Lib.hid (xansi_HorizontalPositionAbsolute.calls a1 r w hT (by simpa using h))
    clear h
    go_enter Tryz.func14, Tryz.ntmps14
    go_wp2_with fail
    refine H.out.mono ?_
    rintro e w' ⟨rfl, hb⟩
    go_wp2_with fail
    go_ret
    exact ⟨rfl, hb⟩
  rw [if_neg c20] at h
  by_cases c21 : a0 = 21
  · subst c21
    have H := Lib.hid (xansi_HorizontalPositionRelative.calls a1 r w hT (by simpa using h))
    clear h
    go_enter Tryz.func14, Tryz.ntmps14
    go_wp2_with fail
    refine H.out.mono ?_
    rintro e w' ⟨rfl, hb⟩
    go_wp2_with fail
    go_ret
    exact ⟨rfl, hb⟩
  rw [if_neg c21] at h
  by_cases c22 : a0 = 22
  · subst c22
    have H := Lib.hid (xansi_RepeatPreviousCharacter.calls a1 r w hT (by simpa using h))
    clear h
    go_enter Tryz.func14, Tryz.ntmps14
    go_wp2_with fail
    refine H.out.mono ?_
    rintro e w' ⟨rfl, hb⟩
    go_wp2_with fail
    go_ret
    exact ⟨rfl, hb⟩
  rw [if_neg c22] at h
  by_cases c23 : a0 = 23
  · subst c23
    have H := Lib.hid (xansi_SetCursorStyle.calls a1 r w hT (by simpa using h))
    clear h
    go_enter Tryz.func14, Tryz.ntmps14
    go_wp2_with fail
    refine H.out.mono ?_
    rintro e w' ⟨rfl, hb⟩
    go_wp2_with fail
    go_ret
    exact ⟨rfl, hb⟩
  rw [if_neg c23] at h
  cases h
end Go.Proofs.YtjkpelaeelihhaaGreatDoorRR.Y
end
section
namespace Go.Proofs.YtjkpelaeelihhaaGreatDoorRR.Y
open Go.RowKit Go.Proofs.YtjkpelaeelihhaaGreatDoorRRW.PrintWords Go.Proofs.YtjkpelaeelihhaaGreatDoorRRW.PrintLast Go.Proofs.YtjkpelaeelihhaaGreatDoorRRW.PrintMore
attribute [local go_sem] max2_int min2_int max_two min_two max_three min_three max_four min_four   -- for this text's walks alone
set_option linter.unusedVariables false
set_option linter.unusedSimpArgs false
/-! ### laws_drawAwake: function 8 -/
def laws_drawAwake.f  : Option (Bool) := (impl_MakeNumber.f 0 3).bind fun t114 => ((gosem_conv.f t114).bind fun t115 => ((impl_Feed.f 32 4096 t115).bind fun t118 => (if (t118.length : Int) = 1 then (if 0 < (t118.length : Int) then (if ((rd_T48 t118 0).f0) = 2 then (some (((rd_T48 t118 0).f3) == 65)) else (some false)) else (none)) else (some false))))
end Go.Proofs.YtjkpelaeelihhaaGreatDoorRR.Y
end
section
namespace Go.Proofs.YtjkpelaeelihhaaGreatDoorRR.Y
open Go.RowKit Go.Proofs.YtjkpelaeelihhaaGreatDoorRRW.PrintWords Go.Proofs.YtjkpelaeelihhaaGreatDoorRRW.PrintLast Go.Proofs.YtjkpelaeelihhaaGreatDoorRRW.PrintMore
attribute [local go_sem] max2_int min2_int max_two min_two max_three min_three max_four min_four   -- for this text's walks alone
set_option linter.unusedVariables false
set_option linter.unusedSimpArgs false
/-! ### laws_drawEvents: function 10 -/
def laws_drawEvents.l0 : Nat → List (S49) → List (S48) → Int → Int → Option ((List (S49)))
  | 0, _, _, _, _ => none
  | k + 1, x3, x6, x7, x8 => if x8 < x7 then (if 0 ≤ x8 then (if x8 < (x6.length : Int) then (if x3.length < 1759218604441 then (laws_drawEvents.l0 k (x3 ++ [(⟨(rd_T48 x6 x8).f0, (rd_T48 x6 x8).f1, (rd_T48 x6 x8).f2, (rd_T48 x6 x8).f3, (rd_T48 x6 x8).f4, (rd_T48 x6 x8).f5⟩ : S49)]) x6 x7 (wrap64 (x8 + 1))) else (none)) else (none)) else (none)) else (some x3)
def laws_drawEvents.f (k : Nat) (l0 : List (S48)) : Option ((List (S49))) := laws_drawEvents.l0 k ([] : List (S49)) l0 (l0.length : Int) 0
theorem laws_drawEvents.mono_l : ∀ k, (∀ y0 y1 y2 y3, LeO (laws_drawEvents.l0 k y0 y1 y2 y3) (laws_drawEvents.l0 (k + 1) y0 y1 y2 y3))
  | 0 => fun _ _ _ _ r h => by simp [laws_drawEvents.l0] at h
  | k + 1 => by
    have ih0 := laws_drawEvents.mono_l k
    · intro y0 y1 y2 y3
      unfold laws_drawEvents.l0
      repeat' first
      | (with_reducible exact ih0 _ _ _ _)
      | (with_reducible exact LeO.refl _)
      | (with_reducible exact LeO.none _)
      | (with_reducible refine LeO.ite ?_ ?_)
      | (with_reducible refine LeO.bind ?_ (fun _ => ?_))
      | exact ih0 _ _ _ _
      | exact LeO.none _
      | refine LeO.ite ?_ ?_
      | refine LeO.bind ?_ (fun _ => ?_)
theorem laws_drawEvents.mono : ∀ a0 k, LeO (laws_drawEvents.f k a0) (laws_drawEvents.f (k + 1) a0) := by
  intro a0 k
  have ih0 := laws_drawEvents.mono_l k
  unfold laws_drawEvents.f
  repeat' first
      | (with_reducible exact ih0 _ _ _ _)
      | (with_reducible exact LeO.refl _)
      | (with_reducible exact LeO.none _)
      | (with_reducible refine LeO.ite ?_ ?_)
      | (with_reducible refine LeO.bind ?_ (fun _ => ?_))
      | exact ih0 _ _ _ _
      | exact LeO.none _
      | refine LeO.ite ?_ ?_
      | refine LeO.bind ?_ (fun _ => ?_)
end Go.Proofs.YtjkpelaeelihhaaGreatDoorRR.Y
end
section
namespace Go.Proofs.YtjkpelaeelihhaaGreatDoorRR.X
open Go.RowKit Go.Proofs.YtjkpelaeelihhaaGreatDoorRRW.PrintWords
set_option linter.unusedSimpArgs false
/-- A text's bytes, as numbers. -/
def nb (s : ByteArray) : List Nat := s.data.toList.map UInt8.toNat
theorem nb_append (a b : ByteArray) : nb (a ++ b) = nb a ++ nb b := by
  simp only [nb, ByteArray.data_append, Array.toList_append, List.map_append]
theorem nb_mk (l : List UInt8) : nb ⟨l.toArray⟩ = l.map UInt8.toNat := by simp [nb]
/-- The digits of a number, as bytes. -/
def digs (n : Nat) : List Nat := (Lib.decDigits n).map UInt8.toNat
theorem toNat_ofNat48 (d : Nat) (h : d < 10) : (UInt8.ofNat (48 + d)).toNat = 48 + d := by
  simp
  omega
theorem digs_small {n : Nat} (h : n < 10) : digs n = [48 + n] := by
  unfold digs
  rw [Lib.decDigits, dif_pos h]
  rw [List.map_cons, toNat_ofNat48 n h]
  rfl
theorem digs_more {n : Nat} (h : ¬ n < 10) : digs n = digs (n / 10) ++ [48 + n % 10] := by
  unfold digs
  rw [Lib.decDigits, dif_neg h]
  rw [List.map_append, List.map_cons, toNat_ofNat48 (n % 10) (by omega)]
  rfl
theorem nb_itoa (n : Int) (h : 0 ≤ n) : nb ⟨(Lib.itoa n).toArray⟩ = digs n.toNat := by
  rw [nb_mk, Lib.itoa, if_neg (by omega)]
  rfl
/-- A number as a parameter. -/
theorem run_digs (k : Nat) (hk : k ≠ 2) (cmd : Int) (ps : List Int) (n : Nat) (hn : n ≤ 1000009) : run (.csi k cmd ps Miss) (digs n) = some (.csi 3 cmd ps n, []) := by
  induction n using Nat.strongRecOn with
  | _ n ih =>
    by_cases h : n < 10
    · rw [digs_small h]
      have h1 : ¬ (64 ≤ 48 + n ∧ 48 + n ≤ 126) := by omega
      have h2 : 48 ≤ 48 + n ∧ 48 + n ≤ 57 ∧ k ≠ 2 := ⟨by omega, by omega, hk⟩
      have h3 : (Miss ≤ 100000 ∨ Miss = Miss) := Or.inr rfl
      simp only [run, step, if_neg h1, if_pos h2, if_pos h3, Option.bind_some, Option.map_some, List.append_nil, digit, if_pos]
      simp
      omega
    · rw [digs_more h]
      have ih1 := ih (n / 10) (by omega) (by omega)
      have h1 : ¬ (64 ≤ 48 + n % 10 ∧ 48 + n % 10 ≤ 126) := by omega
      have h2 : 48 ≤ 48 + n % 10 ∧ 48 + n % 10 ≤ 57 ∧ (3 : Nat) ≠ 2 := ⟨by omega, by omega, by omega⟩
      have h3 : (((n / 10 : Nat) : Int) ≤ 100000 ∨ ((n / 10 : Nat) : Int) = Miss) := Or.inl (by omega)
      have h4 : ¬ (((n / 10 : Nat) : Int) = Miss) := by unfold Miss; omega
      refine run_of ih1 (e := []) (f := []) ?_
      simp only [run, step, if_neg h1, if_pos h2, if_pos h3, Option.bind_some, Option.map_some, List.append_nil, digit, if_neg h4]
      simp
      omega
end Go.Proofs.YtjkpelaeelihhaaGreatDoorRR.X
end
section
namespace Go.Proofs.YtjkpelaeelihhaaGreatDoorRR.Y
open Go.RowKit Go.Proofs.YtjkpelaeelihhaaGreatDoorRRW.PrintWords Go.Proofs.YtjkpelaeelihhaaGreatDoorRRW.PrintLast Go.Proofs.YtjkpelaeelihhaaGreatDoorRRW.PrintMore
/-- More fuel gives the same. -/
theorem lift {α : Type} {f : Nat → Option α} (hm : ∀ k, LeO (f k) (f (k + 1))) {k0 k : Nat} (h : k0 ≤ k) {r : α} (he : f k0 = some r) : f k = some r := by
  obtain ⟨d, rfl⟩ := Nat.le.dest h
  induction d with
  | zero => exact he
  | succ d ih => exact hm _ r (ih (by omega))
theorem awake : laws_drawAwake.f = some true := by kernel_rfl
theorem wrap64_of (n : Int) (h0 : -9223372036854775808 ≤ n) (h1 : n ≤ 9223372036854775807) : wrap64 n = n := by unfold wrap64; omega
/-- An event, as the specification has it. -/
def cv (e : S48) : S49 := ⟨e.f0, e.f1, e.f2, e.f3, e.f4, e.f5⟩
theorem rdT_at (l : List S48) (i : Nat) (h : i < l.length) : rd_T48 l (i : Int) = l[i] := by
  simp [rd_T48, h]
theorem drawEvents_l0 (l : List S48) (hl : l.length < 100000000000) : ∀ (m i : Nat) (k : Nat), i + m = l.length → m < k → laws_drawEvents.l0 k ((l.take i).map cv) l (l.length : Int) (i : Int) = some (l.map cv)
  | 0, i, k + 1, h, hk => by
    have e1 : ¬ ((i : Int) < (l.length : Int)) := by omega
    rw [laws_drawEvents.l0, if_neg e1, List.take_of_length_le (by omega)]
  | m + 1, i, k + 1, h, hk => by
    have hi : i < l.length := by omega
    have e1 : (i : Int) < (l.length : Int) := by omega
    have e2 : ((l.take i).map cv).length < 1759218604441 := by rw [List.length_map, List.length_take]; omega
    rw [laws_drawEvents.l0, if_pos e1, if_pos (by omega), if_pos e1, if_pos e2, rdT_at l i hi, wrap64_of _ (by omega) (by omega)]
    have e3 : ((l.take i).map cv) ++ [(⟨l[i].f0, l[i].f1, l[i].f2, l[i].f3, l[i].f4, l[i].f5⟩ : S49)] = (l.take (i + 1)).map cv := by
      rw [List.take_succ_eq_append_getElem hi, List.map_append]
      rfl
    rw [e3]
    exact drawEvents_l0 l hl m (i + 1) k (by omega) (by omega)
theorem drawEvents_f (l : List S48) (hl : l.length < 100000000000) (k : Nat) (hk : l.length < k) : laws_drawEvents.f k l = some (l.map cv) := by
  have := drawEvents_l0 l hl l.length 0 k (by omega) hk
  simpa [laws_drawEvents.f] using this
theorem conv_f (s : ByteArray) (h : s.size ≤ 100000000000) : gosem_conv.f s = some (bytesOf s) := by
  unfold gosem_conv.f
  rw [if_pos (by omega)]
end Go.Proofs.YtjkpelaeelihhaaGreatDoorRR.Y
end
section
namespace Go.Proofs.YtjkpelaeelihhaaGreatDoorRR.X
open Go.RowKit Go.Proofs.YtjkpelaeelihhaaGreatDoorRRW.PrintWords
theorem digs_pow (k : Nat) : ∀ n : Nat, n < 10 ^ (k + 1) → (digs n).length ≤ k + 1 := by
  induction k with
  | zero =>
    intro n h
    rw [digs_small (by simpa using h)]
    simp
  | succ k ih =>
    intro n h
    by_cases h10 : n < 10
    · rw [digs_small h10]; simp
    · rw [digs_more h10]
      have := ih (n / 10) (by rw [Nat.div_lt_iff_lt_mul (by omega)]; rw [Nat.pow_succ] at h; exact h)
      simp only [List.length_append, List.length_cons, List.length_nil]
      omega
theorem nb_len (s : ByteArray) : (nb s).length = s.size := by simp [nb]
/-- A number's text. -/
theorem itoa_text (n : Nat) (h : n < 9223372036854775808) : ∃ t, Y.strconv_Itoa.f (n : Int) = some t ∧ nb t = digs n ∧ t.size = (digs n).length := by
  refine ⟨⟨(Lib.itoa n).toArray⟩, ?_, ?_, ?_⟩
  · unfold Y.strconv_Itoa.f
    rw [if_pos (by omega)]
  · rw [nb_itoa _ (by omega)]
    rfl
  · rw [← nb_len, nb_itoa _ (by omega)]
    simp
end Go.Proofs.YtjkpelaeelihhaaGreatDoorRR.X
end
section
namespace Go.Proofs.YtjkpelaeelihhaaGreatDoorRR.Y
open Go.RowKit Go.Proofs.YtjkpelaeelihhaaGreatDoorRRW.PrintWords Go.Proofs.YtjkpelaeelihhaaGreatDoorRRW.PrintLast Go.Proofs.YtjkpelaeelihhaaGreatDoorRRW.PrintMore
attribute [local go_sem] max2_int min2_int max_two min_two max_three min_three max_four min_four   -- for this text's walks alone
set_option linter.unusedVariables false
set_option linter.unusedSimpArgs false
/-! ### spec_IsDrawNumber: function 81 -/
def spec_IsDrawNumber.f (a0 : Int) : Option (Bool) := if a0 ≥ 0 then (if a0 ≤ 22 then (if a0 = 7 then (some false) else (some (a0 != 8))) else (some false)) else (some false)
end Go.Proofs.YtjkpelaeelihhaaGreatDoorRR.Y
end
section
namespace Go.Proofs.YtjkpelaeelihhaaGreatDoorRR.Y
open Go.RowKit Go.Proofs.YtjkpelaeelihhaaGreatDoorRRW.PrintWords Go.Proofs.YtjkpelaeelihhaaGreatDoorRRW.PrintLast Go.Proofs.YtjkpelaeelihhaaGreatDoorRRW.PrintMore
attribute [local go_sem] max2_int min2_int max_two min_two max_three min_three max_four min_four   -- for this text's walks alone
set_option linter.unusedVariables false
set_option linter.unusedSimpArgs false
/-! ### spec_drawAttributes: function 82 -/
def spec_drawAttributes.l0 : Nat → List Int → List Int → Int → Int → Option (Bool)
  | 0, _, _, _, _ => none
  | k + 1, x0, x5, x6, x7 => if x7 < x6 then (if 0 ≤ x7 then (if x7 < (x5.length : Int) then (if (rd x5 x7) < 0 then (some false) else (if (rd x5 x7) > 29 then (some false) else (if (rd x5 x7) > 9 then (if (rd x5 x7) < 22 then (some false) else (if (rd x5 x7) = 26 then (some false) else (spec_drawAttributes.l0 k x0 x5 x6 (wrap64 (x7 + 1))))) else (if (rd x5 x7) = 26 then (some false) else (spec_drawAttributes.l0 k x0 x5 x6 (wrap64 (x7 + 1))))))) else (none)) else (none)) else (if (x0.length : Int) ≥ 1 then (some (decide ((x0.length : Int) ≤ 6))) else (some false))
def spec_drawAttributes.f (k : Nat) (l0 : List Int) : Option (Bool) := spec_drawAttributes.l0 k l0 l0 (l0.length : Int) 0
theorem spec_drawAttributes.mono_l : ∀ k, (∀ y0 y1 y2 y3, LeO (spec_drawAttributes.l0 k y0 y1 y2 y3) (spec_drawAttributes.l0 (k + 1) y0 y1 y2 y3))
  | 0 => fun _ _ _ _ r h => by simp [spec_drawAttributes.l0] at h
  | k + 1 => by
    have ih0 := spec_drawAttributes.mono_l k
    · intro y0 y1 y2 y3
      unfold spec_drawAttributes.l0
      repeat' first
      | (with_reducible exact ih0 _ _ _ _)
      | (with_reducible exact LeO.refl _)
      | (with_reducible exact LeO.none _)
      | (with_reducible refine LeO.ite ?_ ?_)
      | (with_reducible refine LeO.bind ?_ (fun _ => ?_))
      | exact ih0 _ _ _ _
      | exact LeO.none _
      | refine LeO.ite ?_ ?_
      | refine LeO.bind ?_ (fun _ => ?_)
theorem spec_drawAttributes.mono : ∀ a0 k, LeO (spec_drawAttributes.f k a0) (spec_drawAttributes.f (k + 1) a0) := by
  intro a0 k
  have ih0 := spec_drawAttributes.mono_l k
  unfold spec_drawAttributes.f
  repeat' first
      | (with_reducible exact ih0 _ _ _ _)
      | (with_reducible exact LeO.refl _)
      | (with_reducible exact LeO.none _)
      | (with_reducible refine LeO.ite ?_ ?_)
      | (with_reducible refine LeO.bind ?_ (fun _ => ?_))
      | exact ih0 _ _ _ _
      | exact LeO.none _
      | refine LeO.ite ?_ ?_
      | refine LeO.bind ?_ (fun _ => ?_)
end Go.Proofs.YtjkpelaeelihhaaGreatDoorRR.Y
end
section
namespace Go.Proofs.YtjkpelaeelihhaaGreatDoorRR.Y
open Go.RowKit Go.Proofs.YtjkpelaeelihhaaGreatDoorRRW.PrintWords Go.Proofs.YtjkpelaeelihhaaGreatDoorRRW.PrintLast Go.Proofs.YtjkpelaeelihhaaGreatDoorRRW.PrintMore
attribute [local go_sem] max2_int min2_int max_two min_two max_three min_three max_four min_four   -- for this text's walks alone
set_option linter.unusedVariables false
set_option linter.unusedSimpArgs false
/-! ### spec_DrawPlain: function 83 -/
def spec_DrawPlain.l0 : Nat → ByteArray → Int → Int → Int → Option (Bool)
  | 0, _, _, _, _ => none
  | k + 1, x0, x1, x7, x8 => if x8 < x7 then (if 0 ≤ x8 then (if x8 < (x0.size : Int) then (if (bt x0 x8) < 32 then (some false) else (if (bt x0 x8) > 126 then (some false) else (spec_DrawPlain.l0 k x0 x1 x7 (wrap64 (x8 + 1))))) else (none)) else (none)) else (if (x0.size : Int) ≥ 1 then (some (decide ((x0.size : Int) ≤ x1))) else (some false))
def spec_DrawPlain.f (k : Nat) (a0 : ByteArray) (a1 : Int) : Option (Bool) := spec_DrawPlain.l0 k a0 a1 (a0.size : Int) 0
theorem spec_DrawPlain.mono_l : ∀ k, (∀ y0 y1 y2 y3, LeO (spec_DrawPlain.l0 k y0 y1 y2 y3) (spec_DrawPlain.l0 (k + 1) y0 y1 y2 y3))
  | 0 => fun _ _ _ _ r h => by simp [spec_DrawPlain.l0] at h
  | k + 1 => by
    have ih0 := spec_DrawPlain.mono_l k
    · intro y0 y1 y2 y3
      unfold spec_DrawPlain.l0
      repeat' first
      | (with_reducible exact ih0 _ _ _ _)
      | (with_reducible exact LeO.refl _)
      | (with_reducible exact LeO.none _)
      | (with_reducible refine LeO.ite ?_ ?_)
      | (with_reducible refine LeO.bind ?_ (fun _ => ?_))
      | exact ih0 _ _ _ _
      | exact LeO.none _
      | refine LeO.ite ?_ ?_
      | refine LeO.bind ?_ (fun _ => ?_)
theorem spec_DrawPlain.mono : ∀ a0 a1 k, LeO (spec_DrawPlain.f k a0 a1) (spec_DrawPlain.f (k + 1) a0 a1) := by
  intro a0 a1 k
  have ih0 := spec_DrawPlain.mono_l k
  unfold spec_DrawPlain.f
  repeat' first
      | (with_reducible exact ih0 _ _ _ _)
      | (with_reducible exact LeO.refl _)
      | (with_reducible exact LeO.none _)
      | (with_reducible refine LeO.ite ?_ ?_)
      | (with_reducible refine LeO.bind ?_ (fun _ => ?_))
      | exact ih0 _ _ _ _
      | exact LeO.none _
      | refine LeO.ite ?_ ?_
      | refine LeO.bind ?_ (fun _ => ?_)
end Go.Proofs.YtjkpelaeelihhaaGreatDoorRR.Y
end
section
namespace Go.Proofs.YtjkpelaeelihhaaGreatDoorRR.Y
open Go.RowKit Go.Proofs.YtjkpelaeelihhaaGreatDoorRRW.PrintWords Go.Proofs.YtjkpelaeelihhaaGreatDoorRRW.PrintLast Go.Proofs.YtjkpelaeelihhaaGreatDoorRRW.PrintMore
attribute [local go_sem] max2_int min2_int max_two min_two max_three min_three max_four min_four   -- for this text's walks alone
set_option linter.unusedVariables false
set_option linter.unusedSimpArgs false
/-! ### spec_IsDrawOp: function 21 -/
mutual
def spec_IsDrawOp.j0 : Nat → Bool → Int → Int → Int → ByteArray → List Int → Option (Bool)
  | 0, _, _, _, _, _, _ => none
  | k + 1, x3, x107000, x107001, x107002, x107003, x107004 => if x107000 = 10 then (spec_IsDrawOp.j1 k x3 1 99 true x107000 x107001 x107002 x107003 x107004) else (spec_IsDrawOp.j1 k x3 1 99 (x107000 == 11) x107000 x107001 x107002 x107003 x107004)
def spec_IsDrawOp.j1 : Nat → Bool → Int → Int → Bool → Int → Int → Int → ByteArray → List Int → Option (Bool)
  | 0, _, _, _, _, _, _, _, _, _ => none
  | k + 1, x3, x4, x5, x22, x107000, x107001, x107002, x107003, x107004 => if x22 = true then (spec_IsDrawOp.j2 k x3 0 2 x107000 x107001 x107002 x107003 x107004) else (spec_IsDrawOp.j2 k x3 x4 x5 x107000 x107001 x107002 x107003 x107004)
def spec_IsDrawOp.j2 : Nat → Bool → Int → Int → Int → Int → Int → ByteArray → List Int → Option (Bool)
  | 0, _, _, _, _, _, _, _, _ => none
  | k + 1, x3, x4, x5, x107000, x107001, x107002, x107003, x107004 => (spec_IsDrawNumber.f x107000).bind fun t107 => (if t107 = true then (if x3 = true then (if x107002 = 0 then (if x107001 ≥ x4 then (some (decide (x107001 ≤ x5))) else (some false)) else (some false)) else (some false)) else (if x107000 = 40 then (spec_IsDrawOp.j3 k x3 true x107000 x107001 x107002 x107003 x107004) else (spec_IsDrawOp.j3 k x3 (x107000 == 41) x107000 x107001 x107002 x107003 x107004)))
def spec_IsDrawOp.j3 : Nat → Bool → Bool → Int → Int → Int → ByteArray → List Int → Option (Bool)
  | 0, _, _, _, _, _, _, _ => none
  | k + 1, x3, x45, x107000, x107001, x107002, x107003, x107004 => if x45 = true then (if x3 = true then (if x107001 ≥ 1 then (if x107001 ≤ 99 then (if x107002 ≥ 1 then (some (decide (x107002 ≤ 99))) else (some false)) else (some false)) else (some false)) else (some false)) else (if x107000 = 42 then (if x3 = true then (if x107001 ≥ 1 then (if x107002 > x107001 then (some (decide (x107002 ≤ 99))) else (some false)) else (some false)) else (some false)) else (if x107000 = 50 then (spec_IsDrawOp.j4 k x3 true x107000 x107001 x107002 x107003 x107004) else (spec_IsDrawOp.j4 k x3 (x107000 == 51) x107000 x107001 x107002 x107003 x107004)))
def spec_IsDrawOp.j4 : Nat → Bool → Bool → Int → Int → Int → ByteArray → List Int → Option (Bool)
  | 0, _, _, _, _, _, _, _ => none
  | k + 1, x3, x97, x107000, x107001, x107002, x107003, x107004 => if x97 = true then (if x3 = true then (if x107001 = 0 then (some (x107002 == 0)) else (some false)) else (some false)) else (if x107000 = 52 then (if x107003.toList = ([] : List UInt8) then (if x107001 = 0 then (if x107002 = 0 then ((spec_drawAttributes.f k x107004).bind fun t108 => (some t108)) else (some false)) else (some false)) else (some false)) else (if x107000 = 60 then (if x107001 = 0 then (if x107002 = 0 then (if (x107004.length : Int) = 0 then ((spec_DrawPlain.f k x107003 20).bind fun t109 => (some t109)) else (some false)) else (some false)) else (some false)) else (if x107000 = 61 then (if x3 = true then (if x107002 = 0 then (if x107001 = 13 then (some true) else (if x107001 = 10 then (some true) else (if x107001 = 8 then (some true) else (some (x107001 == 9))))) else (some false)) else (some false)) else (some false))))
end
def spec_IsDrawOp.f (k : Nat) (a0_0 : Int) (a0_1 : Int) (a0_2 : Int) (a0_3 : ByteArray) (l0_4 : List Int) : Option (Bool) := if a0_3.toList = ([] : List UInt8) then (spec_IsDrawOp.j0 k ((l0_4.length : Int) == 0) a0_0 a0_1 a0_2 a0_3 l0_4) else (spec_IsDrawOp.j0 k false a0_0 a0_1 a0_2 a0_3 l0_4)
theorem spec_IsDrawOp.mono_l : ∀ k, (∀ y0 y1 y2 y3 y4 y5, LeO (spec_IsDrawOp.j0 k y0 y1 y2 y3 y4 y5) (spec_IsDrawOp.j0 (k + 1) y0 y1 y2 y3 y4 y5)) ∧ (∀ y0 y1 y2 y3 y4 y5 y6 y7 y8, LeO (spec_IsDrawOp.j1 k y0 y1 y2 y3 y4 y5 y6 y7 y8) (spec_IsDrawOp.j1 (k + 1) y0 y1 y2 y3 y4 y5 y6 y7 y8)) ∧ (∀ y0 y1 y2 y3 y4 y5 y6 y7, LeO (spec_IsDrawOp.j2 k y0 y1 y2 y3 y4 y5 y6 y7) (spec_IsDrawOp.j2 (k + 1) y0 y1 y2 y3 y4 y5 y6 y7)) ∧ (∀ y0 y1 y2 y3 y4 y5 y6, LeO (spec_IsDrawOp.j3 k y0 y1 y2 y3 y4 y5 y6) (spec_IsDrawOp.j3 (k + 1) y0 y1 y2 y3 y4 y5 y6)) ∧ (∀ y0 y1 y2 y3 y4 y5 y6, LeO (spec_IsDrawOp.j4 k y0 y1 y2 y3 y4 y5 y6) (spec_IsDrawOp.j4 (k + 1) y0 y1 y2 y3 y4 y5 y6))
  | 0 => ⟨fun _ _ _ _ _ _ r h => by simp [spec_IsDrawOp.j0] at h, fun _ _ _ _ _ _ _ _ _ r h => by simp [spec_IsDrawOp.j1] at h, fun _ _ _ _ _ _ _ _ r h => by simp [spec_IsDrawOp.j2] at h, fun _ _ _ _ _ _ _ r h => by simp [spec_IsDrawOp.j3] at h, fun _ _ _ _ _ _ _ r h => by simp [spec_IsDrawOp.j4] at h⟩
  | k + 1 => by
    obtain ⟨ih0, ih1, ih2, ih3, ih4⟩ := spec_IsDrawOp.mono_l k
    refine ⟨?_, ?_, ?_, ?_, ?_⟩
    · intro y0 y1 y2 y3 y4 y5
      unfold spec_IsDrawOp.j0
      repeat' first
      | (with_reducible exact ih0 _ _ _ _ _ _)
      | (with_reducible exact ih1 _ _ _ _ _ _ _ _ _)
      | (with_reducible exact ih2 _ _ _ _ _ _ _ _)
      | (with_reducible exact ih3 _ _ _ _ _ _ _)
      | (with_reducible exact ih4 _ _ _ _ _ _ _)
      | (with_reducible exact spec_DrawPlain.mono _ _ _)
      | (with_reducible exact spec_drawAttributes.mono _ _)
      | (with_reducible exact LeO.refl _)
      | (with_reducible exact LeO.none _)
      | (with_reducible refine LeO.ite ?_ ?_)
      | (with_reducible refine LeO.bind ?_ (fun _ => ?_))
      | exact ih0 _ _ _ _ _ _
      | exact ih1 _ _ _ _ _ _ _ _ _
      | exact ih2 _ _ _ _ _ _ _ _
      | exact ih3 _ _ _ _ _ _ _
      | exact ih4 _ _ _ _ _ _ _
      | exact spec_DrawPlain.mono _ _ _
      | exact spec_drawAttributes.mono _ _
      | exact LeO.none _
      | refine LeO.ite ?_ ?_
      | refine LeO.bind ?_ (fun _ => ?_)
    · intro y0 y1 y2 y3 y4 y5 y6 y7 y8
      unfold spec_IsDrawOp.j1
      repeat' first
      | (with_reducible exact ih0 _ _ _ _ _ _)
      | (with_reducible exact ih1 _ _ _ _ _ _ _ _ _)
      | (with_reducible exact ih2 _ _ _ _ _ _ _ _)
      | (with_reducible exact ih3 _ _ _ _ _ _ _)
      | (with_reducible exact ih4 _ _ _ _ _ _ _)
      | (with_reducible exact spec_DrawPlain.mono _ _ _)
      | (with_reducible exact spec_drawAttributes.mono _ _)
      | (with_reducible exact LeO.refl _)
      | (with_reducible exact LeO.none _)
      | (with_reducible refine LeO.ite ?_ ?_)
      | (with_reducible refine LeO.bind ?_ (fun _ => ?_))
      | exact ih0 _ _ _ _ _ _
      | exact ih1 _ _ _ _ _ _ _ _ _
      | exact ih2 _ _ _ _ _ _ _ _
      | exact ih3 _ _ _ _ _ _ _
      | exact ih4 _ _ _ _ _ _ _
      | exact spec_DrawPlain.mono _ _ _
      | exact spec_drawAttributes.mono _ _
      | exact LeO.none _
      | refine LeO.ite ?_ ?_
      | refine LeO.bind ?_ (fun _ => ?_)
    · intro y0 y1 y2 y3 y4 y5 y6 y7
      unfold spec_IsDrawOp.j2
      repeat' first
      | (with_reducible exact ih0 _ _ _ _ _ _)
      | (with_reducible exact ih1 _ _ _ _ _ _ _ _ _)
      | (with_reducible exact ih2 _ _ _ _ _ _ _ _)
      | (with_reducible exact ih3 _ _ _ _ _ _ _)
      | (with_reducible exact ih4 _ _ _ _ _ _ _)
      | (with_reducible exact spec_DrawPlain.mono _ _ _)
      | (with_reducible exact spec_drawAttributes.mono _ _)
      | (with_reducible exact LeO.refl _)
      | (with_reducible exact LeO.none _)
      | (with_reducible refine LeO.ite ?_ ?_)
      | (with_reducible refine LeO.bind ?_ (fun _ => ?_))
      | exact ih0 _ _ _ _ _ _
      | exact ih1 _ _ _ _ _ _ _ _ _
      | exact ih2 _ _ _ _ _ _ _ _
      | exact ih3 _ _ _ _ _ _ _
      | exact ih4 _ _ _ _ _ _ _
      | exact spec_DrawPlain.mono _ _ _
      | exact spec_drawAttributes.mono _ _
      | exact LeO.none _
      | refine LeO.ite ?_ ?_
      | refine LeO.bind ?_ (fun _ => ?_)
    · intro y0 y1 y2 y3 y4 y5 y6
      unfold spec_IsDrawOp.j3
      repeat' first
      | (with_reducible exact ih0 _ _ _ _ _ _)
      | (with_reducible exact ih1 _ _ _ _ _ _ _ _ _)
      | (with_reducible exact ih2 _ _ _ _ _ _ _ _)
      | (with_reducible exact ih3 _ _ _ _ _ _ _)
      | (with_reducible exact ih4 _ _ _ _ _ _ _)
      | (with_reducible exact spec_DrawPlain.mono _ _ _)
      | (with_reducible exact spec_drawAttributes.mono _ _)
      | (with_reducible exact LeO.refl _)
      | (with_reducible exact LeO.none _)
      | (with_reducible refine LeO.ite ?_ ?_)
      | (with_reducible refine LeO.bind ?_ (fun _ => ?_))
      | exact ih0 _ _ _ _ _ _
      | exact ih1 _ _ _ _ _ _ _ _ _
      | exact ih2 _ _ _ _ _ _ _ _
      | exact ih3 _ _ _ _ _ _ _
      | exact ih4 _ _ _ _ _ _ _
      | exact spec_DrawPlain.mono _ _ _
      | exact spec_drawAttributes.mono _ _
      | exact LeO.none _
      | refine LeO.ite ?_ ?_
      | refine LeO.bind ?_ (fun _ => ?_)
    · intro y0 y1 y2 y3 y4 y5 y6
      unfold spec_IsDrawOp.j4
      repeat' first
      | (with_reducible exact ih0 _ _ _ _ _ _)
      | (with_reducible exact ih1 _ _ _ _ _ _ _ _ _)
      | (with_reducible exact ih2 _ _ _ _ _ _ _ _)
      | (with_reducible exact ih3 _ _ _ _ _ _ _)
      | (with_reducible exact ih4 _ _ _ _ _ _ _)
      | (with_reducible exact spec_DrawPlain.mono _ _ _)
      | (with_reducible exact spec_drawAttributes.mono _ _)
      | (with_reducible exact LeO.refl _)
      | (with_reducible exact LeO.none _)
      | (with_reducible refine LeO.ite ?_ ?_)
      | (with_reducible refine LeO.bind ?_ (fun _ => ?_))
      | exact ih0 _ _ _ _ _ _
      | exact ih1 _ _ _ _ _ _ _ _ _
      | exact ih2 _ _ _ _ _ _ _ _
      | exact ih3 _ _ _ _ _ _ _
      | exact ih4 _ _ _ _ _ _ _
      | exact spec_DrawPlain.mono _ _ _
      | exact spec_drawAttributes.mono _ _
      | exact LeO.none _
      | refine LeO.ite ?_ ?_
      | refine LeO.bind ?_ (fun _ => ?_)
theorem spec_IsDrawOp.mono : ∀ a0 a1 a2 a3 a4 k, LeO (spec_IsDrawOp.f k a0 a1 a2 a3 a4) (spec_IsDrawOp.f (k + 1) a0 a1 a2 a3 a4) := by
  intro a0 a1 a2 a3 a4 k
  obtain ⟨ih0, ih1, ih2, ih3, ih4⟩ := spec_IsDrawOp.mono_l k
  unfold spec_IsDrawOp.f
  repeat' first
      | (with_reducible exact ih0 _ _ _ _ _ _)
      | (with_reducible exact ih1 _ _ _ _ _ _ _ _ _)
      | (with_reducible exact ih2 _ _ _ _ _ _ _ _)
      | (with_reducible exact ih3 _ _ _ _ _ _ _)
      | (with_reducible exact ih4 _ _ _ _ _ _ _)
      | (with_reducible exact spec_DrawPlain.mono _ _ _)
      | (with_reducible exact spec_drawAttributes.mono _ _)
      | (with_reducible exact LeO.refl _)
      | (with_reducible exact LeO.none _)
      | (with_reducible refine LeO.ite ?_ ?_)
      | (with_reducible refine LeO.bind ?_ (fun _ => ?_))
      | exact ih0 _ _ _ _ _ _
      | exact ih1 _ _ _ _ _ _ _ _ _
      | exact ih2 _ _ _ _ _ _ _ _
      | exact ih3 _ _ _ _ _ _ _
      | exact ih4 _ _ _ _ _ _ _
      | exact spec_DrawPlain.mono _ _ _
      | exact spec_drawAttributes.mono _ _
      | exact LeO.none _
      | refine LeO.ite ?_ ?_
      | refine LeO.bind ?_ (fun _ => ?_)
end Go.Proofs.YtjkpelaeelihhaaGreatDoorRR.Y
end
section
namespace Go.Proofs.YtjkpelaeelihhaaGreatDoorRR.Y
open Go.RowKit Go.Proofs.YtjkpelaeelihhaaGreatDoorRRW.PrintWords Go.Proofs.YtjkpelaeelihhaaGreatDoorRRW.PrintLast Go.Proofs.YtjkpelaeelihhaaGreatDoorRRW.PrintMore
attribute [local go_sem] max2_int min2_int max_two min_two max_three min_three max_four min_four   -- for this text's walks alone
set_option linter.unusedVariables false
set_option linter.unusedSimpArgs false
/-! ### spec_IsDrawPlan: function 7 -/
def spec_IsDrawPlan.l0 : Nat → List (S45) → List (S45) → Int → Int → Option (Bool)
  | 0, _, _, _, _ => none
  | k + 1, x0, x5, x6, x7 => if x7 < x6 then (if 0 ≤ x7 then (if x7 < (x5.length : Int) then ((spec_IsDrawOp.f k ((rd_T45 x5 x7).f0) ((rd_T45 x5 x7).f1) ((rd_T45 x5 x7).f2) ((rd_T45 x5 x7).f3) ((rd_T45 x5 x7).f4)).bind fun t112 => (if t112 = true then (if x7 > 0 then (if ((rd_T45 x5 x7).f0) = 60 then (if 0 ≤ (wrap64 (x7 - 1)) then (if (wrap64 (x7 - 1)) < (x0.length : Int) then (if ((rd_T45 x0 (wrap64 (x7 - 1))).f0) = 60 then (some false) else (spec_IsDrawPlan.l0 k x0 x5 x6 (wrap64 (x7 + 1)))) else (none)) else (none)) else (spec_IsDrawPlan.l0 k x0 x5 x6 (wrap64 (x7 + 1)))) else (spec_IsDrawPlan.l0 k x0 x5 x6 (wrap64 (x7 + 1)))) else (some false))) else (none)) else (none)) else (some (decide ((x0.length : Int) ≤ 20)))
def spec_IsDrawPlan.f (k : Nat) (l0 : List (S45)) : Option (Bool) := spec_IsDrawPlan.l0 k l0 l0 (l0.length : Int) 0
theorem spec_IsDrawPlan.mono_l : ∀ k, (∀ y0 y1 y2 y3, LeO (spec_IsDrawPlan.l0 k y0 y1 y2 y3) (spec_IsDrawPlan.l0 (k + 1) y0 y1 y2 y3))
  | 0 => fun _ _ _ _ r h => by simp [spec_IsDrawPlan.l0] at h
  | k + 1 => by
    have ih0 := spec_IsDrawPlan.mono_l k
    · intro y0 y1 y2 y3
      unfold spec_IsDrawPlan.l0
      repeat' first
      | (with_reducible exact ih0 _ _ _ _)
      | (with_reducible exact spec_IsDrawOp.mono _ _ _ _ _ _)
      | (with_reducible exact LeO.refl _)
      | (with_reducible exact LeO.none _)
      | (with_reducible refine LeO.ite ?_ ?_)
      | (with_reducible refine LeO.bind ?_ (fun _ => ?_))
      | exact ih0 _ _ _ _
      | exact spec_IsDrawOp.mono _ _ _ _ _ _
      | exact LeO.none _
      | refine LeO.ite ?_ ?_
      | refine LeO.bind ?_ (fun _ => ?_)
theorem spec_IsDrawPlan.mono : ∀ a0 k, LeO (spec_IsDrawPlan.f k a0) (spec_IsDrawPlan.f (k + 1) a0) := by
  intro a0 k
  have ih0 := spec_IsDrawPlan.mono_l k
  unfold spec_IsDrawPlan.f
  repeat' first
      | (with_reducible exact ih0 _ _ _ _)
      | (with_reducible exact spec_IsDrawOp.mono _ _ _ _ _ _)
      | (with_reducible exact LeO.refl _)
      | (with_reducible exact LeO.none _)
      | (with_reducible refine LeO.ite ?_ ?_)
      | (with_reducible refine LeO.bind ?_ (fun _ => ?_))
      | exact ih0 _ _ _ _
      | exact spec_IsDrawOp.mono _ _ _ _ _ _
      | exact LeO.none _
      | refine LeO.ite ?_ ?_
      | refine LeO.bind ?_ (fun _ => ?_)
end Go.Proofs.YtjkpelaeelihhaaGreatDoorRR.Y
end
section
namespace Go.Proofs.YtjkpelaeelihhaaGreatDoorRR.Y
open Go.RowKit Go.Proofs.YtjkpelaeelihhaaGreatDoorRRW.PrintWords Go.Proofs.YtjkpelaeelihhaaGreatDoorRRW.PrintLast Go.Proofs.YtjkpelaeelihhaaGreatDoorRRW.PrintMore
attribute [local go_sem] max2_int min2_int max_two min_two max_three min_three max_four min_four   -- for this text's walks alone
set_option linter.unusedVariables false
set_option linter.unusedSimpArgs false
/-! ### laws_zzFits4: function 20 -/
def laws_zzFits4.f (a0_0 : Int) (a0_1 : Int) (a0_2 : Int) (a0_3 : ByteArray) (l0_4 : List Int) : Option (Bool) := if (a0_3.size : Int) > 2147483647 then (some false) else (if (l0_4.length : Int) > 2147483647 then (some false) else (some true))
end Go.Proofs.YtjkpelaeelihhaaGreatDoorRR.Y
end
section
namespace Go.Proofs.YtjkpelaeelihhaaGreatDoorRR.Y
open Go.RowKit Go.Proofs.YtjkpelaeelihhaaGreatDoorRRW.PrintWords Go.Proofs.YtjkpelaeelihhaaGreatDoorRRW.PrintLast Go.Proofs.YtjkpelaeelihhaaGreatDoorRRW.PrintMore
attribute [local go_sem] max2_int min2_int max_two min_two max_three min_three max_four min_four   -- for this text's walks alone
set_option linter.unusedVariables false
set_option linter.unusedSimpArgs false
/-! ### laws_zzFits3: function 6 -/
def laws_zzFits3.l0 : Nat → List (S45) → Int → Int → Option (Bool)
  | 0, _, _, _ => none
  | k + 1, x8, x9, x10 => if x10 < x9 then (if 0 ≤ x10 then (if x10 < (x8.length : Int) then ((laws_zzFits4.f ((rd_T45 x8 x10).f0) ((rd_T45 x8 x10).f1) ((rd_T45 x8 x10).f2) ((rd_T45 x8 x10).f3) ((rd_T45 x8 x10).f4)).bind fun t104 => (if t104 = true then (laws_zzFits3.l0 k x8 x9 (wrap64 (x10 + 1))) else (some false))) else (none)) else (none)) else (some true)
def laws_zzFits3.f (k : Nat) (l0 : List (S45)) : Option (Bool) := if (l0.length : Int) > 2147483647 then (some false) else (laws_zzFits3.l0 k l0 (l0.length : Int) 0)
theorem laws_zzFits3.mono_l : ∀ k, (∀ y0 y1 y2, LeO (laws_zzFits3.l0 k y0 y1 y2) (laws_zzFits3.l0 (k + 1) y0 y1 y2))
  | 0 => fun _ _ _ r h => by simp [laws_zzFits3.l0] at h
  | k + 1 => by
    have ih0 := laws_zzFits3.mono_l k
    · intro y0 y1 y2
      unfold laws_zzFits3.l0
      repeat' first
      | (with_reducible exact ih0 _ _ _)
      | (with_reducible exact LeO.refl _)
      | (with_reducible exact LeO.none _)
      | (with_reducible refine LeO.ite ?_ ?_)
      | (with_reducible refine LeO.bind ?_ (fun _ => ?_))
      | exact ih0 _ _ _
      | exact LeO.none _
      | refine LeO.ite ?_ ?_
      | refine LeO.bind ?_ (fun _ => ?_)
theorem laws_zzFits3.mono : ∀ a0 k, LeO (laws_zzFits3.f k a0) (laws_zzFits3.f (k + 1) a0) := by
  intro a0 k
  have ih0 := laws_zzFits3.mono_l k
  unfold laws_zzFits3.f
  repeat' first
      | (with_reducible exact ih0 _ _ _)
      | (with_reducible exact LeO.refl _)
      | (with_reducible exact LeO.none _)
      | (with_reducible refine LeO.ite ?_ ?_)
      | (with_reducible refine LeO.bind ?_ (fun _ => ?_))
      | exact ih0 _ _ _
      | exact LeO.none _
      | refine LeO.ite ?_ ?_
      | refine LeO.bind ?_ (fun _ => ?_)
end Go.Proofs.YtjkpelaeelihhaaGreatDoorRR.Y
end
