/- Texts of this claim, joined: Y77 XMakeNum Y3D Y25D XText XDraw Y45D Y46D XTold Y30D Y28D Y29D XWord XLit Y31D Y32D. Of each, what the claim uses. -/
import Derived.Test.YtkklhlakklcnbaaGreatDoorRRRKac
import Derived.Test.YtkklhlakklcnbaaGreatDoorRRRKaq
import Derived.Test.YtkklhlakklcnbaaGreatDoorRRRKas
import Derived.Lib.Hide
import Derived.Test.YtkklhlakklcnbaaGreatDoorRRRKar
import Derived.Lib.ItoaNum
import Derived.Great.BuildSlice
section
namespace Go.Proofs.YtkklhlakklcnbaaGreatDoorRRR.Y
open Go.RowKit Go.Proofs.YtkklhlakklcnbaaGreatDoorRRRW.PrintWords Go.Proofs.YtkklhlakklcnbaaGreatDoorRRRW.PrintLast Go.Proofs.YtkklhlakklcnbaaGreatDoorRRRW.PrintMore
attribute [local go_sem] max2_int min2_int max_two min_two max_three min_three max_four min_four   -- for this text's walks alone
set_option linter.unusedVariables false
set_option linter.unusedSimpArgs false
set_option maxHeartbeats 8000000 in
set_option maxRecDepth 100000 in
theorem xansi_SetCursorStyle.calls (a0 : Int) (r : ByteArray) (w : World) (hT : XTab w) (h : xansi_SetCursorStyle.f a0 = some r) :
    Calls Tryz.prog 59 #[.int .i64 a0] w fun e w' => e = .returned (.string r) ∧ Below w.heap.size w w' := by
  have HT := Aside0.mk hT
  clear hT
  have HB := Aside0.mk (Below.refl w.heap.size w)
  have H : (if a0 < 0 then ((strconv_Itoa.f 0).bind fun t386 => (if 2 + t386.size ≤ 9223372036854775807 then (if 2 + t386.size + 2 ≤ 9223372036854775807 then (some (((⟨#[27, 91]⟩ : ByteArray) ++ t386) ++ (⟨#[32, 113]⟩ : ByteArray))) else (none)) else (none))) else ((strconv_Itoa.f a0).bind fun t387 => (if 2 + t387.size ≤ 9223372036854775807 then (if 2 + t387.size + 2 ≤ 9223372036854775807 then (some (((⟨#[27, 91]⟩ : ByteArray) ++ t387) ++ (⟨#[32, 113]⟩ : ByteArray))) else (none)) else (none)))) = some r := h
  clear h
  by_cases c2 : a0 < 0
  · rw [if_pos c2] at H
    have c2b0 : decide (a0 < 0) = true := decide_eq_true c2
    clear c2
    replace H := Option.bind_eq_some_iff.mp H
    obtain ⟨t386, A30, H⟩ := H
    replace H : (if 2 + t386.size ≤ 9223372036854775807 then (if 2 + t386.size + 2 ≤ 9223372036854775807 then (some (((⟨#[27, 91]⟩ : ByteArray) ++ t386) ++ (⟨#[32, 113]⟩ : ByteArray))) else (none)) else (none)) = some r := H
    have A3 := Aside0.mk A30
    clear A30
    by_cases c4 : 2 + t386.size ≤ 9223372036854775807
    · rw [if_pos c4] at H
      have c4b0 := eq_true c4
      have c4b1 : decide (2 + t386.size ≤ 9223372036854775807) = true := decide_eq_true c4
      try have c4b2 : (9223372036854775807 < 2 + t386.size) = False := eq_false (Nat.not_lt.2 c4)
      by_cases c5 : 2 + t386.size + 2 ≤ 9223372036854775807
      · rw [if_pos c5] at H
        have c5b0 := eq_true c5
        have c5b1 : decide (2 + t386.size + 2 ≤ 9223372036854775807) = true := decide_eq_true c5
        try have c5b2 : (9223372036854775807 < 2 + t386.size + 2) = False := eq_false (Nat.not_lt.2 c5)
        obtain rfl := Option.some.inj H
        go_enter Tryz.func59, Tryz.ntmps59
        go_wp2_with (first | ((with_reducible refine gate_callee (f := 113) rfl ?_); refine goesL_ (some 6) rfl rfl Tryz.func113 (by kernel_rfl) rfl #[.int .i64 0] rfl (by (try simp only [List.map_toArray, List.map_cons, List.map_nil]); first | done | rfl | (simp only [List.length_drop, List.length_take]; rfl)) ?_; (with_reducible refine (strconv_Itoa.calls 0 t386 _ ?side1 A3.out).mono ?_); (case side1 => exact XTab.below HT.out (by repeat (first | (with_reducible first | exact HB.out | apply below_alloc | apply pw_below_drewN | apply below_drew1) | exact HB.out))); rintro e w6 ⟨rfl, hb⟩; refine ⟨_, rfl, ?_⟩; have n0_ := Aside0.mk (below_step (by repeat (first | (with_reducible first | exact HB.out | apply below_alloc | apply pw_below_drewN | apply below_drew1) | exact HB.out)) hb); clear HB; have HB := n0_; clear n0_; (try clear hb); (try clear hb2); (try clear hk); (try clear hi)))
        go_ret
        exact ⟨by first | rfl | (simp [errW_none, errW_some] <;> rfl) | (simp [*, errW_none, errW_some] <;> rfl), by repeat (first | (with_reducible first | exact HB.out | apply below_alloc | apply pw_below_drewN | apply below_drew1) | exact HB.out)⟩
      · rw [if_neg c5] at H
        exact absurd H (by simp)
    · rw [if_neg c4] at H
      exact absurd H (by simp)
  · rw [if_neg c2] at H
    have c2b0 : decide (a0 < 0) = false := decide_eq_false c2
    clear c2
    replace H := Option.bind_eq_some_iff.mp H
    obtain ⟨t387, A70, H⟩ := H
    replace H : (if 2 + t387.size ≤ 9223372036854775807 then (if 2 + t387.size + 2 ≤ 9223372036854775807 then (some (((⟨#[27, 91]⟩ : ByteArray) ++ t387) ++ (⟨#[32, 113]⟩ : ByteArray))) else (none)) else (none)) = some r := H
    have A7 := Aside0.mk A70
    clear A70
    by_cases c8 : 2 + t387.size ≤ 9223372036854775807
    · rw [if_pos c8] at H
      have c8b0 := eq_true c8
      have c8b1 : decide (2 + t387.size ≤ 9223372036854775807) = true := decide_eq_true c8
      try have c8b2 : (9223372036854775807 < 2 + t387.size) = False := eq_false (Nat.not_lt.2 c8)
      by_cases c9 : 2 + t387.size + 2 ≤ 9223372036854775807
      · rw [if_pos c9] at H
        have c9b0 := eq_true c9
        have c9b1 : decide (2 + t387.size + 2 ≤ 9223372036854775807) = true := decide_eq_true c9
        try have c9b2 : (9223372036854775807 < 2 + t387.size + 2) = False := eq_false (Nat.not_lt.2 c9)
        obtain rfl := Option.some.inj H
        go_enter Tryz.func59, Tryz.ntmps59
        go_wp2_with (first | ((with_reducible refine gate_callee (f := 113) rfl ?_); refine goesL_ (some 6) rfl rfl Tryz.func113 (by kernel_rfl) rfl #[.int .i64 a0] rfl (by (try simp only [List.map_toArray, List.map_cons, List.map_nil]); first | done | rfl | (simp only [List.length_drop, List.length_take]; rfl)) ?_; (with_reducible refine (strconv_Itoa.calls a0 t387 _ ?side1 A7.out).mono ?_); (case side1 => exact XTab.below HT.out (by repeat (first | (with_reducible first | exact HB.out | apply below_alloc | apply pw_below_drewN | apply below_drew1) | exact HB.out))); rintro e w10 ⟨rfl, hb⟩; refine ⟨_, rfl, ?_⟩; have n0_ := Aside0.mk (below_step (by repeat (first | (with_reducible first | exact HB.out | apply below_alloc | apply pw_below_drewN | apply below_drew1) | exact HB.out)) hb); clear HB; have HB := n0_; clear n0_; (try clear hb); (try clear hb2); (try clear hk); (try clear hi)))
        go_ret
        exact ⟨by first | rfl | (simp [errW_none, errW_some] <;> rfl) | (simp [*, errW_none, errW_some] <;> rfl), by repeat (first | (with_reducible first | exact HB.out | apply below_alloc | apply pw_below_drewN | apply below_drew1) | exact HB.out)⟩
      · rw [if_neg c9] at H
        exact absurd H (by simp)
    · rw [if_neg c8] at H
      exact absurd H (by simp)
end Go.Proofs.YtkklhlakklcnbaaGreatDoorRRR.Y
end
section
namespace Go.Proofs.YtkklhlakklcnbaaGreatDoorRRR.Y
open Go.RowKit Go.Proofs.YtkklhlakklcnbaaGreatDoorRRRW.PrintWords Go.Proofs.YtkklhlakklcnbaaGreatDoorRRRW.PrintLast Go.Proofs.YtkklhlakklcnbaaGreatDoorRRRW.PrintMore
def impl_MakeNumber.f (a0 : Int) (a1 : Int) : Option (ByteArray) :=
  if a0 = 0 then xansi_CursorUp.f a1 else
  if a0 = 1 then xansi_CursorDown.f a1 else
  if a0 = 2 then xansi_CursorForward.f a1 else
  if a0 = 3 then xansi_CursorBackward.f a1 else
  if a0 = 4 then xansi_CursorNextLine.f a1 else
  if a0 = 5 then xansi_CursorPreviousLine.f a1 else
  if a0 = 6 then xansi_CursorHorizontalAbsolute.f a1 else
  if a0 = 9 then xansi_EraseCharacter.f a1 else
  if a0 = 10 then xansi_EraseDisplay.f a1 else
  if a0 = 11 then xansi_EraseLine.f a1 else
  if a0 = 12 then xansi_ScrollUp.f a1 else
  if a0 = 13 then xansi_ScrollDown.f a1 else
  if a0 = 14 then xansi_InsertLine.f a1 else
  if a0 = 15 then xansi_DeleteLine.f a1 else
  if a0 = 16 then xansi_InsertCharacter.f a1 else
  if a0 = 17 then xansi_DeleteCharacter.f a1 else
  if a0 = 18 then xansi_VerticalPositionAbsolute.f a1 else
  if a0 = 19 then xansi_VerticalPositionRelative.f a1 else
  if a0 = 20 then xansi_HorizontalPositionAbsolute.f a1 else
  if a0 = 21 then xansi_HorizontalPositionRelative.f a1 else
  if a0 = 22 then xansi_RepeatPreviousCharacter.f a1 else
  if a0 = 23 then xansi_SetCursorStyle.f a1 else
  none
theorem impl_MakeNumber.calls (a0 : Int) (a1 : Int) (r : ByteArray) (w : World) (hT : XTab w) (h : impl_MakeNumber.f a0 a1 = some r) :
    Calls Tryz.prog 12 #[.int .i64 a0, .int .i64 a1] w fun e w' => e = .returned (.string r) ∧ Below w.heap.size w w' := by
  unfold impl_MakeNumber.f at h
  by_cases c0 : a0 = 0
  · subst c0
    have H := Lib.hid (xansi_CursorUp.calls a1 r w hT (by simpa using h))
    clear h
    go_enter Tryz.func12, Tryz.ntmps12
    go_wp2_with fail
    refine H.out.mono ?_
    rintro e w' ⟨rfl, hb⟩
    go_wp2_with fail
    go_ret
    exact ⟨rfl, hb⟩
  rw [if_neg c0] at h
  by_cases c1 : a0 = 1
  · subst c1
    have H := Lib.hid (xansi_CursorDown.calls a1 r w hT (by simpa using h))
    clear h
    go_enter Tryz.func12, Tryz.ntmps12
    go_wp2_with fail
    refine H.out.mono ?_
    rintro e w' ⟨rfl, hb⟩
    go_wp2_with fail
    go_ret
    exact ⟨rfl, hb⟩
  rw [if_neg c1] at h
  by_cases c2 : a0 = 2
  · subst c2
    have H := Lib.hid (xansi_CursorForward.calls a1 r w hT (by simpa using h))
    clear h
    go_enter Tryz.func12, Tryz.ntmps12
    go_wp2_with fail
    refine H.out.mono ?_
    rintro e w' ⟨rfl, hb⟩
    go_wp2_with fail
    go_ret
    exact ⟨rfl, hb⟩
  rw [if_neg c2] at h
  by_cases c3 : a0 = 3
  · subst c3
    have H := Lib.hid (xansi_CursorBackward.calls a1 r w hT (by simpa using h))
    clear h
    go_enter Tryz.func12, Tryz.ntmps12
    go_wp2_with fail
    refine H.out.mono ?_
    rintro e w' ⟨rfl, hb⟩
    go_wp2_with fail
    go_ret
    exact ⟨rfl, hb⟩
  rw [if_neg c3] at h
  by_cases c4 : a0 = 4
  · subst c4
    have H := Lib.hid (xansi_CursorNextLine.calls a1 r w hT (by simpa using h))
    clear h
    go_enter Tryz.func12, Tryz.ntmps12
    go_wp2_with fail
    refine H.out.mono ?_
    rintro e w' ⟨rfl, hb⟩
    go_wp2_with fail
    go_ret
    exact ⟨rfl, hb⟩
  rw [if_neg c4] at h
  by_cases c5 : a0 = 5
  · subst c5
    have H := Lib.hid (xansi_CursorPreviousLine.calls a1 r w hT (by simpa using h))
    clear h
    go_enter Tryz.func12, Tryz.ntmps12
    go_wp2_with fail
    refine H.out.mono ?_
    rintro e w' ⟨rfl, hb⟩
    go_wp2_with fail
    go_ret
    exact ⟨rfl, hb⟩
  rw [if_neg c5] at h
  by_cases c6 : a0 = 6
  · subst c6
    have H := Lib.hid (xansi_CursorHorizontalAbsolute.calls a1 r w hT (by simpa using h))
    clear h
    go_enter Tryz.func12, Tryz.ntmps12
    go_wp2_with fail
    refine H.out.mono ?_
    rintro e w' ⟨rfl, hb⟩
    go_wp2_with fail
    go_ret
    exact ⟨rfl, hb⟩
  rw [if_neg c6] at h
  by_cases c9 : a0 = 9
  · subst c9
    have H := Lib.hid (xansi_EraseCharacter.calls a1 r w hT (by simpa using h))
    clear h
    go_enter Tryz.func12, Tryz.ntmps12
    go_wp2_with fail
    refine H.out.mono ?_
    rintro e w' ⟨rfl, hb⟩
    go_wp2_with fail
    go_ret
    exact ⟨rfl, hb⟩
  rw [if_neg c9] at h
  by_cases c10 : a0 = 10
  · subst c10
    have H := Lib.hid (xansi_EraseDisplay.calls a1 r w hT (by simpa using h))
    clear h
    go_enter Tryz.func12, Tryz.ntmps12
    go_wp2_with fail
    refine H.out.mono ?_
    rintro e w' ⟨rfl, hb⟩
    go_wp2_with fail
    go_ret
    exact ⟨rfl, hb⟩
  rw [if_neg c10] at h
  by_cases c11 : a0 = 11
  · subst c11
    have H := Lib.hid (xansi_EraseLine.calls a1 r w hT (by simpa using h))
    clear h
    go_enter Tryz.func12, Tryz.ntmps12
    go_wp2_with fail
    refine H.out.mono ?_
    rintro e w' ⟨rfl, hb⟩
    go_wp2_with fail
    go_ret
    exact ⟨rfl, hb⟩
  rw [if_neg c11] at h
  by_cases c12 : a0 = 12
  · subst c12
    have H := Lib.hid (xansi_ScrollUp.calls a1 r w hT (by simpa using h))
    clear h
    go_enter Tryz.func12, Tryz.ntmps12
    go_wp2_with fail
    refine H.out.mono ?_
    rintro e w' ⟨rfl, hb⟩
    go_wp2_with fail
    go_ret
    exact ⟨rfl, hb⟩
  rw [if_neg c12] at h
  by_cases c13 : a0 = 13
  · subst c13
    have H := Lib.hid (xansi_ScrollDown.calls a1 r w hT (by simpa using h))
    clear h
    go_enter Tryz.func12, Tryz.ntmps12
    go_wp2_with fail
    refine H.out.mono ?_
    rintro e w' ⟨rfl, hb⟩
    go_wp2_with fail
    go_ret
    exact ⟨rfl, hb⟩
  rw [if_neg c13] at h
  by_cases c14 : a0 = 14
  · subst c14
    have H := Lib.hid (xansi_InsertLine.calls a1 r w hT (by simpa using h))
    clear h
    go_enter Tryz.func12, Tryz.ntmps12
    go_wp2_with fail
    refine H.out.mono ?_
    rintro e w' ⟨rfl, hb⟩
    go_wp2_with fail
    go_ret
    exact ⟨rfl, hb⟩
  rw [if_neg c14] at h
  by_cases c15 : a0 = 15
  · subst c15
    have H := Lib.hid (xansi_DeleteLine.calls a1 r w hT (by simpa using h))
    clear h
    go_enter Tryz.func12, Tryz.ntmps12
    go_wp2_with fail
    refine H.out.mono ?_
    rintro e w' ⟨rfl, hb⟩
    go_wp2_with fail
    go_ret
    exact ⟨rfl, hb⟩
  rw [if_neg c15] at h
  by_cases c16 : a0 = 16
  · subst c16
    have H := Lib.hid (xansi_InsertCharacter.calls a1 r w hT (by simpa using h))
    clear h
    go_enter Tryz.func12, Tryz.ntmps12
    go_wp2_with fail
    refine H.out.mono ?_
    rintro e w' ⟨rfl, hb⟩
    go_wp2_with fail
    go_ret
    exact ⟨rfl, hb⟩
  rw [if_neg c16] at h
  by_cases c17 : a0 = 17
  · subst c17
    have H := Lib.hid (xansi_DeleteCharacter.calls a1 r w hT (by simpa using h))
    clear h
    go_enter Tryz.func12, Tryz.ntmps12
    go_wp2_with fail
    refine H.out.mono ?_
    rintro e w' ⟨rfl, hb⟩
    go_wp2_with fail
    go_ret
    exact ⟨rfl, hb⟩
  rw [if_neg c17] at h
  by_cases c18 : a0 = 18
  · subst c18
    have H := Lib.hid (xansi_VerticalPositionAbsolute.calls a1 r w hT (by simpa using h))
    clear h
    go_enter Tryz.func12, Tryz.ntmps12
    go_wp2_with fail
    refine H.out.mono ?_
    rintro e w' ⟨rfl, hb⟩
    go_wp2_with fail
    go_ret
    exact ⟨rfl, hb⟩
  rw [if_neg c18] at h
  by_cases c19 : a0 = 19
  · subst c19
    have H := Lib.hid (xansi_VerticalPositionRelative.calls a1 r w hT (by simpa using h))
    clear h
    go_enter Tryz.func12, Tryz.ntmps12
    go_wp2_with fail
    refine H.out.mono ?_
    rintro e w' ⟨rfl, hb⟩
    go_wp2_with fail
    go_ret
    exact ⟨rfl, hb⟩
  rw [if_neg c19] at h
  by_cases c20 : a0 = 20
  · subst c20
    have H := Lib.hid (xansi_HorizontalPositionAbsolute.calls a1 r w hT (by simpa using h))
    clear h
    go_enter Tryz.func12, Tryz.ntmps12
    go_wp2_with fail
    refine H.out.mono ?_
    rintro e w' ⟨rfl, hb⟩
    go_wp2_with fail
    go_ret
    exact ⟨rfl, hb⟩
  rw [if_neg c20] at h
  by_cases c21 : a0 = 21
  · subst c21
    have H := Lib.hid (xansi_HorizontalPositionRelative.calls a1 r w hT (by simpa using h))
    clear h
    go_enter Tryz.func12, Tryz.ntmps12
    go_wp2_with fail
    refine H.out.mono ?_
    rintro e w' ⟨rfl, hb⟩
    go_wp2_with fail
    go_ret
    exact ⟨rfl, hb⟩
  rw [if_neg c21] at h
  by_cases c22 : a0 = 22
  · subst c22
    have H := Lib.hid (xansi_RepeatPreviousCharacter.calls a1 r w hT (by simpa using h))
    clear h
    go_enter Tryz.func12, Tryz.ntmps12
    go_wp2_with fail
    refine H.out.mono ?_
    rintro e w' ⟨rfl, hb⟩
    go_wp2_with fail
    go_ret
    exact ⟨rfl, hb⟩
  rw [if_neg c22] at h
  by_cases c23 : a0 = 23
  · subst c23
    have H := Lib.hid (xansi_SetCursorStyle.calls a1 r w hT (by simpa using h))
    clear h
    go_enter Tryz.func12, Tryz.ntmps12
    go_wp2_with fail
    refine H.out.mono ?_
    rintro e w' ⟨rfl, hb⟩
    go_wp2_with fail
    go_ret
    exact ⟨rfl, hb⟩
  rw [if_neg c23] at h
  cases h
end Go.Proofs.YtkklhlakklcnbaaGreatDoorRRR.Y
end
section
namespace Go.Proofs.YtkklhlakklcnbaaGreatDoorRRR.Y
open Go.RowKit Go.Proofs.YtkklhlakklcnbaaGreatDoorRRRW.PrintWords Go.Proofs.YtkklhlakklcnbaaGreatDoorRRRW.PrintLast Go.Proofs.YtkklhlakklcnbaaGreatDoorRRRW.PrintMore
attribute [local go_sem] max2_int min2_int max_two min_two max_three min_three max_four min_four   -- for this text's walks alone
set_option linter.unusedVariables false
set_option linter.unusedSimpArgs false
/-! ### laws_drawAwake: function 16 -/
def laws_drawAwake.f  : Option (Bool) := (impl_MakeNumber.f 0 3).bind fun t101 => ((gosem_conv.f t101).bind fun t102 => ((impl_Feed.f 32 4096 t102).bind fun t105 => (if (t105.length : Int) = 1 then (if 0 < (t105.length : Int) then (if ((rd_T74 t105 0).f0) = 2 then (some (((rd_T74 t105 0).f3) == 65)) else (some false)) else (none)) else (some false))))
end Go.Proofs.YtkklhlakklcnbaaGreatDoorRRR.Y
end
section
namespace Go.Proofs.YtkklhlakklcnbaaGreatDoorRRR.Y
open Go.RowKit Go.Proofs.YtkklhlakklcnbaaGreatDoorRRRW.PrintWords Go.Proofs.YtkklhlakklcnbaaGreatDoorRRRW.PrintLast Go.Proofs.YtkklhlakklcnbaaGreatDoorRRRW.PrintMore
attribute [local go_sem] max2_int min2_int max_two min_two max_three min_three max_four min_four   -- for this text's walks alone
set_option linter.unusedVariables false
set_option linter.unusedSimpArgs false
/-! ### laws_drawEvents: function 25 -/
def laws_drawEvents.l0 : Nat → List (S76) → List (S74) → Int → Int → Option ((List (S76)))
  | 0, _, _, _, _ => none
  | k + 1, x3, x6, x7, x8 => if x8 < x7 then (if 0 ≤ x8 then (if x8 < (x6.length : Int) then (if x3.length < 1759218604441 then (laws_drawEvents.l0 k (x3 ++ [(⟨(rd_T74 x6 x8).f0, (rd_T74 x6 x8).f1, (rd_T74 x6 x8).f2, (rd_T74 x6 x8).f3, (rd_T74 x6 x8).f4, (rd_T74 x6 x8).f5⟩ : S76)]) x6 x7 (wrap64 (x8 + 1))) else (none)) else (none)) else (none)) else (some x3)
def laws_drawEvents.f (k : Nat) (l0 : List (S74)) : Option ((List (S76))) := laws_drawEvents.l0 k ([] : List (S76)) l0 (l0.length : Int) 0
theorem laws_drawEvents.mono_l : ∀ k, (∀ y0 y1 y2 y3, LeO (laws_drawEvents.l0 k y0 y1 y2 y3) (laws_drawEvents.l0 (k + 1) y0 y1 y2 y3))
  | 0 => fun _ _ _ _ r h => by simp [laws_drawEvents.l0] at h
  | k + 1 => by
    have ih0 := laws_drawEvents.mono_l k
    · intro y0 y1 y2 y3
      unfold laws_drawEvents.l0
      repeat' first
      | (with_reducible exact ih0 _ _ _ _)
      | (with_reducible exact LeO.refl _)
      | (with_reducible exact LeO.none _)
      | (with_reducible refine LeO.ite ?_ ?_)
      | (with_reducible refine LeO.bind ?_ (fun _ => ?_))
      | exact ih0 _ _ _ _
      | exact LeO.none _
      | refine LeO.ite ?_ ?_
      | refine LeO.bind ?_ (fun _ => ?_)
theorem laws_drawEvents.mono : ∀ a0 k, LeO (laws_drawEvents.f k a0) (laws_drawEvents.f (k + 1) a0) := by
  intro a0 k
  have ih0 := laws_drawEvents.mono_l k
  unfold laws_drawEvents.f
  repeat' first
      | (with_reducible exact ih0 _ _ _ _)
      | (with_reducible exact LeO.refl _)
      | (with_reducible exact LeO.none _)
      | (with_reducible refine LeO.ite ?_ ?_)
      | (with_reducible refine LeO.bind ?_ (fun _ => ?_))
      | exact ih0 _ _ _ _
      | exact LeO.none _
      | refine LeO.ite ?_ ?_
      | refine LeO.bind ?_ (fun _ => ?_)
end Go.Proofs.YtkklhlakklcnbaaGreatDoorRRR.Y
end
section
namespace Go.Proofs.YtkklhlakklcnbaaGreatDoorRRR.X
open Go.RowKit Go.Proofs.YtkklhlakklcnbaaGreatDoorRRRW.PrintWords
set_option linter.unusedSimpArgs false
/-- A text's bytes, as numbers. -/
def nb (s : ByteArray) : List Nat := s.data.toList.map UInt8.toNat
theorem nb_bytesOf (s : ByteArray) : (bytesOf s).map Int.toNat = nb s := by simp [bytesOf, nb, Function.comp_def]
theorem nb_append (a b : ByteArray) : nb (a ++ b) = nb a ++ nb b := by
  simp only [nb, ByteArray.data_append, Array.toList_append, List.map_append]
end Go.Proofs.YtkklhlakklcnbaaGreatDoorRRR.X
end
section
namespace Go.Proofs.YtkklhlakklcnbaaGreatDoorRRR.Y
open Go.RowKit Go.Proofs.YtkklhlakklcnbaaGreatDoorRRRW.PrintWords Go.Proofs.YtkklhlakklcnbaaGreatDoorRRRW.PrintLast Go.Proofs.YtkklhlakklcnbaaGreatDoorRRRW.PrintMore
/-- More fuel gives the same. -/
theorem lift {α : Type} {f : Nat → Option α} (hm : ∀ k, LeO (f k) (f (k + 1))) {k0 k : Nat} (h : k0 ≤ k) {r : α} (he : f k0 = some r) : f k = some r := by
  obtain ⟨d, rfl⟩ := Nat.le.dest h
  induction d with
  | zero => exact he
  | succ d ih => exact hm _ r (ih (by omega))
theorem awake : laws_drawAwake.f = some true := by kernel_rfl
theorem wrap64_of (n : Int) (h0 : -9223372036854775808 ≤ n) (h1 : n ≤ 9223372036854775807) : wrap64 n = n := by unfold wrap64; omega
/-- An event, as the specification has it. -/
def cv (e : S74) : S76 := ⟨e.f0, e.f1, e.f2, e.f3, e.f4, e.f5⟩
theorem rdT_at (l : List S74) (i : Nat) (h : i < l.length) : rd_T74 l (i : Int) = l[i] := by
  simp [rd_T74, h]
theorem rdU_at (l : List S76) (i : Nat) (h : i < l.length) : rd_T76 l (i : Int) = l[i] := by
  simp [rd_T76, h]
theorem conv_f (s : ByteArray) (h : s.size ≤ 100000000000) : gosem_conv.f s = some (bytesOf s) := by
  unfold gosem_conv.f
  rw [if_pos (by omega)]
theorem feed_f (s : ByteArray) (h : s.size ≤ 100000000000) {st : X.PS} {evs : List X.Ev} (hr : X.run .gr (X.nb s) = some (st, evs)) : impl_Feed.f 32 4096 (bytesOf s) = some (evs.map X.toS) := by
  have hp : ∀ x ∈ bytesOf s, 0 ≤ x := fun x hx => by
    obtain ⟨b, _, rfl⟩ := List.mem_map.1 hx
    omega
  have hl : (bytesOf s).length ≤ 100000000000 := by rw [bytesOf_length]; exact h
  unfold impl_Feed.f
  rw [if_pos ⟨rfl, rfl, hl, hp⟩, X.nb_bytesOf, hr]
  rfl
end Go.Proofs.YtkklhlakklcnbaaGreatDoorRRR.Y
end
section
namespace Go.Proofs.YtkklhlakklcnbaaGreatDoorRRR.Y
open Go.RowKit Go.Proofs.YtkklhlakklcnbaaGreatDoorRRRW.PrintWords Go.Proofs.YtkklhlakklcnbaaGreatDoorRRRW.PrintLast Go.Proofs.YtkklhlakklcnbaaGreatDoorRRRW.PrintMore
attribute [local go_sem] max2_int min2_int max_two min_two max_three min_three max_four min_four   -- for this text's walks alone
set_option linter.unusedVariables false
set_option linter.unusedSimpArgs false
/-! ### spec_drawBehind: function 112 -/
def spec_drawBehind.l0 : Nat → ByteArray → Int → Int → Int → Option (ByteArray)
  | 0, _, _, _, _ => none
  | k + 1, x0, x1, x7, x8 => if x8 < x7 then (if 0 ≤ x8 then (if x8 < (x0.size : Int) then (if (bt x0 x8) = 59 then (if (wrap64 (x1 - 1)) = 0 then (if 0 ≤ (wrap64 (x8 + 1)) then (if (wrap64 (x8 + 1)) ≤ (x0.size : Int) then (some (x0.extract ((wrap64 (x8 + 1)) : Int).toNat x0.size)) else (none)) else (none)) else (spec_drawBehind.l0 k x0 (wrap64 (x1 - 1)) x7 (wrap64 (x8 + 1)))) else (spec_drawBehind.l0 k x0 x1 x7 (wrap64 (x8 + 1)))) else (none)) else (none)) else (some (⟨#[]⟩ : ByteArray))
def spec_drawBehind.f (k : Nat) (a0 : ByteArray) (a1 : Int) : Option (ByteArray) := spec_drawBehind.l0 k a0 a1 (a0.size : Int) 0
theorem spec_drawBehind.mono_l : ∀ k, (∀ y0 y1 y2 y3, LeO (spec_drawBehind.l0 k y0 y1 y2 y3) (spec_drawBehind.l0 (k + 1) y0 y1 y2 y3))
  | 0 => fun _ _ _ _ r h => by simp [spec_drawBehind.l0] at h
  | k + 1 => by
    have ih0 := spec_drawBehind.mono_l k
    · intro y0 y1 y2 y3
      unfold spec_drawBehind.l0
      repeat' first
      | (with_reducible exact ih0 _ _ _ _)
      | (with_reducible exact LeO.refl _)
      | (with_reducible exact LeO.none _)
      | (with_reducible refine LeO.ite ?_ ?_)
      | (with_reducible refine LeO.bind ?_ (fun _ => ?_))
      | exact ih0 _ _ _ _
      | exact LeO.none _
      | refine LeO.ite ?_ ?_
      | refine LeO.bind ?_ (fun _ => ?_)
theorem spec_drawBehind.mono : ∀ a0 a1 k, LeO (spec_drawBehind.f k a0 a1) (spec_drawBehind.f (k + 1) a0 a1) := by
  intro a0 a1 k
  have ih0 := spec_drawBehind.mono_l k
  unfold spec_drawBehind.f
  repeat' first
      | (with_reducible exact ih0 _ _ _ _)
      | (with_reducible exact LeO.refl _)
      | (with_reducible exact LeO.none _)
      | (with_reducible refine LeO.ite ?_ ?_)
      | (with_reducible refine LeO.bind ?_ (fun _ => ?_))
      | exact ih0 _ _ _ _
      | exact LeO.none _
      | refine LeO.ite ?_ ?_
      | refine LeO.bind ?_ (fun _ => ?_)
end Go.Proofs.YtkklhlakklcnbaaGreatDoorRRR.Y
end
section
namespace Go.Proofs.YtkklhlakklcnbaaGreatDoorRRR.Y
open Go.RowKit Go.Proofs.YtkklhlakklcnbaaGreatDoorRRRW.PrintWords Go.Proofs.YtkklhlakklcnbaaGreatDoorRRRW.PrintLast Go.Proofs.YtkklhlakklcnbaaGreatDoorRRRW.PrintMore
attribute [local go_sem] max2_int min2_int max_two min_two max_three min_three max_four min_four   -- for this text's walks alone
set_option linter.unusedVariables false
set_option linter.unusedSimpArgs false
/-! ### spec_DrawTold: function 35 -/
mutual
def spec_DrawTold.l0 : Nat → List Int → List ByteArray → List (S76) → Int → Int → Option (List ByteArray)
  | 0, _, _, _, _, _ => none
  | k + 1, x1, x5, x13, x14, x15 => if x15 < x14 then (if 0 ≤ x15 then (if x15 < (x13.length : Int) then (spec_DrawTold.l1 k x1 x5 x13 x14 x15 x1 (x1.length : Int) 0 ((rd_T76 x13 x15).f0) ((rd_T76 x13 x15).f1) ((rd_T76 x13 x15).f2) ((rd_T76 x13 x15).f3) ((rd_T76 x13 x15).f4) ((rd_T76 x13 x15).f5)) else (none)) else (none)) else (some x5)
def spec_DrawTold.l1 : Nat → List Int → List ByteArray → List (S76) → Int → Int → List Int → Int → Int → Int → Int → Int → Int → List Int → List Int → Option (List ByteArray)
  | 0, _, _, _, _, _, _, _, _, _, _, _, _, _, _ => none
  | k + 1, x1, x5, x13, x14, x15, x19, x20, x21, x226000, x226001, x226002, x226003, x226004, x226005 => if x21 < x20 then (if 0 ≤ x21 then (if x21 < (x19.length : Int) then (if x226000 = 5 then (if x226003 = (rd x19 x21) then ((spec_drawBehind.f k (strOfNums x226005) 1).bind fun t227 => (if x21 < (x5.length : Int) then (spec_DrawTold.l1 k x1 (x5.set (x21 : Int).toNat t227) x13 x14 x15 x19 x20 (wrap64 (x21 + 1)) x226000 x226001 x226002 x226003 x226004 x226005) else (none))) else (spec_DrawTold.l1 k x1 x5 x13 x14 x15 x19 x20 (wrap64 (x21 + 1)) x226000 x226001 x226002 x226003 x226004 x226005)) else (spec_DrawTold.l1 k x1 x5 x13 x14 x15 x19 x20 (wrap64 (x21 + 1)) x226000 x226001 x226002 x226003 x226004 x226005)) else (none)) else (none)) else (spec_DrawTold.l0 k x1 x5 x13 x14 (wrap64 (x15 + 1)))
end
def spec_DrawTold.f (k : Nat) (l0 : List (S76)) (l1 : List Int) : Option (List ByteArray) := if 0 ≤ (l1.length : Int) then (if ((l1.length : Int) : Int).toNat ≤ 17592186044416 then (spec_DrawTold.l0 k l1 (List.replicate ((l1.length : Int) : Int).toNat (⟨#[]⟩ : ByteArray)) l0 (l0.length : Int) 0) else (none)) else (none)
theorem spec_DrawTold.mono_l : ∀ k, (∀ y0 y1 y2 y3 y4, LeO (spec_DrawTold.l0 k y0 y1 y2 y3 y4) (spec_DrawTold.l0 (k + 1) y0 y1 y2 y3 y4)) ∧ (∀ y0 y1 y2 y3 y4 y5 y6 y7 y8 y9 y10 y11 y12 y13, LeO (spec_DrawTold.l1 k y0 y1 y2 y3 y4 y5 y6 y7 y8 y9 y10 y11 y12 y13) (spec_DrawTold.l1 (k + 1) y0 y1 y2 y3 y4 y5 y6 y7 y8 y9 y10 y11 y12 y13))
  | 0 => ⟨fun _ _ _ _ _ r h => by simp [spec_DrawTold.l0] at h, fun _ _ _ _ _ _ _ _ _ _ _ _ _ _ r h => by simp [spec_DrawTold.l1] at h⟩
  | k + 1 => by
    obtain ⟨ih0, ih1⟩ := spec_DrawTold.mono_l k
    refine ⟨?_, ?_⟩
    · intro y0 y1 y2 y3 y4
      unfold spec_DrawTold.l0
      repeat' first
      | (with_reducible exact ih0 _ _ _ _ _)
      | (with_reducible exact ih1 _ _ _ _ _ _ _ _ _ _ _ _ _ _)
      | (with_reducible exact spec_drawBehind.mono _ _ _)
      | (with_reducible exact LeO.refl _)
      | (with_reducible exact LeO.none _)
      | (with_reducible refine LeO.ite ?_ ?_)
      | (with_reducible refine LeO.bind ?_ (fun _ => ?_))
      | exact ih0 _ _ _ _ _
      | exact ih1 _ _ _ _ _ _ _ _ _ _ _ _ _ _
      | exact spec_drawBehind.mono _ _ _
      | exact LeO.none _
      | refine LeO.ite ?_ ?_
      | refine LeO.bind ?_ (fun _ => ?_)
    · intro y0 y1 y2 y3 y4 y5 y6 y7 y8 y9 y10 y11 y12 y13
      unfold spec_DrawTold.l1
      repeat' first
      | (with_reducible exact ih0 _ _ _ _ _)
      | (with_reducible exact ih1 _ _ _ _ _ _ _ _ _ _ _ _ _ _)
      | (with_reducible exact spec_drawBehind.mono _ _ _)
      | (with_reducible exact LeO.refl _)
      | (with_reducible exact LeO.none _)
      | (with_reducible refine LeO.ite ?_ ?_)
      | (with_reducible refine LeO.bind ?_ (fun _ => ?_))
      | exact ih0 _ _ _ _ _
      | exact ih1 _ _ _ _ _ _ _ _ _ _ _ _ _ _
      | exact spec_drawBehind.mono _ _ _
      | exact LeO.none _
      | refine LeO.ite ?_ ?_
      | refine LeO.bind ?_ (fun _ => ?_)
theorem spec_DrawTold.mono : ∀ a0 a1 k, LeO (spec_DrawTold.f k a0 a1) (spec_DrawTold.f (k + 1) a0 a1) := by
  intro a0 a1 k
  obtain ⟨ih0, ih1⟩ := spec_DrawTold.mono_l k
  unfold spec_DrawTold.f
  repeat' first
      | (with_reducible exact ih0 _ _ _ _ _)
      | (with_reducible exact ih1 _ _ _ _ _ _ _ _ _ _ _ _ _ _)
      | (with_reducible exact spec_drawBehind.mono _ _ _)
      | (with_reducible exact LeO.refl _)
      | (with_reducible exact LeO.none _)
      | (with_reducible refine LeO.ite ?_ ?_)
      | (with_reducible refine LeO.bind ?_ (fun _ => ?_))
      | exact ih0 _ _ _ _ _
      | exact ih1 _ _ _ _ _ _ _ _ _ _ _ _ _ _
      | exact spec_drawBehind.mono _ _ _
      | exact LeO.none _
      | refine LeO.ite ?_ ?_
      | refine LeO.bind ?_ (fun _ => ?_)
end Go.Proofs.YtkklhlakklcnbaaGreatDoorRRR.Y
end
section
namespace Go.Proofs.YtkklhlakklcnbaaGreatDoorRRR.Y
open Go.RowKit Go.Proofs.YtkklhlakklcnbaaGreatDoorRRRW.PrintWords Go.Proofs.YtkklhlakklcnbaaGreatDoorRRRW.PrintLast Go.Proofs.YtkklhlakklcnbaaGreatDoorRRRW.PrintMore
abbrev SEv := S76
def nums (l : List UInt8) : List Int := l.map fun b => (b.toNat : Int)
def nn (l : List UInt8) : List Nat := l.map UInt8.toNat
theorem strOf_nums (l : List UInt8) : strOfNums (nums l) = ⟨l.toArray⟩ := by
  apply ByteArray.ext
  apply Array.toList_inj.1
  simp [strOfNums, nums, Function.comp_def]
theorem bt_get (s : ByteArray) (i : Nat) (b : UInt8) (h : s.data.toList[i]? = some b) : bt s (i : Int) = (b.toNat : Int) := by
  rw [← rd_bytesOf, rd, Int.toNat_natCast, List.getD_eq_getElem?_getD, bytesOf, List.getElem?_map, h]
  rfl
theorem wup (i : Nat) (h : i < 1000000000000) : wrap64 ((i : Int) + 1) = ((i + 1 : Nat) : Int) := by rw [wrap64_of _ (by omega) (by omega)]; omega
/-- Behind the first ';'. -/
theorem behind_l0 (s : ByteArray) (p q : List UInt8) (hs : s.data.toList = p ++ 59 :: q) (hp : ∀ b ∈ p, b ≠ 59) (hl : s.size ≤ 100000) : ∀ (m i k : Nat), i + m = p.length → m + 1 ≤ k →
    spec_drawBehind.l0 k s 1 (s.size : Int) (i : Int) = some ⟨q.toArray⟩
  | 0, i, k + 1, h, hk => by
    have hlen : s.data.toList.length = s.size := data_length s
    have hL : s.data.toList.length = p.length + (q.length + 1) := by rw [hs]; simp
    have hi : i = p.length := by omega
    have hb : bt s (i : Int) = 59 := bt_get s i 59 (by rw [hs, hi]; simp)
    have h1 : wrap64 (1 - 1) = 0 := by unfold wrap64; omega
    rw [spec_drawBehind.l0, if_pos (by omega), if_pos (by omega), if_pos (by omega), hb, if_pos rfl, if_pos h1, wup i (by omega), if_pos (by omega), if_pos (by omega), Int.toNat_natCast]
    congr 1
    apply ByteArray.ext
    apply Array.toList_inj.1
    simp only [ByteArray.data_extract, Array.toList_extract, List.extract_eq_take_drop]
    rw [hs, hi, List.take_of_length_le]
    · simp
    · rw [List.length_drop, ← hs]; omega
  | m + 1, i, k + 1, h, hk => by
    have hlen : s.data.toList.length = s.size := data_length s
    have hL : s.data.toList.length = p.length + (q.length + 1) := by rw [hs]; simp
    have hi : i < p.length := by omega
    have hb : bt s (i : Int) = (p[i].toNat : Int) := bt_get s i p[i] (by rw [hs, List.getElem?_append_left hi, List.getElem?_eq_getElem hi])
    have hne : ¬ (p[i].toNat : Int) = 59 := fun e => hp _ (List.getElem_mem hi) (UInt8.toNat_inj.1 (by show _ = 59; omega))
    rw [spec_drawBehind.l0, if_pos (by omega), if_pos (by omega), if_pos (by omega), hb, if_neg hne, wup i (by omega)]
    exact behind_l0 s p q hs hp hl m (i + 1) k (by omega) (by omega)
theorem behind_f (p q : List UInt8) (hp : ∀ b ∈ p, b ≠ 59) (hl : p.length + q.length ≤ 90000) (k : Nat) (hk : p.length + 1 ≤ k) :
    spec_drawBehind.f k (strOfNums (nums (p ++ 59 :: q))) 1 = some ⟨q.toArray⟩ := by
  rw [strOf_nums]
  unfold spec_drawBehind.f
  exact behind_l0 ⟨(p ++ 59 :: q).toArray⟩ p q rfl hp (by show (p ++ 59 :: q).toArray.size ≤ _; simp; omega) p.length 0 k (by omega) hk
/-- One command told, to those that ask for it. -/
def tell (cs : List Int) (c : Int) (t : ByteArray) (v : List ByteArray) : List ByteArray := List.zipWith (fun d x => if c = d then t else x) cs v
theorem tell_len (cs : List Int) (c : Int) (t : ByteArray) (v : List ByteArray) (h : v.length = cs.length) : (tell cs c t v).length = cs.length := by
  unfold tell
  rw [List.length_zipWith, h, Nat.min_self]
theorem told_l1 (cs : List Int) (hcs : cs.length ≤ 100) (E : List SEv) (x14 x15 g0 g1 g2 g3 : Int) (g4 g5 : List Int) (t : ByteArray) (kb : Nat) (h0 : g0 = 5) (ht : spec_drawBehind.f kb (strOfNums g5) 1 = some t) :
    ∀ (cb ca : List Int) (a b : List ByteArray) (j : Nat), ca ++ cb = cs → ca.length = a.length → cb.length = b.length → kb ≤ j →
      spec_DrawTold.l1 (j + cb.length + 1) cs (a ++ b) E x14 x15 cs (cs.length : Int) (ca.length : Int) g0 g1 g2 g3 g4 g5 = spec_DrawTold.l0 j cs (a ++ tell cb g3 t b) E x14 (wrap64 (x15 + 1))
  | [], ca, a, b, j, hc, ha, hb, hj => by
    have hb0 : b = [] := List.length_eq_zero_iff.1 hb.symm
    subst hb0
    have hL := congrArg List.length hc
    simp only [List.length_append, List.length_nil] at hL
    rw [spec_DrawTold.l1, if_neg (by omega)]
    simp [tell]
  | d :: cb, ca, a, [], j, hc, ha, hb, hj => by simp at hb
  | d :: cb, ca, a, x :: b, j, hc, ha, hb, hj => by
    have hL := congrArg List.length hc
    simp only [List.length_append, List.length_cons] at hL hb
    have hr : rd cs (ca.length : Int) = d := by rw [← hc]; simp [rd]
    have ih := fun z => told_l1 cs hcs E x14 x15 g0 g1 g2 g3 g4 g5 t kb h0 ht cb (ca ++ [d]) (a ++ [z]) b j (by rw [← hc]; simp) (by simp [ha]) (by omega) hj
    have hk : j + (d :: cb).length + 1 = (j + cb.length + 1) + 1 := by simp; omega
    have e1 : ((ca ++ [d]).length : Int) = ((ca.length + 1 : Nat) : Int) := by simp
    rw [hk, spec_DrawTold.l1, if_pos (by omega), if_pos (by omega), if_pos (by omega), if_pos h0, hr, wup _ (by omega)]
    by_cases hd : g3 = d
    · have ih1 := ih t
      rw [e1] at ih1
      rw [if_pos hd, lift (spec_drawBehind.mono _ _) (by omega) ht, Option.bind_some, if_pos (by simp; omega), Int.toNat_natCast, ha, ← ha]
      have e2 : (a ++ x :: b).set ca.length t = (a ++ [t]) ++ b := by rw [ha]; simp
      rw [e2, ih1]
      simp [tell, hd]
    · have ih1 := ih x
      rw [e1] at ih1
      rw [if_neg hd]
      have e2 : (a ++ x :: b) = (a ++ [x]) ++ b := by simp
      rw [e2, ih1]
      simp [tell, hd]
theorem rdU_of_drop {l r : List SEv} {a : SEv} {i : Nat} (h : l.drop i = a :: r) : i < l.length ∧ rd_T76 l (i : Int) = a ∧ l.drop (i + 1) = r := by
  have hi : i < l.length := by
    rcases Nat.lt_or_ge i l.length with h' | h'
    · exact h'
    · rw [List.drop_of_length_le h'] at h
      cases h
  have h2 := List.drop_eq_getElem_cons hi
  rw [h] at h2
  injection h2 with h3 h4
  exact ⟨hi, by rw [rdU_at l i hi, h3], h4.symm⟩
section
variable {α : Type} (g : α → SEv) (c : α → Int) (t : α → ByteArray) (kb : Nat)
theorem told_l0 (cs : List Int) (hcs : cs.length ≤ 100) (E : List SEv) (hE : E.length ≤ 1000000) : ∀ (l : List α) (i k : Nat) (v : List ByteArray), (∀ a ∈ l, (g a).f0 = 5 ∧ (g a).f3 = c a ∧ spec_drawBehind.f kb (strOfNums (g a).f5) 1 = some (t a)) →
    E.drop i = l.map g → v.length = cs.length → kb + l.length * (cs.length + 2) + 1 ≤ k →
    spec_DrawTold.l0 k cs v E (E.length : Int) (i : Int) = some (l.foldl (fun v a => tell cs (c a) (t a) v) v)
  | [], i, k, v, _, hd, hv, hk => by
    obtain ⟨k, rfl⟩ : ∃ k', k = k' + 1 := ⟨k - 1, by omega⟩
    have hi : E.length ≤ i := by
      rcases Nat.lt_or_ge i E.length with h | h
      · rw [List.drop_eq_getElem_cons h] at hd
        cases hd
      · exact h
    rw [spec_DrawTold.l0, if_neg (by omega)]
    rfl
  | a :: l, i, k, v, hg, hd, hv, hk => by
    obtain ⟨h1, h2, h3⟩ := rdU_of_drop hd
    obtain ⟨g0, g3, gt⟩ := hg a (by simp)
    have hm : (a :: l).length * (cs.length + 2) = l.length * (cs.length + 2) + (cs.length + 2) := by rw [List.length_cons, Nat.succ_mul]
    obtain ⟨k, rfl⟩ : ∃ k', k = (k' + cs.length + 1) + 1 := ⟨k - cs.length - 2, by omega⟩
    have e1 := told_l1 cs hcs E (E.length : Int) (i : Int) (g a).f0 (g a).f1 (g a).f2 (g a).f3 (g a).f4 (g a).f5 (t a) kb g0 gt cs [] [] v k rfl rfl hv.symm (by omega)
    rw [spec_DrawTold.l0, if_pos (by omega), if_pos (by omega), if_pos (by omega), h2]
    have e2 : ((([] : List Int).length : Nat) : Int) = 0 := rfl
    rw [e2, List.nil_append, List.nil_append, g3, wup i (by omega)] at e1
    rw [g3, e1]
    exact told_l0 cs hcs E hE l (i + 1) k _ (fun b hb => hg b (List.mem_cons_of_mem _ hb)) h3 (tell_len _ _ _ _ hv) (by omega)
theorem told_f (cs : List Int) (hcs : cs.length ≤ 100) (l : List α) (hl : l.length ≤ 1000000) (hg : ∀ a ∈ l, (g a).f0 = 5 ∧ (g a).f3 = c a ∧ spec_drawBehind.f kb (strOfNums (g a).f5) 1 = some (t a)) (k : Nat) (hk : kb + l.length * (cs.length + 2) + 1 ≤ k) :
    spec_DrawTold.f k (l.map g) cs = some (l.foldl (fun v a => tell cs (c a) (t a) v) (List.replicate cs.length ⟨#[]⟩)) := by
  unfold spec_DrawTold.f
  rw [if_pos (by omega), Int.toNat_natCast, if_pos (by omega)]
  exact told_l0 g c t kb cs hcs (l.map g) (by simpa using hl) l 0 k _ hg (by simp) (by simp) hk
end
/-- The text of a system command. -/
theorem run_osc (cmd : Int) (hc : cmd ≠ X.Miss) (r : List UInt8) : ∀ d : List Int, (∀ b ∈ r, 32 ≤ b.toNat ∧ b.toNat ≤ 126) → d.length + r.length ≤ 4000 → X.run (.osc cmd d) (nn r) = some (.osc cmd (d ++ nums r), []) := by
  induction r with
  | nil => intro d _ _; simp [nn, nums, X.run]
  | cons b r ih =>
    intro d hb hl
    obtain ⟨b0, b1⟩ := hb b (by simp)
    have h1 : X.step (.osc cmd d) b.toNat = some (.osc cmd (d ++ [(b.toNat : Int)]), []) := by
      simp only [X.step]
      rw [if_pos (by omega), if_pos (by simp only [List.length_cons] at hl; omega), if_neg (fun h => hc h.2)]
    have h2 := ih (d ++ [(b.toNat : Int)]) (fun c hc => hb c (List.mem_cons_of_mem _ hc)) (by simp only [List.length_append, List.length_cons, List.length_nil] at hl ⊢; omega)
    show X.run _ (b.toNat :: nn r) = _
    rw [X.run, h1, Option.bind_some, h2]
    simp [nums, List.append_assoc]
theorem osc_run (c : Int) (hc : c ≠ X.Miss) (p : List UInt8) (hp : X.run .gr ([27, 93] ++ nn p ++ [59]) = some (.osc c (nums (p ++ [59])), [])) (s : List UInt8) (hs : ∀ b ∈ s, 32 ≤ b.toNat ∧ b.toNat ≤ 126) (hl : p.length + s.length ≤ 3990) :
    X.run .gr ([27, 93] ++ nn p ++ [59] ++ nn s ++ [7]) = some (.gr, [X.evOsc c (nums (p ++ 59 :: s))]) := by
  have h1 := X.run_of hp (run_osc c hc s (nums (p ++ [59])) hs (by simp [nums]; omega))
  have h2 : X.run (.osc c (nums (p ++ [59]) ++ nums s)) [7] = some (.gr, [X.evOsc c (nums (p ++ 59 :: s))]) := by
    have : nums (p ++ [59]) ++ nums s = nums (p ++ 59 :: s) := by simp [nums]
    rw [this]
    simp [X.run, X.step, hc]
  exact X.run_of h1 h2
end Go.Proofs.YtkklhlakklcnbaaGreatDoorRRR.Y
end
section
namespace Go.Proofs.YtkklhlakklcnbaaGreatDoorRRR.Y
open Go.RowKit Go.Proofs.YtkklhlakklcnbaaGreatDoorRRRW.PrintWords Go.Proofs.YtkklhlakklcnbaaGreatDoorRRRW.PrintLast Go.Proofs.YtkklhlakklcnbaaGreatDoorRRRW.PrintMore
attribute [local go_sem] max2_int min2_int max_two min_two max_three min_three max_four min_four   -- for this text's walks alone
set_option linter.unusedVariables false
set_option linter.unusedSimpArgs false
/-! ### spec_DrawWord: function 33 -/
def spec_DrawWord.l0 : Nat → ByteArray → Int → Int → Int → Option (Bool)
  | 0, _, _, _, _ => none
  | k + 1, x0, x1, x9, x10 => if x10 < x9 then (if 0 ≤ x10 then (if x10 < (x0.size : Int) then (if 97 ≤ (bt x0 x10) then (if (bt x0 x10) ≤ 122 then (spec_DrawWord.l0 k x0 x1 x9 (wrap64 (x10 + 1))) else (if 65 ≤ (bt x0 x10) then (if ((bt x0 x10) ≤ 90) then (spec_DrawWord.l0 k x0 x1 x9 (wrap64 (x10 + 1))) else (if x10 = 0 then (some false) else (if (bt x0 x10) < 48 then (if (bt x0 x10) = 32 then (spec_DrawWord.l0 k x0 x1 x9 (wrap64 (x10 + 1))) else (if (bt x0 x10) = 46 then (spec_DrawWord.l0 k x0 x1 x9 (wrap64 (x10 + 1))) else (some false))) else (if (bt x0 x10) > 57 then (if (bt x0 x10) = 32 then (spec_DrawWord.l0 k x0 x1 x9 (wrap64 (x10 + 1))) else (if (bt x0 x10) = 46 then (spec_DrawWord.l0 k x0 x1 x9 (wrap64 (x10 + 1))) else (some false))) else (spec_DrawWord.l0 k x0 x1 x9 (wrap64 (x10 + 1))))))) else (if x10 = 0 then (some false) else (if (bt x0 x10) < 48 then (if (bt x0 x10) = 32 then (spec_DrawWord.l0 k x0 x1 x9 (wrap64 (x10 + 1))) else (if (bt x0 x10) = 46 then (spec_DrawWord.l0 k x0 x1 x9 (wrap64 (x10 + 1))) else (some false))) else (if (bt x0 x10) > 57 then (if (bt x0 x10) = 32 then (spec_DrawWord.l0 k x0 x1 x9 (wrap64 (x10 + 1))) else (if (bt x0 x10) = 46 then (spec_DrawWord.l0 k x0 x1 x9 (wrap64 (x10 + 1))) else (some false))) else (spec_DrawWord.l0 k x0 x1 x9 (wrap64 (x10 + 1)))))))) else (if 65 ≤ (bt x0 x10) then (if ((bt x0 x10) ≤ 90) then (spec_DrawWord.l0 k x0 x1 x9 (wrap64 (x10 + 1))) else (if x10 = 0 then (some false) else (if (bt x0 x10) < 48 then (if (bt x0 x10) = 32 then (spec_DrawWord.l0 k x0 x1 x9 (wrap64 (x10 + 1))) else (if (bt x0 x10) = 46 then (spec_DrawWord.l0 k x0 x1 x9 (wrap64 (x10 + 1))) else (some false))) else (if (bt x0 x10) > 57 then (if (bt x0 x10) = 32 then (spec_DrawWord.l0 k x0 x1 x9 (wrap64 (x10 + 1))) else (if (bt x0 x10) = 46 then (spec_DrawWord.l0 k x0 x1 x9 (wrap64 (x10 + 1))) else (some false))) else (spec_DrawWord.l0 k x0 x1 x9 (wrap64 (x10 + 1))))))) else (if x10 = 0 then (some false) else (if (bt x0 x10) < 48 then (if (bt x0 x10) = 32 then (spec_DrawWord.l0 k x0 x1 x9 (wrap64 (x10 + 1))) else (if (bt x0 x10) = 46 then (spec_DrawWord.l0 k x0 x1 x9 (wrap64 (x10 + 1))) else (some false))) else (if (bt x0 x10) > 57 then (if (bt x0 x10) = 32 then (spec_DrawWord.l0 k x0 x1 x9 (wrap64 (x10 + 1))) else (if (bt x0 x10) = 46 then (spec_DrawWord.l0 k x0 x1 x9 (wrap64 (x10 + 1))) else (some false))) else (spec_DrawWord.l0 k x0 x1 x9 (wrap64 (x10 + 1)))))))) else (none)) else (none)) else (if (x0.size : Int) ≥ 1 then (some (decide ((x0.size : Int) ≤ x1))) else (some false))
def spec_DrawWord.f (k : Nat) (a0 : ByteArray) (a1 : Int) : Option (Bool) := spec_DrawWord.l0 k a0 a1 (a0.size : Int) 0
theorem spec_DrawWord.mono_l : ∀ k, (∀ y0 y1 y2 y3, LeO (spec_DrawWord.l0 k y0 y1 y2 y3) (spec_DrawWord.l0 (k + 1) y0 y1 y2 y3))
  | 0 => fun _ _ _ _ r h => by simp [spec_DrawWord.l0] at h
  | k + 1 => by
    have ih0 := spec_DrawWord.mono_l k
    · intro y0 y1 y2 y3
      unfold spec_DrawWord.l0
      repeat' first
      | (with_reducible exact ih0 _ _ _ _)
      | (with_reducible exact LeO.refl _)
      | (with_reducible exact LeO.none _)
      | (with_reducible refine LeO.ite ?_ ?_)
      | (with_reducible refine LeO.bind ?_ (fun _ => ?_))
      | exact ih0 _ _ _ _
      | exact LeO.none _
      | refine LeO.ite ?_ ?_
      | refine LeO.bind ?_ (fun _ => ?_)
theorem spec_DrawWord.mono : ∀ a0 a1 k, LeO (spec_DrawWord.f k a0 a1) (spec_DrawWord.f (k + 1) a0 a1) := by
  intro a0 a1 k
  have ih0 := spec_DrawWord.mono_l k
  unfold spec_DrawWord.f
  repeat' first
      | (with_reducible exact ih0 _ _ _ _)
      | (with_reducible exact LeO.refl _)
      | (with_reducible exact LeO.none _)
      | (with_reducible refine LeO.ite ?_ ?_)
      | (with_reducible refine LeO.bind ?_ (fun _ => ?_))
      | exact ih0 _ _ _ _
      | exact LeO.none _
      | refine LeO.ite ?_ ?_
      | refine LeO.bind ?_ (fun _ => ?_)
end Go.Proofs.YtkklhlakklcnbaaGreatDoorRRR.Y
end
section
namespace Go.Proofs.YtkklhlakklcnbaaGreatDoorRRR.Y
open Go.RowKit Go.Proofs.YtkklhlakklcnbaaGreatDoorRRRW.PrintWords Go.Proofs.YtkklhlakklcnbaaGreatDoorRRRW.PrintLast Go.Proofs.YtkklhlakklcnbaaGreatDoorRRRW.PrintMore
attribute [local go_sem] max2_int min2_int max_two min_two max_three min_three max_four min_four   -- for this text's walks alone
set_option linter.unusedVariables false
set_option linter.unusedSimpArgs false
/-! ### laws_zzFits8: function 98 -/
def laws_zzFits8.f (a0_0 : Int) (a0_1 : ByteArray) : Option (Bool) := if (a0_1.size : Int) > 2147483647 then (some false) else (some true)
end Go.Proofs.YtkklhlakklcnbaaGreatDoorRRR.Y
end
section
namespace Go.Proofs.YtkklhlakklcnbaaGreatDoorRRR.Y
open Go.RowKit Go.Proofs.YtkklhlakklcnbaaGreatDoorRRRW.PrintWords Go.Proofs.YtkklhlakklcnbaaGreatDoorRRRW.PrintLast Go.Proofs.YtkklhlakklcnbaaGreatDoorRRRW.PrintMore
attribute [local go_sem] max2_int min2_int max_two min_two max_three min_three max_four min_four   -- for this text's walks alone
set_option linter.unusedVariables false
set_option linter.unusedSimpArgs false
/-! ### laws_zzFits7: function 32 -/
def laws_zzFits7.l0 : Nat → List (S70) → Int → Int → Option (Bool)
  | 0, _, _, _ => none
  | k + 1, x8, x9, x10 => if x10 < x9 then (if 0 ≤ x10 then (if x10 < (x8.length : Int) then ((laws_zzFits8.f ((rd_T70 x8 x10).f0) ((rd_T70 x8 x10).f1)).bind fun t212 => (if t212 = true then (laws_zzFits7.l0 k x8 x9 (wrap64 (x10 + 1))) else (some false))) else (none)) else (none)) else (some true)
def laws_zzFits7.f (k : Nat) (l0 : List (S70)) : Option (Bool) := if (l0.length : Int) > 2147483647 then (some false) else (laws_zzFits7.l0 k l0 (l0.length : Int) 0)
theorem laws_zzFits7.mono_l : ∀ k, (∀ y0 y1 y2, LeO (laws_zzFits7.l0 k y0 y1 y2) (laws_zzFits7.l0 (k + 1) y0 y1 y2))
  | 0 => fun _ _ _ r h => by simp [laws_zzFits7.l0] at h
  | k + 1 => by
    have ih0 := laws_zzFits7.mono_l k
    · intro y0 y1 y2
      unfold laws_zzFits7.l0
      repeat' first
      | (with_reducible exact ih0 _ _ _)
      | (with_reducible exact LeO.refl _)
      | (with_reducible exact LeO.none _)
      | (with_reducible refine LeO.ite ?_ ?_)
      | (with_reducible refine LeO.bind ?_ (fun _ => ?_))
      | exact ih0 _ _ _
      | exact LeO.none _
      | refine LeO.ite ?_ ?_
      | refine LeO.bind ?_ (fun _ => ?_)
theorem laws_zzFits7.mono : ∀ a0 k, LeO (laws_zzFits7.f k a0) (laws_zzFits7.f (k + 1) a0) := by
  intro a0 k
  have ih0 := laws_zzFits7.mono_l k
  unfold laws_zzFits7.f
  repeat' first
      | (with_reducible exact ih0 _ _ _)
      | (with_reducible exact LeO.refl _)
      | (with_reducible exact LeO.none _)
      | (with_reducible refine LeO.ite ?_ ?_)
      | (with_reducible refine LeO.bind ?_ (fun _ => ?_))
      | exact ih0 _ _ _
      | exact LeO.none _
      | refine LeO.ite ?_ ?_
      | refine LeO.bind ?_ (fun _ => ?_)
end Go.Proofs.YtkklhlakklcnbaaGreatDoorRRR.Y
end
section
namespace Go.Proofs.YtkklhlakklcnbaaGreatDoorRRR.Y
open Go.RowKit Go.Proofs.YtkklhlakklcnbaaGreatDoorRRRW.PrintWords Go.Proofs.YtkklhlakklcnbaaGreatDoorRRRW.PrintLast Go.Proofs.YtkklhlakklcnbaaGreatDoorRRRW.PrintMore
set_option linter.unusedSimpArgs false
def Says (x : Option Bool) (p : Prop) : Prop := ∃ b, x = some b ∧ (b = true → p)
theorem says_false {p : Prop} : Says (some false) p := ⟨false, rfl, fun h => by cases h⟩
theorem says_of {b : Bool} {p : Prop} (h : b = true → p) : Says (some b) p := ⟨b, rfl, h⟩
def WByte (b : UInt8) : Prop := 32 ≤ b.toNat ∧ b.toNat ≤ 126 ∧ b.toNat ≠ 59
def WText (n : Nat) (s : ByteArray) : Prop := (∀ b ∈ s.data.toList, WByte b) ∧ 1 ≤ s.size ∧ s.size ≤ n
theorem word_l0 (n : Nat) (hn : n ≤ 1000) (s : ByteArray) (hl : s.size ≤ 2147483647) : ∀ (m i k : Nat), i + m = s.size → m < k → (∀ b ∈ s.data.toList.take i, WByte b) →
    Says (spec_DrawWord.l0 k s (n : Int) (s.size : Int) (i : Int)) (WText n s)
  | 0, i, k + 1, h, hk, hb => by
    have hlen : s.data.toList.length = s.size := data_length s
    rw [List.take_of_length_le (by omega)] at hb
    rw [spec_DrawWord.l0, if_neg (by omega)]
    by_cases h1 : (s.size : Int) ≥ 1
    · rw [if_pos h1]
      exact says_of fun h2 => ⟨hb, by omega, by have := of_decide_eq_true h2; omega⟩
    · rw [if_neg h1]; exact says_false
  | m + 1, i, k + 1, h, hk, hb => by
    have hlen : s.data.toList.length = s.size := data_length s
    have hi : i < s.data.toList.length := by omega
    have hrec : WByte s.data.toList[i] → Says (spec_DrawWord.l0 k s (n : Int) (s.size : Int) ((i + 1 : Nat) : Int)) (WText n s) := fun hw => by
      refine word_l0 n hn s hl m (i + 1) k (by omega) (by omega) (fun b hb2 => ?_)
      rw [List.take_succ_eq_append_getElem hi] at hb2
      rcases List.mem_append.1 hb2 with hb2 | hb2
      · exact hb b hb2
      · rw [List.mem_singleton.1 hb2]; exact hw
    unfold WByte at hrec
    have h255 := (s.data.toList[i]).toNat_lt
    rw [spec_DrawWord.l0, if_pos (by omega), if_pos (by omega), if_pos (by omega), bt_get s i s.data.toList[i] (by rw [List.getElem?_eq_getElem hi]), wup i (by omega)]
    generalize spec_DrawWord.l0 k s (n : Int) (s.size : Int) ((i + 1 : Nat) : Int) = R at hrec ⊢
    generalize (s.data.toList[i]).toNat = c at hrec h255 ⊢
    clear hb hlen
    repeat' split
    all_goals first | exact says_false | exact hrec (by omega)
theorem word_f (n : Nat) (hn : n ≤ 1000) (s : ByteArray) (hl : s.size ≤ 2147483647) (k : Nat) (hk : s.size < k) : Says (spec_DrawWord.f k s (n : Int)) (WText n s) := by
  unfold spec_DrawWord.f
  exact word_l0 n hn s hl s.size 0 k (by omega) hk (by simp)
abbrev Ti := S70
theorem rdTi_at (l : List Ti) (i : Nat) (h : i < l.length) : rd_T70 l (i : Int) = l[i] := by
  simp [rd_T70, h]
def TiFits (l : List Ti) : Prop := l.length ≤ 2147483647 ∧ ∀ t ∈ l, t.f1.size ≤ 2147483647
theorem fitsTi_l0 (l : List Ti) (hl : l.length ≤ 2147483647) : ∀ (m i k : Nat), i + m = l.length → m < k → (∀ t ∈ l.take i, t.f1.size ≤ 2147483647) → Says (laws_zzFits7.l0 k l (l.length : Int) (i : Int)) (TiFits l)
  | 0, i, k + 1, h, hk, hp => by
    rw [List.take_of_length_le (by omega)] at hp
    rw [laws_zzFits7.l0, if_neg (by omega)]
    exact says_of (fun _ => ⟨hl, hp⟩)
  | m + 1, i, k + 1, h, hk, hp => by
    have hi : i < l.length := by omega
    rw [laws_zzFits7.l0, if_pos (by omega), if_pos (by omega), if_pos (by omega), rdTi_at l i hi, wup i (by omega)]
    unfold laws_zzFits8.f
    by_cases c1 : (l[i].f1.size : Int) > 2147483647
    · rw [if_pos c1, Option.bind_some, if_neg (by simp)]; exact says_false
    rw [if_neg c1, Option.bind_some, if_pos rfl]
    refine fitsTi_l0 l hl m (i + 1) k (by omega) (by omega) (fun o ho => ?_)
    rw [List.take_succ_eq_append_getElem hi] at ho
    rcases List.mem_append.1 ho with ho | ho
    · exact hp o ho
    · rw [List.mem_singleton.1 ho]
      omega
theorem fitsTi_f (l : List Ti) (k : Nat) (hk : 2147483650 ≤ k) : Says (laws_zzFits7.f k l) (TiFits l) := by
  unfold laws_zzFits7.f
  by_cases c : (l.length : Int) > 2147483647
  · rw [if_pos c]; exact says_false
  · rw [if_neg c]
    exact fitsTi_l0 l (by omega) l.length 0 k (by omega) (by omega) (by simp)
theorem wbytes {n : Nat} {s : ByteArray} (h : WText n s) : ∀ b ∈ s.data.toList, 32 ≤ b.toNat ∧ b.toNat ≤ 126 := fun b hb => ⟨(h.1 b hb).1, (h.1 b hb).2.1⟩
theorem data_eta (s : ByteArray) : (⟨s.data.toList.toArray⟩ : ByteArray) = s := by
  apply ByteArray.ext
  simp
/-- A text behind a number of one or two digits, as an event. -/
def evText (c : Int) (p : List UInt8) (s : ByteArray) : X.Ev := X.evOsc c (nums (p ++ 59 :: s.data.toList))
theorem evText_run (c : Int) (hc : c ≠ X.Miss) (p : List UInt8) (hp : X.run .gr ([27, 93] ++ nn p ++ [59]) = some (.osc c (nums (p ++ [59])), [])) (hpl : p.length ≤ 10) (s : ByteArray) (hs : WText 20 s) (t : ByteArray)
    (ht : X.nb t = [27, 93] ++ nn p ++ [59] ++ nn s.data.toList ++ [7]) : X.run .gr (X.nb t) = some (.gr, [evText c p s]) := by
  have hlen : s.data.toList.length = s.size := data_length s
  have h3 := hs.2.2
  rw [ht]
  exact osc_run c hc p hp _ (wbytes hs) (by omega)
theorem evText_told (c : Int) (p : List UInt8) (hp : ∀ b ∈ p, b ≠ 59) (hpl : p.length ≤ 9) (s : ByteArray) (hs : s.size ≤ 1000) :
    (cv (X.toS (evText c p s))).f0 = 5 ∧ (cv (X.toS (evText c p s))).f3 = c ∧ spec_drawBehind.f 10 (strOfNums (cv (X.toS (evText c p s))).f5) 1 = some s := by
  have hlen : s.data.toList.length = s.size := data_length s
  refine ⟨rfl, rfl, ?_⟩
  have := behind_f p s.data.toList hp (by omega) 10 (by omega)
  rw [data_eta] at this
  exact this
end Go.Proofs.YtkklhlakklcnbaaGreatDoorRRR.Y
end
section
namespace Go.Proofs.YtkklhlakklcnbaaGreatDoorRRRW.PrintWords
open Go.RowKit
theorem lit_run {P : Program} {W : World} {ev : Operand → Value} {o : Oper} (t e n s : Nat) (parts : Array (Nat × Operand)) (vs inner : List Value)
    (ho : o.op = .buildSlice t n parts) (hu : P.underlying t = some (.slice e)) (hs : (P.info? e).map (·.size) = some s) (hz : ((P.info? e).bind (·.zero)).map (·.cells.size) = some s)
    (hs0 : 0 < s) (hn : vs.length = n) (hn0 : 0 < n) (hsm : n * s ≤ 16777216)
    (hparts : (parts.map fun (x : Nat × Operand) => (x.1, ev x.2)).toList = (vs.zipIdx 0).map fun x => (x.2, x.1))
    (hv : ∀ v ∈ vs, v.cells.size = s) (hin : (vs.flatMap fun v => v.cells.toList) = inner) :
    (execOp ev o).run P W = .ok (.value (.slice (some ⟨W.heap.size, 0, none⟩) n n)) (W.alloc (.cells inner.toArray e)) := by
  cases hie : P.info? e with
  | none => simp [hie] at hs
  | some ie =>
    simp only [hie, Option.map_some, Option.some.injEq, Option.bind_some] at hs hz
    cases hzz : ie.zero with
    | none => simp [hzz] at hz
    | some z =>
      have h : Instr.fill (fun i => some (i * ie.size, ie.size)) ((Array.range (n * ie.size)).map (z.cells[· % z.cells.size]!)) (parts.map fun (x : Nat × Operand) => (x.1, ev x.2)).toList = some inner.toArray := by
        rw [hparts, hs, ← hin]
        exact Great.fill_whole hs0 vs _ hv (by simp [hn])
      have h0 : 0 < n * s := Nat.mul_pos hn0 hs0
      unfold execOp
      simp only [ho, Sem.run_bind]
      rw [run_buildSlice W t e n _ inner.toArray ie z hu hie hzz (by rw [hs]; omega) (by rw [hs]; omega) h]
      rfl
end Go.Proofs.YtkklhlakklcnbaaGreatDoorRRRW.PrintWords
end
section
namespace Go.Proofs.YtkklhlakklcnbaaGreatDoorRRR.Y
open Go.RowKit Go.Proofs.YtkklhlakklcnbaaGreatDoorRRRW.PrintWords Go.Proofs.YtkklhlakklcnbaaGreatDoorRRRW.PrintLast Go.Proofs.YtkklhlakklcnbaaGreatDoorRRRW.PrintMore
attribute [local go_sem] max2_int min2_int max_two min_two max_three min_three max_four min_four   -- for this text's walks alone
set_option linter.unusedVariables false
set_option linter.unusedSimpArgs false
/-! ### xansi_SetWindowTitle: function 99 -/
def xansi_SetWindowTitle.f (a0 : ByteArray) : Option (ByteArray) := if 4 + a0.size ≤ 9223372036854775807 then (if 4 + a0.size + 1 ≤ 9223372036854775807 then (some (((⟨#[27, 93, 50, 59]⟩ : ByteArray) ++ a0) ++ (⟨#[7]⟩ : ByteArray))) else (none)) else (none)
end Go.Proofs.YtkklhlakklcnbaaGreatDoorRRR.Y
end
section
namespace Go.Proofs.YtkklhlakklcnbaaGreatDoorRRR.Y
open Go.RowKit Go.Proofs.YtkklhlakklcnbaaGreatDoorRRRW.PrintWords Go.Proofs.YtkklhlakklcnbaaGreatDoorRRRW.PrintLast Go.Proofs.YtkklhlakklcnbaaGreatDoorRRRW.PrintMore
attribute [local go_sem] max2_int min2_int max_two min_two max_three min_three max_four min_four   -- for this text's walks alone
set_option linter.unusedVariables false
set_option linter.unusedSimpArgs false
/-! ### xansi_SetIconName: function 100 -/
def xansi_SetIconName.f (a0 : ByteArray) : Option (ByteArray) := if 4 + a0.size ≤ 9223372036854775807 then (if 4 + a0.size + 1 ≤ 9223372036854775807 then (some (((⟨#[27, 93, 49, 59]⟩ : ByteArray) ++ a0) ++ (⟨#[7]⟩ : ByteArray))) else (none)) else (none)
end Go.Proofs.YtkklhlakklcnbaaGreatDoorRRR.Y
end
