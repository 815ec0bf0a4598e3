/- Texts of this claim, joined: Y90 XMakeNum Y10D Y52D XText XDraw XDigs Y4D Y5D Y3D Y1D Y2D XPlanR Y41D Y42D Y43D Y48D Y91D. Of each, what the claim uses. -/
import Derived.Test.YteebhoehflgfoaaGreatDoorKac
import Derived.Test.YteebhoehflgfoaaGreatDoorKaq
import Derived.Test.YteebhoehflgfoaaGreatDoorKas
import Derived.Lib.Hide
import Derived.Test.YteebhoehflgfoaaGreatDoorKar
import Derived.Test.YteebhoehflgfoaaGreatDoorKad
import Derived.Lib.ItoaNum
section
namespace Go.Proofs.YteebhoehflgfoaaGreatDoor.Y
open Go.RowKit Go.Proofs.YteebhoehflgfoaaGreatDoorW.PrintWords Go.Proofs.YteebhoehflgfoaaGreatDoorW.PrintLast Go.Proofs.YteebhoehflgfoaaGreatDoorW.PrintMore
attribute [local go_sem] max2_int min2_int max_two min_two max_three min_three max_four min_four
set_option linter.unusedVariables false
set_option linter.unusedSimpArgs false
set_option maxHeartbeats 8000000 in
set_option maxRecDepth 100000 in
theorem xansi_SetCursorStyle.calls (a0 : Int) (r : ByteArray) (w : World) (hT : XTab w) (h : xansi_SetCursorStyle.f a0 = some r) :
  Calls Tryz.prog 92 #[.int .i64 a0] w fun e w' => e = .returned (.string r) ∧ Below w.heap.size w w' := by
 have HT := Aside0.mk hT
 clear hT
 have HB := Aside0.mk (Below.refl w.heap.size w)
 have H : (if a0 < 0 then ((strconv_Itoa.f 0).bind fun t402 => (if 2 + t402.size ≤ 9223372036854775807 then (if 2 + t402.size + 2 ≤ 9223372036854775807 then (some (((⟨#[27, 91]⟩ : ByteArray) ++ t402) ++ (⟨#[32, 113]⟩ : ByteArray))) else (none)) else (none))) else ((strconv_Itoa.f a0).bind fun t403 => (if 2 + t403.size ≤ 9223372036854775807 then (if 2 + t403.size + 2 ≤ 9223372036854775807 then (some (((⟨#[27, 91]⟩ : ByteArray) ++ t403) ++ (⟨#[32, 113]⟩ : ByteArray))) else (none)) else (none)))) = some r := h
 clear h
 by_cases c2 : a0 < 0
 ·rw [if_pos c2] at H
  have c2b0 : decide (a0 < 0) = true := decide_eq_true c2
  clear c2
  replace H := Option.bind_eq_some_iff.mp H
  obtain ⟨t402, A30, H⟩ := H
  replace H : (if 2 + t402.size ≤ 9223372036854775807 then (if 2 + t402.size + 2 ≤ 9223372036854775807 then (some (((⟨#[27, 91]⟩ : ByteArray) ++ t402) ++ (⟨#[32, 113]⟩ : ByteArray))) else (none)) else (none)) = some r := H
  have A3 := Aside0.mk A30
  clear A30
  by_cases c4 : 2 + t402.size ≤ 9223372036854775807
  ·rw [if_pos c4] at H
   have c4b0 := eq_true c4
   have c4b1 : decide (2 + t402.size ≤ 9223372036854775807) = true := decide_eq_true c4
   try have c4b2 : (9223372036854775807 < 2 + t402.size) = False := eq_false (Nat.not_lt.2 c4)
   by_cases c5 : 2 + t402.size + 2 ≤ 9223372036854775807
   ·rw [if_pos c5] at H
    have c5b0 := eq_true c5
    have c5b1 : decide (2 + t402.size + 2 ≤ 9223372036854775807) = true := decide_eq_true c5
    try have c5b2 : (9223372036854775807 < 2 + t402.size + 2) = False := eq_false (Nat.not_lt.2 c5)
    obtain rfl := Option.some.inj H
    go_enter Tryz.func92, Tryz.ntmps92
    go_wp2_with (first | ((with_reducible refine gate_callee (f := 103) rfl ?_); refine goesL_ (some 6) rfl rfl Tryz.func103 (by kernel_rfl) rfl #[.int .i64 0] rfl (by (try simp only [List.map_toArray, List.map_cons, List.map_nil]); first | done | rfl | (simp only [List.length_drop, List.length_take]; rfl)) ?_; (with_reducible refine (strconv_Itoa.calls 0 t402 _ ?side1 A3.out).mono ?_); (case side1 => exact XTab.below HT.out (by repeat (first | (with_reducible first | exact HB.out | apply below_alloc | apply pw_below_drewN | apply below_drew1) | exact HB.out))); rintro e w6 ⟨rfl, hb⟩; refine ⟨_, rfl, ?_⟩; have n0_ := Aside0.mk (below_step (by repeat (first | (with_reducible first | exact HB.out | apply below_alloc | apply pw_below_drewN | apply below_drew1) | exact HB.out)) hb); clear HB; have HB := n0_; clear n0_; (try clear hb); (try clear hb2); (try clear hk); (try clear hi)))
    go_ret
    exact ⟨by first | rfl | (simp [errW_none, errW_some] <;> rfl) | (simp [*, errW_none, errW_some] <;> rfl), by repeat (first | (with_reducible first | exact HB.out | apply below_alloc | apply pw_below_drewN | apply below_drew1) | exact HB.out)⟩
   ·rw [if_neg c5] at H
    exact absurd H (by simp)
  ·rw [if_neg c4] at H
   exact absurd H (by simp)
 ·rw [if_neg c2] at H
  have c2b0 : decide (a0 < 0) = false := decide_eq_false c2
  clear c2
  replace H := Option.bind_eq_some_iff.mp H
  obtain ⟨t403, A70, H⟩ := H
  replace H : (if 2 + t403.size ≤ 9223372036854775807 then (if 2 + t403.size + 2 ≤ 9223372036854775807 then (some (((⟨#[27, 91]⟩ : ByteArray) ++ t403) ++ (⟨#[32, 113]⟩ : ByteArray))) else (none)) else (none)) = some r := H
  have A7 := Aside0.mk A70
  clear A70
  by_cases c8 : 2 + t403.size ≤ 9223372036854775807
  ·rw [if_pos c8] at H
   have c8b0 := eq_true c8
   have c8b1 : decide (2 + t403.size ≤ 9223372036854775807) = true := decide_eq_true c8
   try have c8b2 : (9223372036854775807 < 2 + t403.size) = False := eq_false (Nat.not_lt.2 c8)
   by_cases c9 : 2 + t403.size + 2 ≤ 9223372036854775807
   ·rw [if_pos c9] at H
    have c9b0 := eq_true c9
    have c9b1 : decide (2 + t403.size + 2 ≤ 9223372036854775807) = true := decide_eq_true c9
    try have c9b2 : (9223372036854775807 < 2 + t403.size + 2) = False := eq_false (Nat.not_lt.2 c9)
    obtain rfl := Option.some.inj H
    go_enter Tryz.func92, Tryz.ntmps92
    go_wp2_with (first | ((with_reducible refine gate_callee (f := 103) rfl ?_); refine goesL_ (some 6) rfl rfl Tryz.func103 (by kernel_rfl) rfl #[.int .i64 a0] rfl (by (try simp only [List.map_toArray, List.map_cons, List.map_nil]); first | done | rfl | (simp only [List.length_drop, List.length_take]; rfl)) ?_; (with_reducible refine (strconv_Itoa.calls a0 t403 _ ?side1 A7.out).mono ?_); (case side1 => exact XTab.below HT.out (by repeat (first | (with_reducible first | exact HB.out | apply below_alloc | apply pw_below_drewN | apply below_drew1) | exact HB.out))); rintro e w10 ⟨rfl, hb⟩; refine ⟨_, rfl, ?_⟩; have n0_ := Aside0.mk (below_step (by repeat (first | (with_reducible first | exact HB.out | apply below_alloc | apply pw_below_drewN | apply below_drew1) | exact HB.out)) hb); clear HB; have HB := n0_; clear n0_; (try clear hb); (try clear hb2); (try clear hk); (try clear hi)))
    go_ret
    exact ⟨by first | rfl | (simp [errW_none, errW_some] <;> rfl) | (simp [*, errW_none, errW_some] <;> rfl), by repeat (first | (with_reducible first | exact HB.out | apply below_alloc | apply pw_below_drewN | apply below_drew1) | exact HB.out)⟩
   ·rw [if_neg c9] at H
    exact absurd H (by simp)
  ·rw [if_neg c8] at H
   exact absurd H (by simp)
end Go.Proofs.YteebhoehflgfoaaGreatDoor.Y
end
section
namespace Go.Proofs.YteebhoehflgfoaaGreatDoor.Y
open Go.RowKit Go.Proofs.YteebhoehflgfoaaGreatDoorW.PrintWords Go.Proofs.YteebhoehflgfoaaGreatDoorW.PrintLast Go.Proofs.YteebhoehflgfoaaGreatDoorW.PrintMore
def impl_MakeNumber.f (a0 : Int) (a1 : Int) : Option (ByteArray) :=
 if a0 = 0 then xansi_CursorUp.f a1 else
 if a0 = 1 then xansi_CursorDown.f a1 else
 if a0 = 2 then xansi_CursorForward.f a1 else
 if a0 = 3 then xansi_CursorBackward.f a1 else
 if a0 = 4 then xansi_CursorNextLine.f a1 else
 if a0 = 5 then xansi_CursorPreviousLine.f a1 else
 if a0 = 6 then xansi_CursorHorizontalAbsolute.f a1 else
 if a0 = 9 then xansi_EraseCharacter.f a1 else
 if a0 = 10 then xansi_EraseDisplay.f a1 else
 if a0 = 11 then xansi_EraseLine.f a1 else
 if a0 = 12 then xansi_ScrollUp.f a1 else
 if a0 = 13 then xansi_ScrollDown.f a1 else
 if a0 = 14 then xansi_InsertLine.f a1 else
 if a0 = 15 then xansi_DeleteLine.f a1 else
 if a0 = 16 then xansi_InsertCharacter.f a1 else
 if a0 = 17 then xansi_DeleteCharacter.f a1 else
 if a0 = 18 then xansi_VerticalPositionAbsolute.f a1 else
 if a0 = 19 then xansi_VerticalPositionRelative.f a1 else
 if a0 = 20 then xansi_HorizontalPositionAbsolute.f a1 else
 if a0 = 21 then xansi_HorizontalPositionRelative.f a1 else
 if a0 = 22 then xansi_RepeatPreviousCharacter.f a1 else
 if a0 = 23 then xansi_SetCursorStyle.f a1 else
 none
theorem impl_MakeNumber.calls (a0 : Int) (a1 : Int) (r : ByteArray) (w : World) (hT : XTab w) (h : impl_MakeNumber.f a0 a1 = some r) :
  Calls Tryz.prog 19 #[.int .i64 a0, .int .i64 a1] w fun e w' => e = .returned (.string r) ∧ Below w.heap.size w w' := by
 unfold impl_MakeNumber.f at h
 by_cases c0 : a0 = 0
 ·subst c0
  have H := Lib.hid (xansi_CursorUp.calls a1 r w hT (by simpa using h))
  clear h
  go_enter Tryz.func19, Tryz.ntmps19
  go_wp2_with fail
  refine H.out.mono ?_
  rintro e w' ⟨rfl, hb⟩
  go_wp2_with fail
  go_ret
  exact ⟨rfl, hb⟩
 rw [if_neg c0] at h
 by_cases c1 : a0 = 1
 ·subst c1
  have H := Lib.hid (xansi_CursorDown.calls a1 r w hT (by simpa using h))
  clear h
  go_enter Tryz.func19, Tryz.ntmps19
  go_wp2_with fail
  refine H.out.mono ?_
  rintro e w' ⟨rfl, hb⟩
  go_wp2_with fail
  go_ret
  exact ⟨rfl, hb⟩
 rw [if_neg c1] at h
 by_cases c2 : a0 = 2
 ·subst c2
  have H := Lib.hid (xansi_CursorForward.calls a1 r w hT (by simpa using h))
  clear h
  go_enter Tryz.func19, Tryz.ntmps19
  go_wp2_with fail
  refine H.out.mono ?_
  rintro e w' ⟨rfl, hb⟩
  go_wp2_with fail
  go_ret
  exact ⟨rfl, hb⟩
 rw [if_neg c2] at h
 by_cases c3 : a0 = 3
 ·subst c3
  have H := Lib.hid (xansi_CursorBackward.calls a1 r w hT (by simpa using h))
  clear h
  go_enter Tryz.func19, Tryz.ntmps19
  go_wp2_with fail
  refine H.out.mono ?_
  rintro e w' ⟨rfl, hb⟩
  go_wp2_with fail
  go_ret
  exact ⟨rfl, hb⟩
 rw [if_neg c3] at h
 by_cases c4 : a0 = 4
 ·subst c4
  have H := Lib.hid (xansi_CursorNextLine.calls a1 r w hT (by simpa using h))
  clear h
  go_enter Tryz.func19, Tryz.ntmps19
  go_wp2_with fail
  refine H.out.mono ?_
  rintro e w' ⟨rfl, hb⟩
  go_wp2_with fail
  go_ret
  exact ⟨rfl, hb⟩
 rw [if_neg c4] at h
 by_cases c5 : a0 = 5
 ·subst c5
  have H := Lib.hid (xansi_CursorPreviousLine.calls a1 r w hT (by simpa using h))
  clear h
  go_enter Tryz.func19, Tryz.ntmps19
  go_wp2_with fail
  refine H.out.mono ?_
  rintro e w' ⟨rfl, hb⟩
  go_wp2_with fail
  go_ret
  exact ⟨rfl, hb⟩
 rw [if_neg c5] at h
 by_cases c6 : a0 = 6
 ·subst c6
  have H := Lib.hid (xansi_CursorHorizontalAbsolute.calls a1 r w hT (by simpa using h))
  clear h
  go_enter Tryz.func19, Tryz.ntmps19
  go_wp2_with fail
  refine H.out.mono ?_
  rintro e w' ⟨rfl, hb⟩
  go_wp2_with fail
  go_ret
  exact ⟨rfl, hb⟩
 rw [if_neg c6] at h
 by_cases c9 : a0 = 9
 ·subst c9
  have H := Lib.hid (xansi_EraseCharacter.calls a1 r w hT (by simpa using h))
  clear h
  go_enter Tryz.func19, Tryz.ntmps19
  go_wp2_with fail
  refine H.out.mono ?_
  rintro e w' ⟨rfl, hb⟩
  go_wp2_with fail
  go_ret
  exact ⟨rfl, hb⟩
 rw [if_neg c9] at h
 by_cases c10 : a0 = 10
 ·subst c10
  have H := Lib.hid (xansi_EraseDisplay.calls a1 r w hT (by simpa using h))
  clear h
  go_enter Tryz.func19, Tryz.ntmps19
  go_wp2_with fail
  refine H.out.mono ?_
  rintro e w' ⟨rfl, hb⟩
  go_wp2_with fail
  go_ret
  exact ⟨rfl, hb⟩
 rw [if_neg c10] at h
 by_cases c11 : a0 = 11
 ·subst c11
  have H := Lib.hid (xansi_EraseLine.calls a1 r w hT (by simpa using h))
  clear h
  go_enter Tryz.func19, Tryz.ntmps19
  go_wp2_with fail
  refine H.out.mono ?_
  rintro e w' ⟨rfl, hb⟩
  go_wp2_with fail
  go_ret
  exact ⟨rfl, hb⟩
 rw [if_neg c11] at h
 by_cases c12 : a0 = 12
 ·subst c12
  have H := Lib.hid (xansi_ScrollUp.calls a1 r w hT (by simpa using h))
  clear h
  go_enter Tryz.func19, Tryz.ntmps19
  go_wp2_with fail
  refine H.out.mono ?_
  rintro e w' ⟨rfl, hb⟩
  go_wp2_with fail
  go_ret
  exact ⟨rfl, hb⟩
 rw [if_neg c12] at h
 by_cases c13 : a0 = 13
 ·subst c13
  have H := Lib.hid (xansi_ScrollDown.calls a1 r w hT (by simpa using h))
  clear h
  go_enter Tryz.func19, Tryz.ntmps19
  go_wp2_with fail
  refine H.out.mono ?_
  rintro e w' ⟨rfl, hb⟩
  go_wp2_with fail
  go_ret
  exact ⟨rfl, hb⟩
 rw [if_neg c13] at h
 by_cases c14 : a0 = 14
 ·subst c14
  have H := Lib.hid (xansi_InsertLine.calls a1 r w hT (by simpa using h))
  clear h
  go_enter Tryz.func19, Tryz.ntmps19
  go_wp2_with fail
  refine H.out.mono ?_
  rintro e w' ⟨rfl, hb⟩
  go_wp2_with fail
  go_ret
  exact ⟨rfl, hb⟩
 rw [if_neg c14] at h
 by_cases c15 : a0 = 15
 ·subst c15
  have H := Lib.hid (xansi_DeleteLine.calls a1 r w hT (by simpa using h))
  clear h
  go_enter Tryz.func19, Tryz.ntmps19
  go_wp2_with fail
  refine H.out.mono ?_
  rintro e w' ⟨rfl, hb⟩
  go_wp2_with fail
  go_ret
  exact ⟨rfl, hb⟩
 rw [if_neg c15] at h
 by_cases c16 : a0 = 16
 ·subst c16
  have H := Lib.hid (xansi_InsertCharacter.calls a1 r w hT (by simpa using h))
  clear h
  go_enter Tryz.func19, Tryz.ntmps19
  go_wp2_with fail
  refine H.out.mono ?_
  rintro e w' ⟨rfl, hb⟩
  go_wp2_with fail
  go_ret
  exact ⟨rfl, hb⟩
 rw [if_neg c16] at h
 by_cases c17 : a0 = 17
 ·subst c17
  have H := Lib.hid (xansi_DeleteCharacter.calls a1 r w hT (by simpa using h))
  clear h
  go_enter Tryz.func19, Tryz.ntmps19
  go_wp2_with fail
  refine H.out.mono ?_
  rintro e w' ⟨rfl, hb⟩
  go_wp2_with fail
  go_ret
  exact ⟨rfl, hb⟩
 rw [if_neg c17] at h
 by_cases c18 : a0 = 18
 ·subst c18
  have H := Lib.hid (xansi_VerticalPositionAbsolute.calls a1 r w hT (by simpa using h))
  clear h
  go_enter Tryz.func19, Tryz.ntmps19
  go_wp2_with fail
  refine H.out.mono ?_
  rintro e w' ⟨rfl, hb⟩
  go_wp2_with fail
  go_ret
  exact ⟨rfl, hb⟩
 rw [if_neg c18] at h
 by_cases c19 : a0 = 19
 ·subst c19
  have H := Lib.hid (xansi_VerticalPositionRelative.calls a1 r w hT (by simpa using h))
  clear h
  go_enter Tryz.func19, Tryz.ntmps19
  go_wp2_with fail
  refine H.out.mono ?_
  rintro e w' ⟨rfl, hb⟩
  go_wp2_with fail
  go_ret
  exact ⟨rfl, hb⟩
 rw [if_neg c19] at h
 by_cases c20 : a0 = 20
 ·subst c20
  have H := Lib.hid (xansi_HorizontalPositionAbsolute.calls a1 r w hT (by simpa using h))
  clear h
  go_enter Tryz.func19, Tryz.ntmps19
  go_wp2_with fail
  refine H.out.mono ?_
  rintro e w' ⟨rfl, hb⟩
  go_wp2_with fail
  go_ret
  exact ⟨rfl, hb⟩
 rw [if_neg c20] at h
 by_cases c21 : a0 = 21
 ·subst c21
  have H := Lib.hid (xansi_HorizontalPositionRelative.calls a1 r w hT (by simpa using h))
  clear h
  go_enter Tryz.func19, Tryz.ntmps19
  go_wp2_with fail
  refine H.out.mono ?_
  rintro e w' ⟨rfl, hb⟩
  go_wp2_with fail
  go_ret
  exact ⟨rfl, hb⟩
 rw [if_neg c21] at h
 by_cases c22 : a0 = 22
 ·subst c22
  have H := Lib.hid (xansi_RepeatPreviousCharacter.calls a1 r w hT (by simpa using h))
  clear h
  go_enter Tryz.func19, Tryz.ntmps19
  go_wp2_with fail
  refine H.out.mono ?_
  rintro e w' ⟨rfl, hb⟩
  go_wp2_with fail
  go_ret
  exact ⟨rfl, hb⟩
 rw [if_neg c22] at h
 by_cases c23 : a0 = 23
 ·subst c23
  have H := Lib.hid (xansi_SetCursorStyle.calls a1 r w hT (by simpa using h))
  clear h
  go_enter Tryz.func19, Tryz.ntmps19
  go_wp2_with fail
  refine H.out.mono ?_
  rintro e w' ⟨rfl, hb⟩
  go_wp2_with fail
  go_ret
  exact ⟨rfl, hb⟩
 rw [if_neg c23] at h
 cases h
end Go.Proofs.YteebhoehflgfoaaGreatDoor.Y
end
section
namespace Go.Proofs.YteebhoehflgfoaaGreatDoor.Y
open Go.RowKit Go.Proofs.YteebhoehflgfoaaGreatDoorW.PrintWords Go.Proofs.YteebhoehflgfoaaGreatDoorW.PrintLast Go.Proofs.YteebhoehflgfoaaGreatDoorW.PrintMore
attribute [local go_sem] max2_int min2_int max_two min_two max_three min_three max_four min_four
set_option linter.unusedVariables false
set_option linter.unusedSimpArgs false
/-! ### laws_drawAwake: function 6 -/
def laws_drawAwake.f  : Option (Bool) := (impl_MakeNumber.f 0 3).bind fun t114 => ((gosem_conv.f t114).bind fun t115 => ((impl_Feed.f 32 4096 t115).bind fun t118 => (if (t118.length : Int) = 1 then (if 0 < (t118.length : Int) then (if ((rd_T43 t118 0).f0) = 2 then (some (((rd_T43 t118 0).f3) == 65)) else (some false)) else (none)) else (some false))))
/-! ### laws_drawEvents: function 64 -/
def laws_drawEvents.l0 : Nat → List (S137) → List (S43) → Int → Int → Option ((List (S137)))
 | 0, _, _, _, _ => none
 | k + 1, x3, x6, x7, x8 => if x8 < x7 then (if 0 ≤ x8 then (if x8 < (x6.length : Int) then (if x3.length < 1759218604441 then (laws_drawEvents.l0 k (x3 ++ [(⟨(rd_T43 x6 x8).f0, (rd_T43 x6 x8).f1, (rd_T43 x6 x8).f2, (rd_T43 x6 x8).f3, (rd_T43 x6 x8).f4, (rd_T43 x6 x8).f5⟩ : S137)]) x6 x7 (wrap64 (x8 + 1))) else (none)) else (none)) else (none)) else (some x3)
def laws_drawEvents.f (k : Nat) (l0 : List (S43)) : Option ((List (S137))) := laws_drawEvents.l0 k ([] : List (S137)) l0 (l0.length : Int) 0
end Go.Proofs.YteebhoehflgfoaaGreatDoor.Y
end
section
namespace Go.Proofs.YteebhoehflgfoaaGreatDoor.X
open Go.RowKit Go.Proofs.YteebhoehflgfoaaGreatDoorW.PrintWords
set_option linter.unusedSimpArgs false
/-- A text's bytes, as numbers. -/
def nb (s : ByteArray) : List Nat := s.data.toList.map UInt8.toNat
theorem nb_bytesOf (s : ByteArray) : (bytesOf s).map Int.toNat = nb s := by simp [bytesOf, nb, Function.comp_def]
theorem nb_append (a b : ByteArray) : nb (a ++ b) = nb a ++ nb b := by
 simp only [nb, ByteArray.data_append, Array.toList_append, List.map_append]
theorem nb_mk (l : List UInt8) : nb ⟨l.toArray⟩ = l.map UInt8.toNat := by simp [nb]
/-- The digits of a number, as bytes. -/
def digs (n : Nat) : List Nat := (Lib.decDigits n).map UInt8.toNat
theorem toNat_ofNat48 (d : Nat) (h : d < 10) : (UInt8.ofNat (48 + d)).toNat = 48 + d := by
 simp
 omega
theorem digs_small {n : Nat} (h : n < 10) : digs n = [48 + n] := by
 unfold digs
 rw [Lib.decDigits, dif_pos h]
 rw [List.map_cons, toNat_ofNat48 n h]
 rfl
theorem digs_more {n : Nat} (h : ¬ n < 10) : digs n = digs (n / 10) ++ [48 + n % 10] := by
 unfold digs
 rw [Lib.decDigits, dif_neg h]
 rw [List.map_append, List.map_cons, toNat_ofNat48 (n % 10) (by omega)]
 rfl
theorem nb_itoa (n : Int) (h : 0 ≤ n) : nb ⟨(Lib.itoa n).toArray⟩ = digs n.toNat := by
 rw [nb_mk, Lib.itoa, if_neg (by omega)]
 rfl
/-- A number as a parameter. -/
theorem run_digs (k : Nat) (hk : k ≠ 2) (cmd : Int) (ps : List Int) (n : Nat) (hn : n ≤ 1000009) : run (.csi k cmd ps Miss) (digs n) = some (.csi 3 cmd ps n, []) := by
 induction n using Nat.strongRecOn with
 | _ n ih =>
  by_cases h : n < 10
  ·rw [digs_small h]
   have h1 : ¬ (64 ≤ 48 + n ∧ 48 + n ≤ 126) := by omega
   have h2 : 48 ≤ 48 + n ∧ 48 + n ≤ 57 ∧ k ≠ 2 := ⟨by omega, by omega, hk⟩
   have h3 : (Miss ≤ 100000 ∨ Miss = Miss) := Or.inr rfl
   simp only [run, step, if_neg h1, if_pos h2, if_pos h3, Option.bind_some, Option.map_some, List.append_nil, digit, if_pos]
   simp
   omega
  ·rw [digs_more h]
   have ih1 := ih (n / 10) (by omega) (by omega)
   have h1 : ¬ (64 ≤ 48 + n % 10 ∧ 48 + n % 10 ≤ 126) := by omega
   have h2 : 48 ≤ 48 + n % 10 ∧ 48 + n % 10 ≤ 57 ∧ (3 : Nat) ≠ 2 := ⟨by omega, by omega, by omega⟩
   have h3 : (((n / 10 : Nat) : Int) ≤ 100000 ∨ ((n / 10 : Nat) : Int) = Miss) := Or.inl (by omega)
   have h4 : ¬ (((n / 10 : Nat) : Int) = Miss) := by unfold Miss; omega
   refine run_of ih1 (e := []) (f := []) ?_
   simp only [run, step, if_neg h1, if_pos h2, if_pos h3, Option.bind_some, Option.map_some, List.append_nil, digit, if_neg h4]
   simp
   omega
end Go.Proofs.YteebhoehflgfoaaGreatDoor.X
end
section
namespace Go.Proofs.YteebhoehflgfoaaGreatDoor.Y
open Go.RowKit Go.Proofs.YteebhoehflgfoaaGreatDoorW.PrintWords Go.Proofs.YteebhoehflgfoaaGreatDoorW.PrintLast Go.Proofs.YteebhoehflgfoaaGreatDoorW.PrintMore
/-- More fuel gives the same. -/
theorem lift {α : Type} {f : Nat → Option α} (hm : ∀ k, LeO (f k) (f (k + 1))) {k0 k : Nat} (h : k0 ≤ k) {r : α} (he : f k0 = some r) : f k = some r := by
 obtain ⟨d, rfl⟩ := Nat.le.dest h
 induction d with
 | zero => exact he
 | succ d ih => exact hm _ r (ih (by omega))
theorem awake : laws_drawAwake.f = some true := by kernel_rfl
theorem wrap64_of (n : Int) (h0 : -9223372036854775808 ≤ n) (h1 : n ≤ 9223372036854775807) : wrap64 n = n := by unfold wrap64; omega
/-- An event, as the specification has it. -/
def cv (e : S43) : S137 := ⟨e.f0, e.f1, e.f2, e.f3, e.f4, e.f5⟩
theorem rdT_at (l : List S43) (i : Nat) (h : i < l.length) : rd_T43 l (i : Int) = l[i] := by
 simp [rd_T43, h]
theorem drawEvents_l0 (l : List S43) (hl : l.length < 100000000000) : ∀ (m i : Nat) (k : Nat), i + m = l.length → m < k → laws_drawEvents.l0 k ((l.take i).map cv) l (l.length : Int) (i : Int) = some (l.map cv)
 | 0, i, k + 1, h, hk => by
  have e1 : ¬ ((i : Int) < (l.length : Int)) := by omega
  rw [laws_drawEvents.l0, if_neg e1, List.take_of_length_le (by omega)]
 | m + 1, i, k + 1, h, hk => by
  have hi : i < l.length := by omega
  have e1 : (i : Int) < (l.length : Int) := by omega
  have e2 : ((l.take i).map cv).length < 1759218604441 := by rw [List.length_map, List.length_take]; omega
  rw [laws_drawEvents.l0, if_pos e1, if_pos (by omega), if_pos e1, if_pos e2, rdT_at l i hi, wrap64_of _ (by omega) (by omega)]
  have e3 : ((l.take i).map cv) ++ [(⟨l[i].f0, l[i].f1, l[i].f2, l[i].f3, l[i].f4, l[i].f5⟩ : S137)] = (l.take (i + 1)).map cv := by
   rw [List.take_succ_eq_append_getElem hi, List.map_append]
   rfl
  rw [e3]
  exact drawEvents_l0 l hl m (i + 1) k (by omega) (by omega)
theorem drawEvents_f (l : List S43) (hl : l.length < 100000000000) (k : Nat) (hk : l.length < k) : laws_drawEvents.f k l = some (l.map cv) := by
 have := drawEvents_l0 l hl l.length 0 k (by omega) hk
 simpa [laws_drawEvents.f] using this
theorem conv_f (s : ByteArray) (h : s.size ≤ 100000000000) : gosem_conv.f s = some (bytesOf s) := by
 unfold gosem_conv.f
 rw [if_pos (by omega)]
theorem feed_f (s : ByteArray) (h : s.size ≤ 100000000000) {st : X.PS} {evs : List X.Ev} (hr : X.run .gr (X.nb s) = some (st, evs)) : impl_Feed.f 32 4096 (bytesOf s) = some (evs.map X.toS) := by
 have hp : ∀ x ∈ bytesOf s, 0 ≤ x := fun x hx => by
  obtain ⟨b, _, rfl⟩ := List.mem_map.1 hx
  omega
 have hl : (bytesOf s).length ≤ 100000000000 := by rw [bytesOf_length]; exact h
 unfold impl_Feed.f
 rw [if_pos ⟨rfl, rfl, hl, hp⟩, X.nb_bytesOf, hr]
 rfl
end Go.Proofs.YteebhoehflgfoaaGreatDoor.Y
end
section
namespace Go.Proofs.YteebhoehflgfoaaGreatDoor.X
open Go.RowKit Go.Proofs.YteebhoehflgfoaaGreatDoorW.PrintWords
theorem digs_pow (k : Nat) : ∀ n : Nat, n < 10 ^ (k + 1) → (digs n).length ≤ k + 1 := by
 induction k with
 | zero =>
  intro n h
  rw [digs_small (by simpa using h)]
  simp
 | succ k ih =>
  intro n h
  by_cases h10 : n < 10
  ·rw [digs_small h10]; simp
  ·rw [digs_more h10]
   have := ih (n / 10) (by rw [Nat.div_lt_iff_lt_mul (by omega)]; rw [Nat.pow_succ] at h; exact h)
   simp only [List.length_append, List.length_cons, List.length_nil]
   omega
theorem nb_len (s : ByteArray) : (nb s).length = s.size := by simp [nb]
/-- A number's text. -/
theorem itoa_text (n : Nat) (h : n < 9223372036854775808) : ∃ t, Y.strconv_Itoa.f (n : Int) = some t ∧ nb t = digs n ∧ t.size = (digs n).length := by
 refine ⟨⟨(Lib.itoa n).toArray⟩, ?_, ?_, ?_⟩
 ·unfold Y.strconv_Itoa.f
  rw [if_pos (by omega)]
 ·rw [nb_itoa _ (by omega)]
  rfl
 ·rw [← nb_len, nb_itoa _ (by omega)]
  simp
end Go.Proofs.YteebhoehflgfoaaGreatDoor.X
end
section
namespace Go.Proofs.YteebhoehflgfoaaGreatDoor.Y
open Go.RowKit Go.Proofs.YteebhoehflgfoaaGreatDoorW.PrintWords Go.Proofs.YteebhoehflgfoaaGreatDoorW.PrintLast Go.Proofs.YteebhoehflgfoaaGreatDoorW.PrintMore
attribute [local go_sem] max2_int min2_int max_two min_two max_three min_three max_four min_four
set_option linter.unusedVariables false
set_option linter.unusedSimpArgs false
/-! ### spec_drawAttributes: function 67 -/
def spec_drawAttributes.l0 : Nat → List Int → List Int → Int → Int → Option (Bool)
 | 0, _, _, _, _ => none
 | k + 1, x0, x5, x6, x7 => if x7 < x6 then (if 0 ≤ x7 then (if x7 < (x5.length : Int) then (if (rd x5 x7) < 0 then (some false) else (if (rd x5 x7) > 29 then (some false) else (if (rd x5 x7) > 9 then (if (rd x5 x7) < 22 then (some false) else (if (rd x5 x7) = 26 then (some false) else (spec_drawAttributes.l0 k x0 x5 x6 (wrap64 (x7 + 1))))) else (if (rd x5 x7) = 26 then (some false) else (spec_drawAttributes.l0 k x0 x5 x6 (wrap64 (x7 + 1))))))) else (none)) else (none)) else (if (x0.length : Int) ≥ 1 then (some (decide ((x0.length : Int) ≤ 6))) else (some false))
def spec_drawAttributes.f (k : Nat) (l0 : List Int) : Option (Bool) := spec_drawAttributes.l0 k l0 l0 (l0.length : Int) 0
/-! ### spec_DrawPlain: function 68 -/
def spec_DrawPlain.l0 : Nat → ByteArray → Int → Int → Int → Option (Bool)
 | 0, _, _, _, _ => none
 | k + 1, x0, x1, x7, x8 => if x8 < x7 then (if 0 ≤ x8 then (if x8 < (x0.size : Int) then (if (bt x0 x8) < 32 then (some false) else (if (bt x0 x8) > 126 then (some false) else (spec_DrawPlain.l0 k x0 x1 x7 (wrap64 (x8 + 1))))) else (none)) else (none)) else (if (x0.size : Int) ≥ 1 then (some (decide ((x0.size : Int) ≤ x1))) else (some false))
def spec_DrawPlain.f (k : Nat) (a0 : ByteArray) (a1 : Int) : Option (Bool) := spec_DrawPlain.l0 k a0 a1 (a0.size : Int) 0
/-! ### spec_IsDrawNumber: function 57 -/
def spec_IsDrawNumber.f (a0 : Int) : Option (Bool) := if a0 ≥ 0 then (if a0 ≤ 22 then (if a0 = 7 then (some false) else (some (a0 != 8))) else (some false)) else (some false)
/-! ### laws_zzFits4: function 17 -/
def laws_zzFits4.f (a0_0 : Int) (a0_1 : Int) (a0_2 : Int) (a0_3 : ByteArray) (l0_4 : List Int) : Option (Bool) := if (a0_3.size : Int) > 2147483647 then (some false) else (if (l0_4.length : Int) > 2147483647 then (some false) else (some true))
/-! ### laws_zzFits3: function 4 -/
def laws_zzFits3.l0 : Nat → List (S38) → Int → Int → Option (Bool)
 | 0, _, _, _ => none
 | k + 1, x8, x9, x10 => if x10 < x9 then (if 0 ≤ x10 then (if x10 < (x8.length : Int) then ((laws_zzFits4.f ((rd_T38 x8 x10).f0) ((rd_T38 x8 x10).f1) ((rd_T38 x8 x10).f2) ((rd_T38 x8 x10).f3) ((rd_T38 x8 x10).f4)).bind fun t104 => (if t104 = true then (laws_zzFits3.l0 k x8 x9 (wrap64 (x10 + 1))) else (some false))) else (none)) else (none)) else (some true)
def laws_zzFits3.f (k : Nat) (l0 : List (S38)) : Option (Bool) := if (l0.length : Int) > 2147483647 then (some false) else (laws_zzFits3.l0 k l0 (l0.length : Int) 0)
end Go.Proofs.YteebhoehflgfoaaGreatDoor.Y
end
section
namespace Go.Proofs.YteebhoehflgfoaaGreatDoor.Y
open Go.RowKit Go.Proofs.YteebhoehflgfoaaGreatDoorW.PrintWords Go.Proofs.YteebhoehflgfoaaGreatDoorW.PrintLast Go.Proofs.YteebhoehflgfoaaGreatDoorW.PrintMore
set_option linter.unusedSimpArgs false
set_option linter.unusedVariables false
abbrev Op := S38
theorem rdO_at (l : List Op) (i : Nat) (h : i < l.length) : rd_T38 l (i : Int) = l[i] := by
 simp [rd_T38, h]
theorem rdI_at (l : List Int) (i : Nat) (h : i < l.length) : rd l (i : Int) = l[i] := by simp [rd, h]
theorem wrap_up (i : Nat) (h : i < 1000000000000) : wrap64 ((i : Int) + 1) = ((i + 1 : Nat) : Int) := by rw [wrap64_of _ (by omega) (by omega)]; omega
theorem btN (s : ByteArray) (i : Nat) (h : i < s.data.toList.length) : bt s (i : Int) = ((s.data.toList[i]).toNat : Int) := by
 rw [← rd_bytesOf]
 have : i < (bytesOf s).length := by rw [bytesOf_length, ← data_length]; exact h
 rw [rd, Int.toNat_natCast, List.getD_eq_getElem?_getD, List.getElem?_eq_getElem this]
 simp [bytesOf]
/-- An attribute that a screen has. -/
def AttrOk (n : Int) : Prop := 0 ≤ n ∧ n ≤ 29 ∧ (n ≤ 9 ∨ 22 ≤ n) ∧ n ≠ 26
def Attrs (l : List Int) : Prop := (∀ n ∈ l, AttrOk n) ∧ 1 ≤ l.length ∧ l.length ≤ 6
/-- A printable byte. -/
def PByte (b : UInt8) : Prop := 32 ≤ b.toNat ∧ b.toNat ≤ 126
def PText (s : ByteArray) : Prop := (∀ b ∈ s.data.toList, PByte b) ∧ 1 ≤ s.size ∧ s.size ≤ 20
theorem attrs_l0 (l : List Int) (hl : l.length ≤ 2147483647) : ∀ (m i k : Nat), i + m = l.length → m < k → (∀ n ∈ l.take i, AttrOk n) →
  ∃ b, spec_drawAttributes.l0 k l l (l.length : Int) (i : Int) = some b ∧ (b = true → Attrs l)
 | 0, i, k + 1, h, hk, hp => by
  rw [List.take_of_length_le (by omega)] at hp
  rw [spec_drawAttributes.l0, if_neg (by omega)]
  by_cases h1 : (l.length : Int) ≥ 1
  ·rw [if_pos h1]
   refine ⟨_, rfl, fun hb => ⟨hp, by omega, ?_⟩⟩
   have := of_decide_eq_true hb
   omega
  ·rw [if_neg h1]
   exact ⟨_, rfl, fun hb => by cases hb⟩
 | m + 1, i, k + 1, h, hk, hp => by
  have hi : i < l.length := by omega
  rw [spec_drawAttributes.l0, if_pos (by omega), if_pos (by omega), if_pos (by omega), rdI_at l i hi, wrap_up i (by omega)]
  have go : AttrOk l[i] → ∃ b, spec_drawAttributes.l0 k l l (l.length : Int) ((i + 1 : Nat) : Int) = some b ∧ (b = true → Attrs l) := fun ho => by
   refine attrs_l0 l hl m (i + 1) k (by omega) (by omega) (fun n hn => ?_)
   rw [List.take_succ_eq_append_getElem hi] at hn
   rcases List.mem_append.1 hn with hn | hn
   ·exact hp n hn
   ·rw [List.mem_singleton.1 hn]; exact ho
  unfold AttrOk at go
  generalize l[i] = x at go ⊢
  by_cases c1 : x < 0
  ·rw [if_pos c1]; exact ⟨_, rfl, fun hb => by cases hb⟩
  rw [if_neg c1]
  by_cases c2 : x > 29
  ·rw [if_pos c2]; exact ⟨_, rfl, fun hb => by cases hb⟩
  rw [if_neg c2]
  by_cases c3 : x > 9
  ·rw [if_pos c3]
   by_cases c4 : x < 22
   ·rw [if_pos c4]; exact ⟨_, rfl, fun hb => by cases hb⟩
   rw [if_neg c4]
   by_cases c5 : x = 26
   ·rw [if_pos c5]; exact ⟨_, rfl, fun hb => by cases hb⟩
   rw [if_neg c5]
   exact go ⟨by omega, by omega, by omega, c5⟩
  ·rw [if_neg c3, if_neg (by omega)]
   exact go ⟨by omega, by omega, by omega, by omega⟩
theorem attrs_f (l : List Int) (hl : l.length ≤ 2147483647) (k : Nat) (hk : l.length < k) : ∃ b, spec_drawAttributes.f k l = some b ∧ (b = true → Attrs l) :=
 attrs_l0 l hl l.length 0 k (by omega) hk (by simp)
theorem plain_l0 (s : ByteArray) (hl : s.size ≤ 2147483647) : ∀ (m i k : Nat), i + m = s.size → m < k → (∀ b ∈ s.data.toList.take i, PByte b) →
  ∃ b, spec_DrawPlain.l0 k s 20 (s.size : Int) (i : Int) = some b ∧ (b = true → PText s)
 | 0, i, k + 1, h, hk, hp => by
  have hlen := data_length s
  rw [List.take_of_length_le (by omega)] at hp
  rw [spec_DrawPlain.l0, if_neg (by omega)]
  by_cases h1 : (s.size : Int) ≥ 1
  ·rw [if_pos h1]
   refine ⟨_, rfl, fun hb => ⟨hp, by omega, ?_⟩⟩
   have := of_decide_eq_true hb
   omega
  ·rw [if_neg h1]
   exact ⟨_, rfl, fun hb => by cases hb⟩
 | m + 1, i, k + 1, h, hk, hp => by
  have hlen := data_length s
  have hi : i < s.data.toList.length := by omega
  rw [spec_DrawPlain.l0, if_pos (by omega), if_pos (by omega), if_pos (by omega), btN s i hi, wrap_up i (by omega)]
  by_cases c1 : ((s.data.toList[i]).toNat : Int) < 32
  ·rw [if_pos c1]; exact ⟨_, rfl, fun hb => by cases hb⟩
  rw [if_neg c1]
  by_cases c2 : ((s.data.toList[i]).toNat : Int) > 126
  ·rw [if_pos c2]; exact ⟨_, rfl, fun hb => by cases hb⟩
  rw [if_neg c2]
  refine plain_l0 s hl m (i + 1) k (by omega) (by omega) (fun b hb => ?_)
  rw [List.take_succ_eq_append_getElem hi] at hb
  rcases List.mem_append.1 hb with hb | hb
  ·exact hp b hb
  ·rw [List.mem_singleton.1 hb]
   exact ⟨by omega, by omega⟩
theorem plain_f (s : ByteArray) (hl : s.size ≤ 2147483647) (k : Nat) (hk : s.size < k) : ∃ b, spec_DrawPlain.f k s 20 = some b ∧ (b = true → PText s) :=
 plain_l0 s hl s.size 0 k (by omega) hk (by simp)
def NumK (k : Int) : Prop := 0 ≤ k ∧ k ≤ 22 ∧ k ≠ 7 ∧ k ≠ 8
theorem isNum_f (k : Int) : ∃ b, spec_IsDrawNumber.f k = some b ∧ (b = true ↔ NumK k) := by
 unfold spec_IsDrawNumber.f NumK
 by_cases c1 : k ≥ 0
 ·rw [if_pos c1]
  by_cases c2 : k ≤ 22
  ·rw [if_pos c2]
   by_cases c3 : k = 7
   ·rw [if_pos c3]
    exact ⟨_, rfl, by simp; omega⟩
   ·rw [if_neg c3]
    exact ⟨_, rfl, by simp; omega⟩
  ·rw [if_neg c2]
   exact ⟨_, rfl, by simp; omega⟩
 ·rw [if_neg c1]
  exact ⟨_, rfl, by simp; omega⟩
/-- An operation that is right. -/
def Right (o : Op) : Prop :=
 (NumK o.f0 ∧ (o.f3.toList = [] ∧ o.f4 = []) ∧ o.f2 = 0 ∧ (if o.f0 = 10 ∨ o.f0 = 11 then 0 ≤ o.f1 ∧ o.f1 ≤ 2 else 1 ≤ o.f1 ∧ o.f1 ≤ 99)) ∨
 ((o.f0 = 40 ∨ o.f0 = 41) ∧ (o.f3.toList = [] ∧ o.f4 = []) ∧ 1 ≤ o.f1 ∧ o.f1 ≤ 99 ∧ 1 ≤ o.f2 ∧ o.f2 ≤ 99) ∨
 (o.f0 = 42 ∧ (o.f3.toList = [] ∧ o.f4 = []) ∧ 1 ≤ o.f1 ∧ o.f1 < o.f2 ∧ o.f2 ≤ 99) ∨
 ((o.f0 = 50 ∨ o.f0 = 51) ∧ (o.f3.toList = [] ∧ o.f4 = []) ∧ o.f1 = 0 ∧ o.f2 = 0) ∨
 (o.f0 = 52 ∧ o.f3.toList = [] ∧ o.f1 = 0 ∧ o.f2 = 0 ∧ Attrs o.f4) ∨
 (o.f0 = 60 ∧ o.f1 = 0 ∧ o.f2 = 0 ∧ o.f4 = [] ∧ PText o.f3) ∨
 (o.f0 = 61 ∧ (o.f3.toList = [] ∧ o.f4 = []) ∧ o.f2 = 0 ∧ (o.f1 = 13 ∨ o.f1 = 10 ∨ o.f1 = 8 ∨ o.f1 = 9))
def Told (x : Option Bool) (p : Prop) : Prop := ∃ b, x = some b ∧ (b = true → p)
theorem told_false {p : Prop} : Told (some false) p := ⟨false, rfl, fun h => by cases h⟩
theorem told_of {b : Bool} {p : Prop} (h : b = true → p) : Told (some b) p := ⟨b, rfl, h⟩
/-- A plan that is right: right operations, no two texts side by side. -/
def RightPlan (l : List Op) : Prop := (∀ o ∈ l, Right o) ∧ (∀ i, 0 < i → (h : i < l.length) → ¬ (l[i].f0 = 60 ∧ (l[i - 1]'(by omega)).f0 = 60)) ∧ l.length ≤ 20
def Fits (l : List Op) : Prop := l.length ≤ 2147483647 ∧ ∀ o ∈ l, o.f3.size ≤ 2147483647 ∧ o.f4.length ≤ 2147483647
theorem fits_l0 (l : List Op) (hl : l.length ≤ 2147483647) : ∀ (m i k : Nat), i + m = l.length → m < k → (∀ o ∈ l.take i, o.f3.size ≤ 2147483647 ∧ o.f4.length ≤ 2147483647) → Told (laws_zzFits3.l0 k l (l.length : Int) (i : Int)) (Fits l)
 | 0, i, k + 1, h, hk, hp => by
  rw [List.take_of_length_le (by omega)] at hp
  rw [laws_zzFits3.l0, if_neg (by omega)]
  exact told_of (fun _ => ⟨hl, hp⟩)
 | m + 1, i, k + 1, h, hk, hp => by
  have hi : i < l.length := by omega
  rw [laws_zzFits3.l0, if_pos (by omega), if_pos (by omega), if_pos (by omega), rdO_at l i hi, wrap_up i (by omega)]
  unfold laws_zzFits4.f
  by_cases c1 : (l[i].f3.size : Int) > 2147483647
  ·rw [if_pos c1, Option.bind_some, if_neg (by simp)]; exact told_false
  rw [if_neg c1]
  by_cases c2 : (l[i].f4.length : Int) > 2147483647
  ·rw [if_pos c2, Option.bind_some, if_neg (by simp)]; exact told_false
  rw [if_neg c2, Option.bind_some, if_pos rfl]
  refine fits_l0 l hl m (i + 1) k (by omega) (by omega) (fun o ho => ?_)
  rw [List.take_succ_eq_append_getElem hi] at ho
  rcases List.mem_append.1 ho with ho | ho
  ·exact hp o ho
  ·rw [List.mem_singleton.1 ho]
   exact ⟨by omega, by omega⟩
theorem fits_f (l : List Op) (k : Nat) (hk : 2147483650 ≤ k) : Told (laws_zzFits3.f k l) (Fits l) := by
 unfold laws_zzFits3.f
 by_cases c : (l.length : Int) > 2147483647
 ·rw [if_pos c]; exact told_false
 ·rw [if_neg c]
  exact fits_l0 l (by omega) l.length 0 k (by omega) (by omega) (by simp)
end Go.Proofs.YteebhoehflgfoaaGreatDoor.Y
end
section
namespace Go.Proofs.YteebhoehflgfoaaGreatDoor.Y
open Go.RowKit Go.Proofs.YteebhoehflgfoaaGreatDoorW.PrintWords Go.Proofs.YteebhoehflgfoaaGreatDoorW.PrintLast Go.Proofs.YteebhoehflgfoaaGreatDoorW.PrintMore
attribute [local go_sem] max2_int min2_int max_two min_two max_three min_three max_four min_four
set_option linter.unusedVariables false
set_option linter.unusedSimpArgs false
/-! ### xansi_CursorPosition: function 114 -/
def xansi_CursorPosition.j0 : Nat → Int → Int → Bool → Option (ByteArray)
 | 0, _, _, _ => none
 | k + 1, x0, x1, x12 => if x12 = true then (some (⟨#[27, 91, 72]⟩ : ByteArray)) else (if x1 > 0 then ((strconv_Itoa.f x1).bind fun t130 => (if x0 > 0 then ((strconv_Itoa.f x0).bind fun t131 => (if 2 + t130.size ≤ 9223372036854775807 then (if 2 + t130.size + 1 ≤ 9223372036854775807 then (if 2 + t130.size + 1 + t131.size ≤ 9223372036854775807 then (if 2 + t130.size + 1 + t131.size + 1 ≤ 9223372036854775807 then (some (((((⟨#[27, 91]⟩ : ByteArray) ++ t130) ++ (⟨#[59]⟩ : ByteArray)) ++ t131) ++ (⟨#[72]⟩ : ByteArray))) else (none)) else (none)) else (none)) else (none))) else (if 2 + t130.size ≤ 9223372036854775807 then (if 2 + t130.size + 1 ≤ 9223372036854775807 then (if 2 + t130.size + 1 + 0 ≤ 9223372036854775807 then (if 2 + t130.size + 1 + 0 + 1 ≤ 9223372036854775807 then (some (((((⟨#[27, 91]⟩ : ByteArray) ++ t130) ++ (⟨#[59]⟩ : ByteArray)) ++ (⟨#[]⟩ : ByteArray)) ++ (⟨#[72]⟩ : ByteArray))) else (none)) else (none)) else (none)) else (none)))) else (if x0 > 0 then ((strconv_Itoa.f x0).bind fun t132 => (if 2 + 0 ≤ 9223372036854775807 then (if 2 + 0 + 1 ≤ 9223372036854775807 then (if 2 + 0 + 1 + t132.size ≤ 9223372036854775807 then (if 2 + 0 + 1 + t132.size + 1 ≤ 9223372036854775807 then (some (((((⟨#[27, 91]⟩ : ByteArray) ++ (⟨#[]⟩ : ByteArray)) ++ (⟨#[59]⟩ : ByteArray)) ++ t132) ++ (⟨#[72]⟩ : ByteArray))) else (none)) else (none)) else (none)) else (none))) else (if 2 + 0 ≤ 9223372036854775807 then (if 2 + 0 + 1 ≤ 9223372036854775807 then (if 2 + 0 + 1 + 0 ≤ 9223372036854775807 then (if 2 + 0 + 1 + 0 + 1 ≤ 9223372036854775807 then (some (((((⟨#[27, 91]⟩ : ByteArray) ++ (⟨#[]⟩ : ByteArray)) ++ (⟨#[59]⟩ : ByteArray)) ++ (⟨#[]⟩ : ByteArray)) ++ (⟨#[72]⟩ : ByteArray))) else (none)) else (none)) else (none)) else (none))))
def xansi_CursorPosition.f (k : Nat) (a0 : Int) (a1 : Int) : Option (ByteArray) := if a1 ≤ 1 then (xansi_CursorPosition.j0 k a0 a1 (decide (a0 ≤ 1))) else (xansi_CursorPosition.j0 k a0 a1 false)
theorem xansi_CursorPosition.mono_l : ∀ k, (∀ y0 y1 y2, LeO (xansi_CursorPosition.j0 k y0 y1 y2) (xansi_CursorPosition.j0 (k + 1) y0 y1 y2))
 | 0 => fun _ _ _ r h => by simp [xansi_CursorPosition.j0] at h
 | k + 1 => by
  have ih0 := xansi_CursorPosition.mono_l k
  ·intro y0 y1 y2
   unfold xansi_CursorPosition.j0
   repeat' first
   | (with_reducible exact ih0 _ _ _)
   | (with_reducible exact LeO.refl _)
   | (with_reducible exact LeO.none _)
   | (with_reducible refine LeO.ite ?_ ?_)
   | (with_reducible refine LeO.bind ?_ (fun _ => ?_))
   | exact ih0 _ _ _
   | exact LeO.none _
   | refine LeO.ite ?_ ?_
   | refine LeO.bind ?_ (fun _ => ?_)
theorem xansi_CursorPosition.mono : ∀ a0 a1 k, LeO (xansi_CursorPosition.f k a0 a1) (xansi_CursorPosition.f (k + 1) a0 a1) := by
 intro a0 a1 k
 have ih0 := xansi_CursorPosition.mono_l k
 unfold xansi_CursorPosition.f
 repeat' first
   | (with_reducible exact ih0 _ _ _)
   | (with_reducible exact LeO.refl _)
   | (with_reducible exact LeO.none _)
   | (with_reducible refine LeO.ite ?_ ?_)
   | (with_reducible refine LeO.bind ?_ (fun _ => ?_))
   | exact ih0 _ _ _
   | exact LeO.none _
   | refine LeO.ite ?_ ?_
   | refine LeO.bind ?_ (fun _ => ?_)
/-! ### xansi_HorizontalVerticalPosition: function 115 -/
def xansi_HorizontalVerticalPosition.f (a0 : Int) (a1 : Int) : Option (ByteArray) := if a1 > 0 then ((strconv_Itoa.f a1).bind fun t133 => (if a0 > 0 then ((strconv_Itoa.f a0).bind fun t134 => (if 2 + t133.size ≤ 9223372036854775807 then (if 2 + t133.size + 1 ≤ 9223372036854775807 then (if 2 + t133.size + 1 + t134.size ≤ 9223372036854775807 then (if 2 + t133.size + 1 + t134.size + 1 ≤ 9223372036854775807 then (some (((((⟨#[27, 91]⟩ : ByteArray) ++ t133) ++ (⟨#[59]⟩ : ByteArray)) ++ t134) ++ (⟨#[102]⟩ : ByteArray))) else (none)) else (none)) else (none)) else (none))) else (if 2 + t133.size ≤ 9223372036854775807 then (if 2 + t133.size + 1 ≤ 9223372036854775807 then (if 2 + t133.size + 1 + 0 ≤ 9223372036854775807 then (if 2 + t133.size + 1 + 0 + 1 ≤ 9223372036854775807 then (some (((((⟨#[27, 91]⟩ : ByteArray) ++ t133) ++ (⟨#[59]⟩ : ByteArray)) ++ (⟨#[]⟩ : ByteArray)) ++ (⟨#[102]⟩ : ByteArray))) else (none)) else (none)) else (none)) else (none)))) else (if a0 > 0 then ((strconv_Itoa.f a0).bind fun t135 => (if 2 + 0 ≤ 9223372036854775807 then (if 2 + 0 + 1 ≤ 9223372036854775807 then (if 2 + 0 + 1 + t135.size ≤ 9223372036854775807 then (if 2 + 0 + 1 + t135.size + 1 ≤ 9223372036854775807 then (some (((((⟨#[27, 91]⟩ : ByteArray) ++ (⟨#[]⟩ : ByteArray)) ++ (⟨#[59]⟩ : ByteArray)) ++ t135) ++ (⟨#[102]⟩ : ByteArray))) else (none)) else (none)) else (none)) else (none))) else (if 2 + 0 ≤ 9223372036854775807 then (if 2 + 0 + 1 ≤ 9223372036854775807 then (if 2 + 0 + 1 + 0 ≤ 9223372036854775807 then (if 2 + 0 + 1 + 0 + 1 ≤ 9223372036854775807 then (some (((((⟨#[27, 91]⟩ : ByteArray) ++ (⟨#[]⟩ : ByteArray)) ++ (⟨#[59]⟩ : ByteArray)) ++ (⟨#[]⟩ : ByteArray)) ++ (⟨#[102]⟩ : ByteArray))) else (none)) else (none)) else (none)) else (none)))
/-! ### xansi_SetTopBottomMargins: function 116 -/
def xansi_SetTopBottomMargins.f (a0 : Int) (a1 : Int) : Option (ByteArray) := if a0 > 0 then ((strconv_Itoa.f a0).bind fun t136 => (if a1 > 0 then ((strconv_Itoa.f a1).bind fun t137 => (if 2 + t136.size ≤ 9223372036854775807 then (if 2 + t136.size + 1 ≤ 9223372036854775807 then (if 2 + t136.size + 1 + t137.size ≤ 9223372036854775807 then (if 2 + t136.size + 1 + t137.size + 1 ≤ 9223372036854775807 then (some (((((⟨#[27, 91]⟩ : ByteArray) ++ t136) ++ (⟨#[59]⟩ : ByteArray)) ++ t137) ++ (⟨#[114]⟩ : ByteArray))) else (none)) else (none)) else (none)) else (none))) else (if 2 + t136.size ≤ 9223372036854775807 then (if 2 + t136.size + 1 ≤ 9223372036854775807 then (if 2 + t136.size + 1 + 0 ≤ 9223372036854775807 then (if 2 + t136.size + 1 + 0 + 1 ≤ 9223372036854775807 then (some (((((⟨#[27, 91]⟩ : ByteArray) ++ t136) ++ (⟨#[59]⟩ : ByteArray)) ++ (⟨#[]⟩ : ByteArray)) ++ (⟨#[114]⟩ : ByteArray))) else (none)) else (none)) else (none)) else (none)))) else (if a1 > 0 then ((strconv_Itoa.f a1).bind fun t138 => (if 2 + 0 ≤ 9223372036854775807 then (if 2 + 0 + 1 ≤ 9223372036854775807 then (if 2 + 0 + 1 + t138.size ≤ 9223372036854775807 then (if 2 + 0 + 1 + t138.size + 1 ≤ 9223372036854775807 then (some (((((⟨#[27, 91]⟩ : ByteArray) ++ (⟨#[]⟩ : ByteArray)) ++ (⟨#[59]⟩ : ByteArray)) ++ t138) ++ (⟨#[114]⟩ : ByteArray))) else (none)) else (none)) else (none)) else (none))) else (if 2 + 0 ≤ 9223372036854775807 then (if 2 + 0 + 1 ≤ 9223372036854775807 then (if 2 + 0 + 1 + 0 ≤ 9223372036854775807 then (if 2 + 0 + 1 + 0 + 1 ≤ 9223372036854775807 then (some (((((⟨#[27, 91]⟩ : ByteArray) ++ (⟨#[]⟩ : ByteArray)) ++ (⟨#[59]⟩ : ByteArray)) ++ (⟨#[]⟩ : ByteArray)) ++ (⟨#[114]⟩ : ByteArray))) else (none)) else (none)) else (none)) else (none)))
/-! ### impl_MakePair: function 58 -/
def impl_MakePair.f (k : Nat) (a0 : Int) (a1 : Int) (a2 : Int) : Option (ByteArray) := if a0 = 0 then ((xansi_CursorPosition.f k a1 a2).bind fun t139 => (some t139)) else (if a0 = 1 then ((xansi_HorizontalVerticalPosition.f a1 a2).bind fun t140 => (some t140)) else (if a0 = 2 then ((xansi_SetTopBottomMargins.f a1 a2).bind fun t141 => (some t141)) else (if a0 = 3 then (none) else (if a0 = 4 then (none) else (if a0 = 5 then (none) else (if a0 = 6 then (none) else (some (⟨#[]⟩ : ByteArray))))))))
theorem impl_MakePair.mono : ∀ a0 a1 a2 k, LeO (impl_MakePair.f k a0 a1 a2) (impl_MakePair.f (k + 1) a0 a1 a2) := by
 intro a0 a1 a2 k
 unfold impl_MakePair.f
 repeat' first
   | (with_reducible exact xansi_CursorPosition.mono _ _ _)
   | (with_reducible exact LeO.refl _)
   | (with_reducible exact LeO.none _)
   | (with_reducible refine LeO.ite ?_ ?_)
   | (with_reducible refine LeO.bind ?_ (fun _ => ?_))
   | exact xansi_CursorPosition.mono _ _ _
   | exact LeO.none _
   | refine LeO.ite ?_ ?_
   | refine LeO.bind ?_ (fun _ => ?_)
/-! ### impl_count: function 20 -/
def impl_count.l0 : Nat → List Int → List Int → Int → Int → Option (List Int)
 | 0, _, _, _, _ => none
 | k + 1, x3, x6, x7, x8 => if x8 < x7 then (if 0 ≤ x8 then (if x8 < (x6.length : Int) then (if x3.length < 17592186044416 then (impl_count.l0 k (x3 ++ [rd x6 x8]) x6 x7 (wrap64 (x8 + 1))) else (none)) else (none)) else (none)) else (some x3)
def impl_count.f (k : Nat) (l0 : List Int) : Option (List Int) := impl_count.l0 k ([] : List Int) l0 (l0.length : Int) 0
theorem impl_count.mono_l : ∀ k, (∀ y0 y1 y2 y3, LeO (impl_count.l0 k y0 y1 y2 y3) (impl_count.l0 (k + 1) y0 y1 y2 y3))
 | 0 => fun _ _ _ _ r h => by simp [impl_count.l0] at h
 | k + 1 => by
  have ih0 := impl_count.mono_l k
  ·intro y0 y1 y2 y3
   unfold impl_count.l0
   repeat' first
   | (with_reducible exact ih0 _ _ _ _)
   | (with_reducible exact LeO.refl _)
   | (with_reducible exact LeO.none _)
   | (with_reducible refine LeO.ite ?_ ?_)
   | (with_reducible refine LeO.bind ?_ (fun _ => ?_))
   | exact ih0 _ _ _ _
   | exact LeO.none _
   | refine LeO.ite ?_ ?_
   | refine LeO.bind ?_ (fun _ => ?_)
theorem impl_count.mono : ∀ a0 k, LeO (impl_count.f k a0) (impl_count.f (k + 1) a0) := by
 intro a0 k
 have ih0 := impl_count.mono_l k
 unfold impl_count.f
 repeat' first
   | (with_reducible exact ih0 _ _ _ _)
   | (with_reducible exact LeO.refl _)
   | (with_reducible exact LeO.none _)
   | (with_reducible refine LeO.ite ?_ ?_)
   | (with_reducible refine LeO.bind ?_ (fun _ => ?_))
   | exact ih0 _ _ _ _
   | exact LeO.none _
   | refine LeO.ite ?_ ?_
   | refine LeO.bind ?_ (fun _ => ?_)
end Go.Proofs.YteebhoehflgfoaaGreatDoor.Y
end
