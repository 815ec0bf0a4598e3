-- Written by a program of this session (wip/tool/xprint.py, round the kit's print.py). Lean checks it.
import Derived.Test.YtgcbnegdchladaaDoorCY0
import Derived.Test.YtgcbnegdchladaaDoorCEngD
import Derived.Test.YtgcbnegdchladaaDoorCItoa
namespace Go.Proofs.YtgcbnegdchladaaDoor.Y
open Go.RowKit Go.Proofs.YtgcbnegdchladaaDoorW.PrintWords Go.Proofs.YtgcbnegdchladaaDoorW.PrintLast Go.Proofs.YtgcbnegdchladaaDoorW.PrintMore
attribute [local go_sem] max2_int min2_int max_two min_two max_three min_three max_four min_four   -- for this text's walks alone
set_option linter.unusedVariables false
set_option linter.unusedSimpArgs false

-- strconv_Itoa: function 69: a contract by hand (XItoa)

/-! ### xansi_CursorUp: function 21 -/
def xansi_CursorUp.f (a0 : Int) : Option (ByteArray) := if a0 > 1 then ((strconv_Itoa.f a0).bind fun t101 => (if 2 + t101.size ≤ 9223372036854775807 then (if 2 + t101.size + 1 ≤ 9223372036854775807 then (some (((⟨#[27, 91]⟩ : ByteArray) ++ t101) ++ (⟨#[65]⟩ : ByteArray))) else (none)) else (none))) else (if 2 + 0 ≤ 9223372036854775807 then (if 2 + 0 + 1 ≤ 9223372036854775807 then (some (((⟨#[27, 91]⟩ : ByteArray) ++ (⟨#[]⟩ : ByteArray)) ++ (⟨#[65]⟩ : ByteArray))) else (none)) else (none))
set_option maxHeartbeats 8000000 in
set_option maxRecDepth 100000 in
theorem xansi_CursorUp.calls (a0 : Int) (r : ByteArray) (w : World) (hT : XTab w) (h : xansi_CursorUp.f a0 = some r) :
    Calls Tryd.prog 21 #[.int .i64 a0] w fun e w' => e = .returned (.string r) ∧ Below w.heap.size w w' := by
  have HT := Aside0.mk hT
  clear hT
  have HB := Aside0.mk (Below.refl w.heap.size w)
  have H : (if a0 > 1 then ((strconv_Itoa.f a0).bind fun t101 => (if 2 + t101.size ≤ 9223372036854775807 then (if 2 + t101.size + 1 ≤ 9223372036854775807 then (some (((⟨#[27, 91]⟩ : ByteArray) ++ t101) ++ (⟨#[65]⟩ : ByteArray))) else (none)) else (none))) else (if 2 + 0 ≤ 9223372036854775807 then (if 2 + 0 + 1 ≤ 9223372036854775807 then (some (((⟨#[27, 91]⟩ : ByteArray) ++ (⟨#[]⟩ : ByteArray)) ++ (⟨#[65]⟩ : ByteArray))) else (none)) else (none))) = some r := h
  clear h
  by_cases c2 : a0 > 1
  · rw [if_pos c2] at H
    have c2b0 : decide (1 < a0) = true := decide_eq_true c2
    clear c2
    replace H := Option.bind_eq_some_iff.mp H
    obtain ⟨t101, A30, H⟩ := H
    replace H : (if 2 + t101.size ≤ 9223372036854775807 then (if 2 + t101.size + 1 ≤ 9223372036854775807 then (some (((⟨#[27, 91]⟩ : ByteArray) ++ t101) ++ (⟨#[65]⟩ : ByteArray))) else (none)) else (none)) = some r := H
    have A3 := Aside0.mk A30
    clear A30
    by_cases c4 : 2 + t101.size ≤ 9223372036854775807
    · rw [if_pos c4] at H
      have c4b0 := eq_true c4
      have c4b1 : decide (2 + t101.size ≤ 9223372036854775807) = true := decide_eq_true c4
      try have c4b2 : (9223372036854775807 < 2 + t101.size) = False := eq_false (Nat.not_lt.2 c4)
      by_cases c5 : 2 + t101.size + 1 ≤ 9223372036854775807
      · rw [if_pos c5] at H
        have c5b0 := eq_true c5
        have c5b1 : decide (2 + t101.size + 1 ≤ 9223372036854775807) = true := decide_eq_true c5
        try have c5b2 : (9223372036854775807 < 2 + t101.size + 1) = False := eq_false (Nat.not_lt.2 c5)
        obtain rfl := Option.some.inj H
        go_enter Tryd.func21, Tryd.ntmps21
        go_wp2_with (first | ((with_reducible refine gate_callee (f := 69) rfl ?_); refine goesL_ (some 7) rfl rfl Tryd.func69 (by kernel_rfl) rfl #[.int .i64 a0] rfl (by (try simp only [List.map_toArray, List.map_cons, List.map_nil]); first | done | rfl | (simp only [List.length_drop, List.length_take]; rfl)) ?_; (with_reducible refine (strconv_Itoa.calls a0 t101 _ ?side1 A3.out).mono ?_); (case side1 => exact XTab.below HT.out (by repeat (first | (with_reducible first | exact HB.out | apply below_alloc | apply pw_below_drewN | apply below_drew1) | exact HB.out))); rintro e w6 ⟨rfl, hb⟩; refine ⟨_, rfl, ?_⟩; have n0_ := Aside0.mk (below_step (by repeat (first | (with_reducible first | exact HB.out | apply below_alloc | apply pw_below_drewN | apply below_drew1) | exact HB.out)) hb); clear HB; have HB := n0_; clear n0_; (try clear hb); (try clear hb2); (try clear hk); (try clear hi)))
        go_ret
        exact ⟨by first | rfl | (simp [errW_none, errW_some] <;> rfl) | (simp [*, errW_none, errW_some] <;> rfl), by repeat (first | (with_reducible first | exact HB.out | apply below_alloc | apply pw_below_drewN | apply below_drew1) | exact HB.out)⟩
      · rw [if_neg c5] at H
        exact absurd H (by simp)
    · rw [if_neg c4] at H
      exact absurd H (by simp)
  · rw [if_neg c2] at H
    have c2b0 : decide (1 < a0) = false := decide_eq_false c2
    clear c2
    by_cases c7 : 2 + 0 ≤ 9223372036854775807
    · rw [if_pos c7] at H
      have c7b0 := eq_true c7
      have c7b1 : decide (2 + 0 ≤ 9223372036854775807) = true := decide_eq_true c7
      try have c7b2 : (9223372036854775807 < 2 + 0) = False := eq_false (Nat.not_lt.2 c7)
      by_cases c8 : 2 + 0 + 1 ≤ 9223372036854775807
      · rw [if_pos c8] at H
        have c8b0 := eq_true c8
        have c8b1 : decide (2 + 0 + 1 ≤ 9223372036854775807) = true := decide_eq_true c8
        try have c8b2 : (9223372036854775807 < 2 + 0 + 1) = False := eq_false (Nat.not_lt.2 c8)
        obtain rfl := Option.some.inj H
        go_enter Tryd.func21, Tryd.ntmps21
        go_wp2
        go_ret
        exact ⟨by first | rfl | (simp [errW_none, errW_some] <;> rfl) | (simp [*, errW_none, errW_some] <;> rfl), by repeat (first | (with_reducible first | exact HB.out | apply below_alloc | apply pw_below_drewN | apply below_drew1) | exact HB.out)⟩
      · rw [if_neg c8] at H
        exact absurd H (by simp)
    · rw [if_neg c7] at H
      exact absurd H (by simp)

-- NOT PRINTED: function 22 (xansi_CursorDown)

-- NOT PRINTED: function 23 (xansi_CursorForward)

-- NOT PRINTED: function 24 (xansi_CursorBackward)

-- NOT PRINTED: function 25 (xansi_CursorNextLine)

-- NOT PRINTED: function 26 (xansi_CursorPreviousLine)

-- NOT PRINTED: function 27 (xansi_CursorHorizontalAbsolute)

-- NOT PRINTED: function 28 (xansi_CursorHorizontalForwardTab)

-- NOT PRINTED: function 29 (xansi_CursorBackwardTab)

-- NOT PRINTED: function 30 (xansi_EraseCharacter)

-- NOT PRINTED: function 31 (xansi_EraseDisplay)

-- NOT PRINTED: function 32 (xansi_EraseLine)

-- NOT PRINTED: function 33 (xansi_ScrollUp)

-- NOT PRINTED: function 34 (xansi_ScrollDown)

-- NOT PRINTED: function 35 (xansi_InsertLine)

-- NOT PRINTED: function 36 (xansi_DeleteLine)

-- NOT PRINTED: function 37 (xansi_InsertCharacter)

-- NOT PRINTED: function 38 (xansi_DeleteCharacter)

-- NOT PRINTED: function 39 (xansi_VerticalPositionAbsolute)

-- NOT PRINTED: function 40 (xansi_VerticalPositionRelative)

-- NOT PRINTED: function 41 (xansi_HorizontalPositionAbsolute)

-- NOT PRINTED: function 42 (xansi_HorizontalPositionRelative)

-- NOT PRINTED: function 43 (xansi_RepeatPreviousCharacter)

-- NOT PRINTED: function 44 (xansi_SetCursorStyle)

-- NOT PRINTED: function 45 (xansi_TabClear)

-- NOT PRINTED: function 46 (xansi_RequestPresentationStateReport)

/-! ### xansi_PushKittyKeyboard: function 47 -/
def xansi_PushKittyKeyboard.f (a0 : Int) : Option (ByteArray) := if a0 > 0 then ((strconv_Itoa.f a0).bind fun t102 => (if 3 + t102.size ≤ 9223372036854775807 then (if 3 + t102.size + 1 ≤ 9223372036854775807 then (some (((⟨#[27, 91, 62]⟩ : ByteArray) ++ t102) ++ (⟨#[117]⟩ : ByteArray))) else (none)) else (none))) else (if 3 + 0 ≤ 9223372036854775807 then (if 3 + 0 + 1 ≤ 9223372036854775807 then (some (((⟨#[27, 91, 62]⟩ : ByteArray) ++ (⟨#[]⟩ : ByteArray)) ++ (⟨#[117]⟩ : ByteArray))) else (none)) else (none))
set_option maxHeartbeats 8000000 in
set_option maxRecDepth 100000 in
theorem xansi_PushKittyKeyboard.calls (a0 : Int) (r : ByteArray) (w : World) (hT : XTab w) (h : xansi_PushKittyKeyboard.f a0 = some r) :
    Calls Tryd.prog 47 #[.int .i64 a0] w fun e w' => e = .returned (.string r) ∧ Below w.heap.size w w' := by
  have HT := Aside0.mk hT
  clear hT
  have HB := Aside0.mk (Below.refl w.heap.size w)
  have H : (if a0 > 0 then ((strconv_Itoa.f a0).bind fun t102 => (if 3 + t102.size ≤ 9223372036854775807 then (if 3 + t102.size + 1 ≤ 9223372036854775807 then (some (((⟨#[27, 91, 62]⟩ : ByteArray) ++ t102) ++ (⟨#[117]⟩ : ByteArray))) else (none)) else (none))) else (if 3 + 0 ≤ 9223372036854775807 then (if 3 + 0 + 1 ≤ 9223372036854775807 then (some (((⟨#[27, 91, 62]⟩ : ByteArray) ++ (⟨#[]⟩ : ByteArray)) ++ (⟨#[117]⟩ : ByteArray))) else (none)) else (none))) = some r := h
  clear h
  by_cases c2 : a0 > 0
  · rw [if_pos c2] at H
    have c2b0 : decide (0 < a0) = true := decide_eq_true c2
    clear c2
    replace H := Option.bind_eq_some_iff.mp H
    obtain ⟨t102, A30, H⟩ := H
    replace H : (if 3 + t102.size ≤ 9223372036854775807 then (if 3 + t102.size + 1 ≤ 9223372036854775807 then (some (((⟨#[27, 91, 62]⟩ : ByteArray) ++ t102) ++ (⟨#[117]⟩ : ByteArray))) else (none)) else (none)) = some r := H
    have A3 := Aside0.mk A30
    clear A30
    by_cases c4 : 3 + t102.size ≤ 9223372036854775807
    · rw [if_pos c4] at H
      have c4b0 := eq_true c4
      have c4b1 : decide (3 + t102.size ≤ 9223372036854775807) = true := decide_eq_true c4
      try have c4b2 : (9223372036854775807 < 3 + t102.size) = False := eq_false (Nat.not_lt.2 c4)
      by_cases c5 : 3 + t102.size + 1 ≤ 9223372036854775807
      · rw [if_pos c5] at H
        have c5b0 := eq_true c5
        have c5b1 : decide (3 + t102.size + 1 ≤ 9223372036854775807) = true := decide_eq_true c5
        try have c5b2 : (9223372036854775807 < 3 + t102.size + 1) = False := eq_false (Nat.not_lt.2 c5)
        obtain rfl := Option.some.inj H
        go_enter Tryd.func47, Tryd.ntmps47
        go_wp2_with (first | ((with_reducible refine gate_callee (f := 69) rfl ?_); refine goesL_ (some 7) rfl rfl Tryd.func69 (by kernel_rfl) rfl #[.int .i64 a0] rfl (by (try simp only [List.map_toArray, List.map_cons, List.map_nil]); first | done | rfl | (simp only [List.length_drop, List.length_take]; rfl)) ?_; (with_reducible refine (strconv_Itoa.calls a0 t102 _ ?side1 A3.out).mono ?_); (case side1 => exact XTab.below HT.out (by repeat (first | (with_reducible first | exact HB.out | apply below_alloc | apply pw_below_drewN | apply below_drew1) | exact HB.out))); rintro e w6 ⟨rfl, hb⟩; refine ⟨_, rfl, ?_⟩; have n0_ := Aside0.mk (below_step (by repeat (first | (with_reducible first | exact HB.out | apply below_alloc | apply pw_below_drewN | apply below_drew1) | exact HB.out)) hb); clear HB; have HB := n0_; clear n0_; (try clear hb); (try clear hb2); (try clear hk); (try clear hi)))
        go_ret
        exact ⟨by first | rfl | (simp [errW_none, errW_some] <;> rfl) | (simp [*, errW_none, errW_some] <;> rfl), by repeat (first | (with_reducible first | exact HB.out | apply below_alloc | apply pw_below_drewN | apply below_drew1) | exact HB.out)⟩
      · rw [if_neg c5] at H
        exact absurd H (by simp)
    · rw [if_neg c4] at H
      exact absurd H (by simp)
  · rw [if_neg c2] at H
    have c2b0 : decide (0 < a0) = false := decide_eq_false c2
    clear c2
    by_cases c7 : 3 + 0 ≤ 9223372036854775807
    · rw [if_pos c7] at H
      have c7b0 := eq_true c7
      have c7b1 : decide (3 + 0 ≤ 9223372036854775807) = true := decide_eq_true c7
      try have c7b2 : (9223372036854775807 < 3 + 0) = False := eq_false (Nat.not_lt.2 c7)
      by_cases c8 : 3 + 0 + 1 ≤ 9223372036854775807
      · rw [if_pos c8] at H
        have c8b0 := eq_true c8
        have c8b1 : decide (3 + 0 + 1 ≤ 9223372036854775807) = true := decide_eq_true c8
        try have c8b2 : (9223372036854775807 < 3 + 0 + 1) = False := eq_false (Nat.not_lt.2 c8)
        obtain rfl := Option.some.inj H
        go_enter Tryd.func47, Tryd.ntmps47
        go_wp2
        go_ret
        exact ⟨by first | rfl | (simp [errW_none, errW_some] <;> rfl) | (simp [*, errW_none, errW_some] <;> rfl), by repeat (first | (with_reducible first | exact HB.out | apply below_alloc | apply pw_below_drewN | apply below_drew1) | exact HB.out)⟩
      · rw [if_neg c8] at H
        exact absurd H (by simp)
    · rw [if_neg c7] at H
      exact absurd H (by simp)

/-! ### xansi_PopKittyKeyboard: function 48 -/
def xansi_PopKittyKeyboard.f (a0 : Int) : Option (ByteArray) := if a0 > 0 then ((strconv_Itoa.f a0).bind fun t103 => (if 3 + t103.size ≤ 9223372036854775807 then (if 3 + t103.size + 1 ≤ 9223372036854775807 then (some (((⟨#[27, 91, 60]⟩ : ByteArray) ++ t103) ++ (⟨#[117]⟩ : ByteArray))) else (none)) else (none))) else (if 3 + 0 ≤ 9223372036854775807 then (if 3 + 0 + 1 ≤ 9223372036854775807 then (some (((⟨#[27, 91, 60]⟩ : ByteArray) ++ (⟨#[]⟩ : ByteArray)) ++ (⟨#[117]⟩ : ByteArray))) else (none)) else (none))
set_option maxHeartbeats 8000000 in
set_option maxRecDepth 100000 in
theorem xansi_PopKittyKeyboard.calls (a0 : Int) (r : ByteArray) (w : World) (hT : XTab w) (h : xansi_PopKittyKeyboard.f a0 = some r) :
    Calls Tryd.prog 48 #[.int .i64 a0] w fun e w' => e = .returned (.string r) ∧ Below w.heap.size w w' := by
  have HT := Aside0.mk hT
  clear hT
  have HB := Aside0.mk (Below.refl w.heap.size w)
  have H : (if a0 > 0 then ((strconv_Itoa.f a0).bind fun t103 => (if 3 + t103.size ≤ 9223372036854775807 then (if 3 + t103.size + 1 ≤ 9223372036854775807 then (some (((⟨#[27, 91, 60]⟩ : ByteArray) ++ t103) ++ (⟨#[117]⟩ : ByteArray))) else (none)) else (none))) else (if 3 + 0 ≤ 9223372036854775807 then (if 3 + 0 + 1 ≤ 9223372036854775807 then (some (((⟨#[27, 91, 60]⟩ : ByteArray) ++ (⟨#[]⟩ : ByteArray)) ++ (⟨#[117]⟩ : ByteArray))) else (none)) else (none))) = some r := h
  clear h
  by_cases c2 : a0 > 0
  · rw [if_pos c2] at H
    have c2b0 : decide (0 < a0) = true := decide_eq_true c2
    clear c2
    replace H := Option.bind_eq_some_iff.mp H
    obtain ⟨t103, A30, H⟩ := H
    replace H : (if 3 + t103.size ≤ 9223372036854775807 then (if 3 + t103.size + 1 ≤ 9223372036854775807 then (some (((⟨#[27, 91, 60]⟩ : ByteArray) ++ t103) ++ (⟨#[117]⟩ : ByteArray))) else (none)) else (none)) = some r := H
    have A3 := Aside0.mk A30
    clear A30
    by_cases c4 : 3 + t103.size ≤ 9223372036854775807
    · rw [if_pos c4] at H
      have c4b0 := eq_true c4
      have c4b1 : decide (3 + t103.size ≤ 9223372036854775807) = true := decide_eq_true c4
      try have c4b2 : (9223372036854775807 < 3 + t103.size) = False := eq_false (Nat.not_lt.2 c4)
      by_cases c5 : 3 + t103.size + 1 ≤ 9223372036854775807
      · rw [if_pos c5] at H
        have c5b0 := eq_true c5
        have c5b1 : decide (3 + t103.size + 1 ≤ 9223372036854775807) = true := decide_eq_true c5
        try have c5b2 : (9223372036854775807 < 3 + t103.size + 1) = False := eq_false (Nat.not_lt.2 c5)
        obtain rfl := Option.some.inj H
        go_enter Tryd.func48, Tryd.ntmps48
        go_wp2_with (first | ((with_reducible refine gate_callee (f := 69) rfl ?_); refine goesL_ (some 7) rfl rfl Tryd.func69 (by kernel_rfl) rfl #[.int .i64 a0] rfl (by (try simp only [List.map_toArray, List.map_cons, List.map_nil]); first | done | rfl | (simp only [List.length_drop, List.length_take]; rfl)) ?_; (with_reducible refine (strconv_Itoa.calls a0 t103 _ ?side1 A3.out).mono ?_); (case side1 => exact XTab.below HT.out (by repeat (first | (with_reducible first | exact HB.out | apply below_alloc | apply pw_below_drewN | apply below_drew1) | exact HB.out))); rintro e w6 ⟨rfl, hb⟩; refine ⟨_, rfl, ?_⟩; have n0_ := Aside0.mk (below_step (by repeat (first | (with_reducible first | exact HB.out | apply below_alloc | apply pw_below_drewN | apply below_drew1) | exact HB.out)) hb); clear HB; have HB := n0_; clear n0_; (try clear hb); (try clear hb2); (try clear hk); (try clear hi)))
        go_ret
        exact ⟨by first | rfl | (simp [errW_none, errW_some] <;> rfl) | (simp [*, errW_none, errW_some] <;> rfl), by repeat (first | (with_reducible first | exact HB.out | apply below_alloc | apply pw_below_drewN | apply below_drew1) | exact HB.out)⟩
      · rw [if_neg c5] at H
        exact absurd H (by simp)
    · rw [if_neg c4] at H
      exact absurd H (by simp)
  · rw [if_neg c2] at H
    have c2b0 : decide (0 < a0) = false := decide_eq_false c2
    clear c2
    by_cases c7 : 3 + 0 ≤ 9223372036854775807
    · rw [if_pos c7] at H
      have c7b0 := eq_true c7
      have c7b1 : decide (3 + 0 ≤ 9223372036854775807) = true := decide_eq_true c7
      try have c7b2 : (9223372036854775807 < 3 + 0) = False := eq_false (Nat.not_lt.2 c7)
      by_cases c8 : 3 + 0 + 1 ≤ 9223372036854775807
      · rw [if_pos c8] at H
        have c8b0 := eq_true c8
        have c8b1 : decide (3 + 0 + 1 ≤ 9223372036854775807) = true := decide_eq_true c8
        try have c8b2 : (9223372036854775807 < 3 + 0 + 1) = False := eq_false (Nat.not_lt.2 c8)
        obtain rfl := Option.some.inj H
        go_enter Tryd.func48, Tryd.ntmps48
        go_wp2
        go_ret
        exact ⟨by first | rfl | (simp [errW_none, errW_some] <;> rfl) | (simp [*, errW_none, errW_some] <;> rfl), by repeat (first | (with_reducible first | exact HB.out | apply below_alloc | apply pw_below_drewN | apply below_drew1) | exact HB.out)⟩
      · rw [if_neg c8] at H
        exact absurd H (by simp)
    · rw [if_neg c7] at H
      exact absurd H (by simp)

-- NOT PRINTED: function 49 (xansi_QueryKeyModifierOptions)

-- NOT PRINTED: function 50 (xansi_ResetKeyModifierOptions)

-- NOT PRINTED: function 51 (xansi_ModifyOtherKeys)

/-! ### xansi_SetProgressBar: function 52 -/
def xansi_SetProgressBar.f (a0 : Int) : Option (ByteArray) := (strconv_Itoa.f (mn (mx 0 a0) 100)).bind fun t104 => (if 8 + t104.size ≤ 9223372036854775807 then (if 8 + t104.size + 1 ≤ 9223372036854775807 then (some (((⟨#[27, 93, 57, 59, 52, 59, 49, 59]⟩ : ByteArray) ++ t104) ++ (⟨#[7]⟩ : ByteArray))) else (none)) else (none))
set_option maxHeartbeats 8000000 in
set_option maxRecDepth 100000 in
theorem xansi_SetProgressBar.calls (a0 : Int) (r : ByteArray) (w : World) (hT : XTab w) (h : xansi_SetProgressBar.f a0 = some r) :
    Calls Tryd.prog 52 #[.int .i64 a0] w fun e w' => e = .returned (.string r) ∧ Below w.heap.size w w' := by
  have HT := Aside0.mk hT
  clear hT
  have HB := Aside0.mk (Below.refl w.heap.size w)
  have H : ((strconv_Itoa.f (mn (mx 0 a0) 100)).bind fun t104 => (if 8 + t104.size ≤ 9223372036854775807 then (if 8 + t104.size + 1 ≤ 9223372036854775807 then (some (((⟨#[27, 93, 57, 59, 52, 59, 49, 59]⟩ : ByteArray) ++ t104) ++ (⟨#[7]⟩ : ByteArray))) else (none)) else (none))) = some r := h
  clear h
  obtain ⟨ji2, hji2⟩ : ∃ j_ : Int, (mx 0 a0) = j_ := ⟨_, rfl⟩
  replace H : ((strconv_Itoa.f (mn (ji2) 100)).bind fun t104 => (if 8 + t104.size ≤ 9223372036854775807 then (if 8 + t104.size + 1 ≤ 9223372036854775807 then (some (((⟨#[27, 93, 57, 59, 52, 59, 49, 59]⟩ : ByteArray) ++ t104) ++ (⟨#[7]⟩ : ByteArray))) else (none)) else (none))) = some r := by first | (rw [hji2] at H; exact H) | (simp only [hji2] at H ⊢; exact H)
  (try (have hji2l : 0 ≤ ji2 := by (rw [← hji2]; unfold mx; (repeat' split) <;> omega)))
  (try (have hji2m : 0 ≤ ji2 := by omega))
  have hji2_ : (if 0 < a0 then a0 else 0) = ji2 := hji2
  obtain ⟨ji3, hji3⟩ : ∃ j_ : Int, (mn (ji2) 100) = j_ := ⟨_, rfl⟩
  replace H : ((strconv_Itoa.f (ji3)).bind fun t104 => (if 8 + t104.size ≤ 9223372036854775807 then (if 8 + t104.size + 1 ≤ 9223372036854775807 then (some (((⟨#[27, 93, 57, 59, 52, 59, 49, 59]⟩ : ByteArray) ++ t104) ++ (⟨#[7]⟩ : ByteArray))) else (none)) else (none))) = some r := by first | (rw [hji3] at H; exact H) | (simp only [hji3] at H ⊢; exact H)
  have hji3_ : (if 100 < (ji2) then 100 else (ji2)) = ji3 := hji3
  replace H := Option.bind_eq_some_iff.mp H
  obtain ⟨t104, A40, H⟩ := H
  replace H : (if 8 + t104.size ≤ 9223372036854775807 then (if 8 + t104.size + 1 ≤ 9223372036854775807 then (some (((⟨#[27, 93, 57, 59, 52, 59, 49, 59]⟩ : ByteArray) ++ t104) ++ (⟨#[7]⟩ : ByteArray))) else (none)) else (none)) = some r := H
  have A4 := Aside0.mk A40
  clear A40
  by_cases c5 : 8 + t104.size ≤ 9223372036854775807
  · rw [if_pos c5] at H
    have c5b0 := eq_true c5
    have c5b1 : decide (8 + t104.size ≤ 9223372036854775807) = true := decide_eq_true c5
    try have c5b2 : (9223372036854775807 < 8 + t104.size) = False := eq_false (Nat.not_lt.2 c5)
    by_cases c6 : 8 + t104.size + 1 ≤ 9223372036854775807
    · rw [if_pos c6] at H
      have c6b0 := eq_true c6
      have c6b1 : decide (8 + t104.size + 1 ≤ 9223372036854775807) = true := decide_eq_true c6
      try have c6b2 : (9223372036854775807 < 8 + t104.size + 1) = False := eq_false (Nat.not_lt.2 c6)
      obtain rfl := Option.some.inj H
      go_enter Tryd.func52, Tryd.ntmps52
      go_wp2_with (first | ((with_reducible refine gate_callee (f := 69) rfl ?_); refine goesL_ (some 6) rfl rfl Tryd.func69 (by kernel_rfl) rfl #[.int .i64 ji3] rfl (by (try simp only [List.map_toArray, List.map_cons, List.map_nil]); first | done | (simp only [hji3]; rfl) | rfl | (simp only [List.length_drop, List.length_take]; rfl)) ?_; (with_reducible refine (strconv_Itoa.calls ji3 t104 _ ?side1 A4.out).mono ?_); (case side1 => exact XTab.below HT.out (by repeat (first | (with_reducible first | exact HB.out | apply below_alloc | apply pw_below_drewN | apply below_drew1) | exact HB.out))); rintro e w7 ⟨rfl, hb⟩; refine ⟨_, rfl, ?_⟩; have n0_ := Aside0.mk (below_step (by repeat (first | (with_reducible first | exact HB.out | apply below_alloc | apply pw_below_drewN | apply below_drew1) | exact HB.out)) hb); clear HB; have HB := n0_; clear n0_; (try clear hb); (try clear hb2); (try clear hk); (try clear hi)))
      go_ret
      exact ⟨by first | rfl | (simp [errW_none, errW_some] <;> rfl) | (simp only [← hji2, ← hji3]; first | rfl | (simp [errW_none, errW_some] <;> rfl)) | (simp [*, errW_none, errW_some] <;> rfl), by repeat (first | (with_reducible first | exact HB.out | apply below_alloc | apply pw_below_drewN | apply below_drew1) | exact HB.out)⟩
    · rw [if_neg c6] at H
      exact absurd H (by simp)
  · rw [if_neg c5] at H
    exact absurd H (by simp)

/-! ### xansi_SetErrorProgressBar: function 53 -/
def xansi_SetErrorProgressBar.f (a0 : Int) : Option (ByteArray) := (strconv_Itoa.f (mn (mx 0 a0) 100)).bind fun t105 => (if 8 + t105.size ≤ 9223372036854775807 then (if 8 + t105.size + 1 ≤ 9223372036854775807 then (some (((⟨#[27, 93, 57, 59, 52, 59, 50, 59]⟩ : ByteArray) ++ t105) ++ (⟨#[7]⟩ : ByteArray))) else (none)) else (none))
set_option maxHeartbeats 8000000 in
set_option maxRecDepth 100000 in
theorem xansi_SetErrorProgressBar.calls (a0 : Int) (r : ByteArray) (w : World) (hT : XTab w) (h : xansi_SetErrorProgressBar.f a0 = some r) :
    Calls Tryd.prog 53 #[.int .i64 a0] w fun e w' => e = .returned (.string r) ∧ Below w.heap.size w w' := by
  have HT := Aside0.mk hT
  clear hT
  have HB := Aside0.mk (Below.refl w.heap.size w)
  have H : ((strconv_Itoa.f (mn (mx 0 a0) 100)).bind fun t105 => (if 8 + t105.size ≤ 9223372036854775807 then (if 8 + t105.size + 1 ≤ 9223372036854775807 then (some (((⟨#[27, 93, 57, 59, 52, 59, 50, 59]⟩ : ByteArray) ++ t105) ++ (⟨#[7]⟩ : ByteArray))) else (none)) else (none))) = some r := h
  clear h
  obtain ⟨ji2, hji2⟩ : ∃ j_ : Int, (mx 0 a0) = j_ := ⟨_, rfl⟩
  replace H : ((strconv_Itoa.f (mn (ji2) 100)).bind fun t105 => (if 8 + t105.size ≤ 9223372036854775807 then (if 8 + t105.size + 1 ≤ 9223372036854775807 then (some (((⟨#[27, 93, 57, 59, 52, 59, 50, 59]⟩ : ByteArray) ++ t105) ++ (⟨#[7]⟩ : ByteArray))) else (none)) else (none))) = some r := by first | (rw [hji2] at H; exact H) | (simp only [hji2] at H ⊢; exact H)
  (try (have hji2l : 0 ≤ ji2 := by (rw [← hji2]; unfold mx; (repeat' split) <;> omega)))
  (try (have hji2m : 0 ≤ ji2 := by omega))
  have hji2_ : (if 0 < a0 then a0 else 0) = ji2 := hji2
  obtain ⟨ji3, hji3⟩ : ∃ j_ : Int, (mn (ji2) 100) = j_ := ⟨_, rfl⟩
  replace H : ((strconv_Itoa.f (ji3)).bind fun t105 => (if 8 + t105.size ≤ 9223372036854775807 then (if 8 + t105.size + 1 ≤ 9223372036854775807 then (some (((⟨#[27, 93, 57, 59, 52, 59, 50, 59]⟩ : ByteArray) ++ t105) ++ (⟨#[7]⟩ : ByteArray))) else (none)) else (none))) = some r := by first | (rw [hji3] at H; exact H) | (simp only [hji3] at H ⊢; exact H)
  have hji3_ : (if 100 < (ji2) then 100 else (ji2)) = ji3 := hji3
  replace H := Option.bind_eq_some_iff.mp H
  obtain ⟨t105, A40, H⟩ := H
  replace H : (if 8 + t105.size ≤ 9223372036854775807 then (if 8 + t105.size + 1 ≤ 9223372036854775807 then (some (((⟨#[27, 93, 57, 59, 52, 59, 50, 59]⟩ : ByteArray) ++ t105) ++ (⟨#[7]⟩ : ByteArray))) else (none)) else (none)) = some r := H
  have A4 := Aside0.mk A40
  clear A40
  by_cases c5 : 8 + t105.size ≤ 9223372036854775807
  · rw [if_pos c5] at H
    have c5b0 := eq_true c5
    have c5b1 : decide (8 + t105.size ≤ 9223372036854775807) = true := decide_eq_true c5
    try have c5b2 : (9223372036854775807 < 8 + t105.size) = False := eq_false (Nat.not_lt.2 c5)
    by_cases c6 : 8 + t105.size + 1 ≤ 9223372036854775807
    · rw [if_pos c6] at H
      have c6b0 := eq_true c6
      have c6b1 : decide (8 + t105.size + 1 ≤ 9223372036854775807) = true := decide_eq_true c6
      try have c6b2 : (9223372036854775807 < 8 + t105.size + 1) = False := eq_false (Nat.not_lt.2 c6)
      obtain rfl := Option.some.inj H
      go_enter Tryd.func53, Tryd.ntmps53
      go_wp2_with (first | ((with_reducible refine gate_callee (f := 69) rfl ?_); refine goesL_ (some 6) rfl rfl Tryd.func69 (by kernel_rfl) rfl #[.int .i64 ji3] rfl (by (try simp only [List.map_toArray, List.map_cons, List.map_nil]); first | done | (simp only [hji3]; rfl) | rfl | (simp only [List.length_drop, List.length_take]; rfl)) ?_; (with_reducible refine (strconv_Itoa.calls ji3 t105 _ ?side1 A4.out).mono ?_); (case side1 => exact XTab.below HT.out (by repeat (first | (with_reducible first | exact HB.out | apply below_alloc | apply pw_below_drewN | apply below_drew1) | exact HB.out))); rintro e w7 ⟨rfl, hb⟩; refine ⟨_, rfl, ?_⟩; have n0_ := Aside0.mk (below_step (by repeat (first | (with_reducible first | exact HB.out | apply below_alloc | apply pw_below_drewN | apply below_drew1) | exact HB.out)) hb); clear HB; have HB := n0_; clear n0_; (try clear hb); (try clear hb2); (try clear hk); (try clear hi)))
      go_ret
      exact ⟨by first | rfl | (simp [errW_none, errW_some] <;> rfl) | (simp only [← hji2, ← hji3]; first | rfl | (simp [errW_none, errW_some] <;> rfl)) | (simp [*, errW_none, errW_some] <;> rfl), by repeat (first | (with_reducible first | exact HB.out | apply below_alloc | apply pw_below_drewN | apply below_drew1) | exact HB.out)⟩
    · rw [if_neg c6] at H
      exact absurd H (by simp)
  · rw [if_neg c5] at H
    exact absurd H (by simp)

/-! ### xansi_SetWarningProgressBar: function 54 -/
def xansi_SetWarningProgressBar.f (a0 : Int) : Option (ByteArray) := (strconv_Itoa.f (mn (mx 0 a0) 100)).bind fun t106 => (if 8 + t106.size ≤ 9223372036854775807 then (if 8 + t106.size + 1 ≤ 9223372036854775807 then (some (((⟨#[27, 93, 57, 59, 52, 59, 52, 59]⟩ : ByteArray) ++ t106) ++ (⟨#[7]⟩ : ByteArray))) else (none)) else (none))
set_option maxHeartbeats 8000000 in
set_option maxRecDepth 100000 in
theorem xansi_SetWarningProgressBar.calls (a0 : Int) (r : ByteArray) (w : World) (hT : XTab w) (h : xansi_SetWarningProgressBar.f a0 = some r) :
    Calls Tryd.prog 54 #[.int .i64 a0] w fun e w' => e = .returned (.string r) ∧ Below w.heap.size w w' := by
  have HT := Aside0.mk hT
  clear hT
  have HB := Aside0.mk (Below.refl w.heap.size w)
  have H : ((strconv_Itoa.f (mn (mx 0 a0) 100)).bind fun t106 => (if 8 + t106.size ≤ 9223372036854775807 then (if 8 + t106.size + 1 ≤ 9223372036854775807 then (some (((⟨#[27, 93, 57, 59, 52, 59, 52, 59]⟩ : ByteArray) ++ t106) ++ (⟨#[7]⟩ : ByteArray))) else (none)) else (none))) = some r := h
  clear h
  obtain ⟨ji2, hji2⟩ : ∃ j_ : Int, (mx 0 a0) = j_ := ⟨_, rfl⟩
  replace H : ((strconv_Itoa.f (mn (ji2) 100)).bind fun t106 => (if 8 + t106.size ≤ 9223372036854775807 then (if 8 + t106.size + 1 ≤ 9223372036854775807 then (some (((⟨#[27, 93, 57, 59, 52, 59, 52, 59]⟩ : ByteArray) ++ t106) ++ (⟨#[7]⟩ : ByteArray))) else (none)) else (none))) = some r := by first | (rw [hji2] at H; exact H) | (simp only [hji2] at H ⊢; exact H)
  (try (have hji2l : 0 ≤ ji2 := by (rw [← hji2]; unfold mx; (repeat' split) <;> omega)))
  (try (have hji2m : 0 ≤ ji2 := by omega))
  have hji2_ : (if 0 < a0 then a0 else 0) = ji2 := hji2
  obtain ⟨ji3, hji3⟩ : ∃ j_ : Int, (mn (ji2) 100) = j_ := ⟨_, rfl⟩
  replace H : ((strconv_Itoa.f (ji3)).bind fun t106 => (if 8 + t106.size ≤ 9223372036854775807 then (if 8 + t106.size + 1 ≤ 9223372036854775807 then (some (((⟨#[27, 93, 57, 59, 52, 59, 52, 59]⟩ : ByteArray) ++ t106) ++ (⟨#[7]⟩ : ByteArray))) else (none)) else (none))) = some r := by first | (rw [hji3] at H; exact H) | (simp only [hji3] at H ⊢; exact H)
  have hji3_ : (if 100 < (ji2) then 100 else (ji2)) = ji3 := hji3
  replace H := Option.bind_eq_some_iff.mp H
  obtain ⟨t106, A40, H⟩ := H
  replace H : (if 8 + t106.size ≤ 9223372036854775807 then (if 8 + t106.size + 1 ≤ 9223372036854775807 then (some (((⟨#[27, 93, 57, 59, 52, 59, 52, 59]⟩ : ByteArray) ++ t106) ++ (⟨#[7]⟩ : ByteArray))) else (none)) else (none)) = some r := H
  have A4 := Aside0.mk A40
  clear A40
  by_cases c5 : 8 + t106.size ≤ 9223372036854775807
  · rw [if_pos c5] at H
    have c5b0 := eq_true c5
    have c5b1 : decide (8 + t106.size ≤ 9223372036854775807) = true := decide_eq_true c5
    try have c5b2 : (9223372036854775807 < 8 + t106.size) = False := eq_false (Nat.not_lt.2 c5)
    by_cases c6 : 8 + t106.size + 1 ≤ 9223372036854775807
    · rw [if_pos c6] at H
      have c6b0 := eq_true c6
      have c6b1 : decide (8 + t106.size + 1 ≤ 9223372036854775807) = true := decide_eq_true c6
      try have c6b2 : (9223372036854775807 < 8 + t106.size + 1) = False := eq_false (Nat.not_lt.2 c6)
      obtain rfl := Option.some.inj H
      go_enter Tryd.func54, Tryd.ntmps54
      go_wp2_with (first | ((with_reducible refine gate_callee (f := 69) rfl ?_); refine goesL_ (some 6) rfl rfl Tryd.func69 (by kernel_rfl) rfl #[.int .i64 ji3] rfl (by (try simp only [List.map_toArray, List.map_cons, List.map_nil]); first | done | (simp only [hji3]; rfl) | rfl | (simp only [List.length_drop, List.length_take]; rfl)) ?_; (with_reducible refine (strconv_Itoa.calls ji3 t106 _ ?side1 A4.out).mono ?_); (case side1 => exact XTab.below HT.out (by repeat (first | (with_reducible first | exact HB.out | apply below_alloc | apply pw_below_drewN | apply below_drew1) | exact HB.out))); rintro e w7 ⟨rfl, hb⟩; refine ⟨_, rfl, ?_⟩; have n0_ := Aside0.mk (below_step (by repeat (first | (with_reducible first | exact HB.out | apply below_alloc | apply pw_below_drewN | apply below_drew1) | exact HB.out)) hb); clear HB; have HB := n0_; clear n0_; (try clear hb); (try clear hb2); (try clear hk); (try clear hi)))
      go_ret
      exact ⟨by first | rfl | (simp [errW_none, errW_some] <;> rfl) | (simp only [← hji2, ← hji3]; first | rfl | (simp [errW_none, errW_some] <;> rfl)) | (simp [*, errW_none, errW_some] <;> rfl), by repeat (first | (with_reducible first | exact HB.out | apply below_alloc | apply pw_below_drewN | apply below_drew1) | exact HB.out)⟩
    · rw [if_neg c6] at H
      exact absurd H (by simp)
  · rw [if_neg c5] at H
    exact absurd H (by simp)

/-! ### impl_MakeNumber: function 9 -/
def impl_MakeNumber.f (a0 : Int) (a1 : Int) : Option (ByteArray) := if a0 = 0 then ((xansi_CursorUp.f a1).bind fun t107 => (some t107)) else (if a0 = 1 then (none) else (if a0 = 2 then (none) else (if a0 = 3 then (none) else (if a0 = 4 then (none) else (if a0 = 5 then (none) else (if a0 = 6 then (none) else (if a0 = 7 then (none) else (if a0 = 8 then (none) else (if a0 = 9 then (none) else (if a0 = 10 then (none) else (if a0 = 11 then (none) else (if a0 = 12 then (none) else (if a0 = 13 then (none) else (if a0 = 14 then (none) else (if a0 = 15 then (none) else (if a0 = 16 then (none) else (if a0 = 17 then (none) else (if a0 = 18 then (none) else (if a0 = 19 then (none) else (if a0 = 20 then (none) else (if a0 = 21 then (none) else (if a0 = 22 then (none) else (if a0 = 23 then (none) else (if a0 = 24 then (none) else (if a0 = 25 then (none) else (if a0 = 26 then ((xansi_PushKittyKeyboard.f a1).bind fun t108 => (some t108)) else (if a0 = 27 then ((xansi_PopKittyKeyboard.f a1).bind fun t109 => (some t109)) else (if a0 = 28 then (none) else (if a0 = 29 then (none) else (if a0 = 30 then (none) else (if a0 = 31 then ((xansi_SetProgressBar.f a1).bind fun t110 => (some t110)) else (if a0 = 32 then ((xansi_SetErrorProgressBar.f a1).bind fun t111 => (some t111)) else (if a0 = 33 then ((xansi_SetWarningProgressBar.f a1).bind fun t112 => (some t112)) else (some (⟨#[]⟩ : ByteArray)))))))))))))))))))))))))))))))))))
set_option maxHeartbeats 8000000 in
set_option maxRecDepth 100000 in
theorem impl_MakeNumber.calls (a0 : Int) (a1 : Int) (r : ByteArray) (w : World) (hT : XTab w) (h : impl_MakeNumber.f a0 a1 = some r) :
    Calls Tryd.prog 9 #[.int .i64 a0, .int .i64 a1] w fun e w' => e = .returned (.string r) ∧ Below w.heap.size w w' := by
  have HT := Aside0.mk hT
  clear hT
  have HB := Aside0.mk (Below.refl w.heap.size w)
  have H : (if a0 = 0 then ((xansi_CursorUp.f a1).bind fun t107 => (some t107)) else (if a0 = 1 then (none) else (if a0 = 2 then (none) else (if a0 = 3 then (none) else (if a0 = 4 then (none) else (if a0 = 5 then (none) else (if a0 = 6 then (none) else (if a0 = 7 then (none) else (if a0 = 8 then (none) else (if a0 = 9 then (none) else (if a0 = 10 then (none) else (if a0 = 11 then (none) else (if a0 = 12 then (none) else (if a0 = 13 then (none) else (if a0 = 14 then (none) else (if a0 = 15 then (none) else (if a0 = 16 then (none) else (if a0 = 17 then (none) else (if a0 = 18 then (none) else (if a0 = 19 then (none) else (if a0 = 20 then (none) else (if a0 = 21 then (none) else (if a0 = 22 then (none) else (if a0 = 23 then (none) else (if a0 = 24 then (none) else (if a0 = 25 then (none) else (if a0 = 26 then ((xansi_PushKittyKeyboard.f a1).bind fun t108 => (some t108)) else (if a0 = 27 then ((xansi_PopKittyKeyboard.f a1).bind fun t109 => (some t109)) else (if a0 = 28 then (none) else (if a0 = 29 then (none) else (if a0 = 30 then (none) else (if a0 = 31 then ((xansi_SetProgressBar.f a1).bind fun t110 => (some t110)) else (if a0 = 32 then ((xansi_SetErrorProgressBar.f a1).bind fun t111 => (some t111)) else (if a0 = 33 then ((xansi_SetWarningProgressBar.f a1).bind fun t112 => (some t112)) else (some (⟨#[]⟩ : ByteArray)))))))))))))))))))))))))))))))))))) = some r := h
  clear h
  by_cases c3 : a0 = 0
  · rw [if_pos c3] at H
    have c3b0 : (a0 == 0) = true := beq_iff_eq.mpr c3
    have c3b1 : (a0 != 0) = false := bne_eq_false_iff_eq.mpr c3
    clear c3
    replace H := Option.bind_eq_some_iff.mp H
    obtain ⟨t107, A40, H⟩ := H
    replace H : (some t107) = some r := H
    have A4 := Aside0.mk A40
    clear A40
    obtain rfl := Option.some.inj H
    go_enter Tryd.func9, Tryd.ntmps9
    go_wp2_with (first | ((with_reducible refine gate_callee (f := 21) rfl ?_); refine goesL_ (some 11) rfl rfl Tryd.func21 (by kernel_rfl) rfl #[.int .i64 a1] rfl (by (try simp only [List.map_toArray, List.map_cons, List.map_nil]); first | done | rfl | (simp only [List.length_drop, List.length_take]; rfl)) ?_; (with_reducible refine (xansi_CursorUp.calls a1 t107 _ ?side1 A4.out).mono ?_); (case side1 => exact XTab.below HT.out (by repeat (first | (with_reducible first | exact HB.out | apply below_alloc | apply pw_below_drewN | apply below_drew1) | exact HB.out))); rintro e w5 ⟨rfl, hb⟩; refine ⟨_, rfl, ?_⟩; have n0_ := Aside0.mk (below_step (by repeat (first | (with_reducible first | exact HB.out | apply below_alloc | apply pw_below_drewN | apply below_drew1) | exact HB.out)) hb); clear HB; have HB := n0_; clear n0_; (try clear hb); (try clear hb2); (try clear hk); (try clear hi)))
    go_ret
    exact ⟨by first | rfl | (simp [errW_none, errW_some] <;> rfl) | (simp [*, errW_none, errW_some] <;> rfl), by repeat (first | (with_reducible first | exact HB.out | apply below_alloc | apply pw_below_drewN | apply below_drew1) | exact HB.out)⟩
  · rw [if_neg c3] at H
    have c3b0 : (a0 == 0) = false := beq_eq_false_iff_ne.mpr c3
    have c3b1 : (a0 != 0) = true := bne_iff_ne.mpr c3
    by_cases c6 : a0 = 1
    · rw [if_pos c6] at H
      exact absurd H (by simp)
    · rw [if_neg c6] at H
      have c6b0 : (a0 == 1) = false := beq_eq_false_iff_ne.mpr c6
      have c6b1 : (a0 != 1) = true := bne_iff_ne.mpr c6
      by_cases c7 : a0 = 2
      · rw [if_pos c7] at H
        exact absurd H (by simp)
      · rw [if_neg c7] at H
        have c7b0 : (a0 == 2) = false := beq_eq_false_iff_ne.mpr c7
        have c7b1 : (a0 != 2) = true := bne_iff_ne.mpr c7
        by_cases c8 : a0 = 3
        · rw [if_pos c8] at H
          exact absurd H (by simp)
        · rw [if_neg c8] at H
          have c8b0 : (a0 == 3) = false := beq_eq_false_iff_ne.mpr c8
          have c8b1 : (a0 != 3) = true := bne_iff_ne.mpr c8
          by_cases c9 : a0 = 4
          · rw [if_pos c9] at H
            exact absurd H (by simp)
          · rw [if_neg c9] at H
            have c9b0 : (a0 == 4) = false := beq_eq_false_iff_ne.mpr c9
            have c9b1 : (a0 != 4) = true := bne_iff_ne.mpr c9
            by_cases c10 : a0 = 5
            · rw [if_pos c10] at H
              exact absurd H (by simp)
            · rw [if_neg c10] at H
              have c10b0 : (a0 == 5) = false := beq_eq_false_iff_ne.mpr c10
              have c10b1 : (a0 != 5) = true := bne_iff_ne.mpr c10
              by_cases c11 : a0 = 6
              · rw [if_pos c11] at H
                exact absurd H (by simp)
              · rw [if_neg c11] at H
                have c11b0 : (a0 == 6) = false := beq_eq_false_iff_ne.mpr c11
                have c11b1 : (a0 != 6) = true := bne_iff_ne.mpr c11
                by_cases c12 : a0 = 7
                · rw [if_pos c12] at H
                  exact absurd H (by simp)
                · rw [if_neg c12] at H
                  have c12b0 : (a0 == 7) = false := beq_eq_false_iff_ne.mpr c12
                  have c12b1 : (a0 != 7) = true := bne_iff_ne.mpr c12
                  by_cases c13 : a0 = 8
                  · rw [if_pos c13] at H
                    exact absurd H (by simp)
                  · rw [if_neg c13] at H
                    have c13b0 : (a0 == 8) = false := beq_eq_false_iff_ne.mpr c13
                    have c13b1 : (a0 != 8) = true := bne_iff_ne.mpr c13
                    by_cases c14 : a0 = 9
                    · rw [if_pos c14] at H
                      exact absurd H (by simp)
                    · rw [if_neg c14] at H
                      have c14b0 : (a0 == 9) = false := beq_eq_false_iff_ne.mpr c14
                      have c14b1 : (a0 != 9) = true := bne_iff_ne.mpr c14
                      by_cases c15 : a0 = 10
                      · rw [if_pos c15] at H
                        exact absurd H (by simp)
                      · rw [if_neg c15] at H
                        have c15b0 : (a0 == 10) = false := beq_eq_false_iff_ne.mpr c15
                        have c15b1 : (a0 != 10) = true := bne_iff_ne.mpr c15
                        by_cases c16 : a0 = 11
                        · rw [if_pos c16] at H
                          exact absurd H (by simp)
                        · rw [if_neg c16] at H
                          have c16b0 : (a0 == 11) = false := beq_eq_false_iff_ne.mpr c16
                          have c16b1 : (a0 != 11) = true := bne_iff_ne.mpr c16
                          by_cases c17 : a0 = 12
                          · rw [if_pos c17] at H
                            exact absurd H (by simp)
                          · rw [if_neg c17] at H
                            have c17b0 : (a0 == 12) = false := beq_eq_false_iff_ne.mpr c17
                            have c17b1 : (a0 != 12) = true := bne_iff_ne.mpr c17
                            by_cases c18 : a0 = 13
                            · rw [if_pos c18] at H
                              exact absurd H (by simp)
                            · rw [if_neg c18] at H
                              have c18b0 : (a0 == 13) = false := beq_eq_false_iff_ne.mpr c18
                              have c18b1 : (a0 != 13) = true := bne_iff_ne.mpr c18
                              by_cases c19 : a0 = 14
                              · rw [if_pos c19] at H
                                exact absurd H (by simp)
                              · rw [if_neg c19] at H
                                have c19b0 : (a0 == 14) = false := beq_eq_false_iff_ne.mpr c19
                                have c19b1 : (a0 != 14) = true := bne_iff_ne.mpr c19
                                by_cases c20 : a0 = 15
                                · rw [if_pos c20] at H
                                  exact absurd H (by simp)
                                · rw [if_neg c20] at H
                                  have c20b0 : (a0 == 15) = false := beq_eq_false_iff_ne.mpr c20
                                  have c20b1 : (a0 != 15) = true := bne_iff_ne.mpr c20
                                  by_cases c21 : a0 = 16
                                  · rw [if_pos c21] at H
                                    exact absurd H (by simp)
                                  · rw [if_neg c21] at H
                                    have c21b0 : (a0 == 16) = false := beq_eq_false_iff_ne.mpr c21
                                    have c21b1 : (a0 != 16) = true := bne_iff_ne.mpr c21
                                    by_cases c22 : a0 = 17
                                    · rw [if_pos c22] at H
                                      exact absurd H (by simp)
                                    · rw [if_neg c22] at H
                                      have c22b0 : (a0 == 17) = false := beq_eq_false_iff_ne.mpr c22
                                      have c22b1 : (a0 != 17) = true := bne_iff_ne.mpr c22
                                      by_cases c23 : a0 = 18
                                      · rw [if_pos c23] at H
                                        exact absurd H (by simp)
                                      · rw [if_neg c23] at H
                                        have c23b0 : (a0 == 18) = false := beq_eq_false_iff_ne.mpr c23
                                        have c23b1 : (a0 != 18) = true := bne_iff_ne.mpr c23
                                        by_cases c24 : a0 = 19
                                        · rw [if_pos c24] at H
                                          exact absurd H (by simp)
                                        · rw [if_neg c24] at H
                                          have c24b0 : (a0 == 19) = false := beq_eq_false_iff_ne.mpr c24
                                          have c24b1 : (a0 != 19) = true := bne_iff_ne.mpr c24
                                          by_cases c25 : a0 = 20
                                          · rw [if_pos c25] at H
                                            exact absurd H (by simp)
                                          · rw [if_neg c25] at H
                                            have c25b0 : (a0 == 20) = false := beq_eq_false_iff_ne.mpr c25
                                            have c25b1 : (a0 != 20) = true := bne_iff_ne.mpr c25
                                            by_cases c26 : a0 = 21
                                            · rw [if_pos c26] at H
                                              exact absurd H (by simp)
                                            · rw [if_neg c26] at H
                                              have c26b0 : (a0 == 21) = false := beq_eq_false_iff_ne.mpr c26
                                              have c26b1 : (a0 != 21) = true := bne_iff_ne.mpr c26
                                              by_cases c27 : a0 = 22
                                              · rw [if_pos c27] at H
                                                exact absurd H (by simp)
                                              · rw [if_neg c27] at H
                                                have c27b0 : (a0 == 22) = false := beq_eq_false_iff_ne.mpr c27
                                                have c27b1 : (a0 != 22) = true := bne_iff_ne.mpr c27
                                                by_cases c28 : a0 = 23
                                                · rw [if_pos c28] at H
                                                  exact absurd H (by simp)
                                                · rw [if_neg c28] at H
                                                  have c28b0 : (a0 == 23) = false := beq_eq_false_iff_ne.mpr c28
                                                  have c28b1 : (a0 != 23) = true := bne_iff_ne.mpr c28
                                                  by_cases c29 : a0 = 24
                                                  · rw [if_pos c29] at H
                                                    exact absurd H (by simp)
                                                  · rw [if_neg c29] at H
                                                    have c29b0 : (a0 == 24) = false := beq_eq_false_iff_ne.mpr c29
                                                    have c29b1 : (a0 != 24) = true := bne_iff_ne.mpr c29
                                                    by_cases c30 : a0 = 25
                                                    · rw [if_pos c30] at H
                                                      exact absurd H (by simp)
                                                    · rw [if_neg c30] at H
                                                      have c30b0 : (a0 == 25) = false := beq_eq_false_iff_ne.mpr c30
                                                      have c30b1 : (a0 != 25) = true := bne_iff_ne.mpr c30
                                                      by_cases c31 : a0 = 26
                                                      · rw [if_pos c31] at H
                                                        have c31b0 : (a0 == 26) = true := beq_iff_eq.mpr c31
                                                        have c31b1 : (a0 != 26) = false := bne_eq_false_iff_eq.mpr c31
                                                        clear c31
                                                        replace H := Option.bind_eq_some_iff.mp H
                                                        obtain ⟨t108, A320, H⟩ := H
                                                        replace H : (some t108) = some r := H
                                                        have A32 := Aside0.mk A320
                                                        clear A320
                                                        obtain rfl := Option.some.inj H
                                                        go_enter Tryd.func9, Tryd.ntmps9
                                                        go_wp2_with (first | ((with_reducible refine gate_callee (f := 47) rfl ?_); refine goesL_ (some 115) rfl rfl Tryd.func47 (by kernel_rfl) rfl #[.int .i64 a1] rfl (by (try simp only [List.map_toArray, List.map_cons, List.map_nil]); first | done | rfl | (simp only [List.length_drop, List.length_take]; rfl)) ?_; (with_reducible refine (xansi_PushKittyKeyboard.calls a1 t108 _ ?side1 A32.out).mono ?_); (case side1 => exact XTab.below HT.out (by repeat (first | (with_reducible first | exact HB.out | apply below_alloc | apply pw_below_drewN | apply below_drew1) | exact HB.out))); rintro e w33 ⟨rfl, hb⟩; refine ⟨_, rfl, ?_⟩; have n0_ := Aside0.mk (below_step (by repeat (first | (with_reducible first | exact HB.out | apply below_alloc | apply pw_below_drewN | apply below_drew1) | exact HB.out)) hb); clear HB; have HB := n0_; clear n0_; (try clear hb); (try clear hb2); (try clear hk); (try clear hi)))
                                                        go_ret
                                                        exact ⟨by first | rfl | (simp [errW_none, errW_some] <;> rfl) | (simp [*, errW_none, errW_some] <;> rfl), by repeat (first | (with_reducible first | exact HB.out | apply below_alloc | apply pw_below_drewN | apply below_drew1) | exact HB.out)⟩
                                                      · rw [if_neg c31] at H
                                                        have c31b0 : (a0 == 26) = false := beq_eq_false_iff_ne.mpr c31
                                                        have c31b1 : (a0 != 26) = true := bne_iff_ne.mpr c31
                                                        by_cases c34 : a0 = 27
                                                        · rw [if_pos c34] at H
                                                          have c34b0 : (a0 == 27) = true := beq_iff_eq.mpr c34
                                                          have c34b1 : (a0 != 27) = false := bne_eq_false_iff_eq.mpr c34
                                                          clear c34
                                                          replace H := Option.bind_eq_some_iff.mp H
                                                          obtain ⟨t109, A350, H⟩ := H
                                                          replace H : (some t109) = some r := H
                                                          have A35 := Aside0.mk A350
                                                          clear A350
                                                          obtain rfl := Option.some.inj H
                                                          go_enter Tryd.func9, Tryd.ntmps9
                                                          go_wp2_with (first | ((with_reducible refine gate_callee (f := 48) rfl ?_); refine goesL_ (some 119) rfl rfl Tryd.func48 (by kernel_rfl) rfl #[.int .i64 a1] rfl (by (try simp only [List.map_toArray, List.map_cons, List.map_nil]); first | done | rfl | (simp only [List.length_drop, List.length_take]; rfl)) ?_; (with_reducible refine (xansi_PopKittyKeyboard.calls a1 t109 _ ?side1 A35.out).mono ?_); (case side1 => exact XTab.below HT.out (by repeat (first | (with_reducible first | exact HB.out | apply below_alloc | apply pw_below_drewN | apply below_drew1) | exact HB.out))); rintro e w36 ⟨rfl, hb⟩; refine ⟨_, rfl, ?_⟩; have n0_ := Aside0.mk (below_step (by repeat (first | (with_reducible first | exact HB.out | apply below_alloc | apply pw_below_drewN | apply below_drew1) | exact HB.out)) hb); clear HB; have HB := n0_; clear n0_; (try clear hb); (try clear hb2); (try clear hk); (try clear hi)))
                                                          go_ret
                                                          exact ⟨by first | rfl | (simp [errW_none, errW_some] <;> rfl) | (simp [*, errW_none, errW_some] <;> rfl), by repeat (first | (with_reducible first | exact HB.out | apply below_alloc | apply pw_below_drewN | apply below_drew1) | exact HB.out)⟩
                                                        · rw [if_neg c34] at H
                                                          have c34b0 : (a0 == 27) = false := beq_eq_false_iff_ne.mpr c34
                                                          have c34b1 : (a0 != 27) = true := bne_iff_ne.mpr c34
                                                          by_cases c37 : a0 = 28
                                                          · rw [if_pos c37] at H
                                                            exact absurd H (by simp)
                                                          · rw [if_neg c37] at H
                                                            have c37b0 : (a0 == 28) = false := beq_eq_false_iff_ne.mpr c37
                                                            have c37b1 : (a0 != 28) = true := bne_iff_ne.mpr c37
                                                            by_cases c38 : a0 = 29
                                                            · rw [if_pos c38] at H
                                                              exact absurd H (by simp)
                                                            · rw [if_neg c38] at H
                                                              have c38b0 : (a0 == 29) = false := beq_eq_false_iff_ne.mpr c38
                                                              have c38b1 : (a0 != 29) = true := bne_iff_ne.mpr c38
                                                              by_cases c39 : a0 = 30
                                                              · rw [if_pos c39] at H
                                                                exact absurd H (by simp)
                                                              · rw [if_neg c39] at H
                                                                have c39b0 : (a0 == 30) = false := beq_eq_false_iff_ne.mpr c39
                                                                have c39b1 : (a0 != 30) = true := bne_iff_ne.mpr c39
                                                                by_cases c40 : a0 = 31
                                                                · rw [if_pos c40] at H
                                                                  have c40b0 : (a0 == 31) = true := beq_iff_eq.mpr c40
                                                                  have c40b1 : (a0 != 31) = false := bne_eq_false_iff_eq.mpr c40
                                                                  clear c40
                                                                  replace H := Option.bind_eq_some_iff.mp H
                                                                  obtain ⟨t110, A410, H⟩ := H
                                                                  replace H : (some t110) = some r := H
                                                                  have A41 := Aside0.mk A410
                                                                  clear A410
                                                                  obtain rfl := Option.some.inj H
                                                                  go_enter Tryd.func9, Tryd.ntmps9
                                                                  go_wp2_with (first | ((with_reducible refine gate_callee (f := 52) rfl ?_); refine goesL_ (some 135) rfl rfl Tryd.func52 (by kernel_rfl) rfl #[.int .i64 a1] rfl (by (try simp only [List.map_toArray, List.map_cons, List.map_nil]); first | done | rfl | (simp only [List.length_drop, List.length_take]; rfl)) ?_; (with_reducible refine (xansi_SetProgressBar.calls a1 t110 _ ?side1 A41.out).mono ?_); (case side1 => exact XTab.below HT.out (by repeat (first | (with_reducible first | exact HB.out | apply below_alloc | apply pw_below_drewN | apply below_drew1) | exact HB.out))); rintro e w42 ⟨rfl, hb⟩; refine ⟨_, rfl, ?_⟩; have n0_ := Aside0.mk (below_step (by repeat (first | (with_reducible first | exact HB.out | apply below_alloc | apply pw_below_drewN | apply below_drew1) | exact HB.out)) hb); clear HB; have HB := n0_; clear n0_; (try clear hb); (try clear hb2); (try clear hk); (try clear hi)))
                                                                  go_ret
                                                                  exact ⟨by first | rfl | (simp [errW_none, errW_some] <;> rfl) | (simp [*, errW_none, errW_some] <;> rfl), by repeat (first | (with_reducible first | exact HB.out | apply below_alloc | apply pw_below_drewN | apply below_drew1) | exact HB.out)⟩
                                                                · rw [if_neg c40] at H
                                                                  have c40b0 : (a0 == 31) = false := beq_eq_false_iff_ne.mpr c40
                                                                  have c40b1 : (a0 != 31) = true := bne_iff_ne.mpr c40
                                                                  by_cases c43 : a0 = 32
                                                                  · rw [if_pos c43] at H
                                                                    have c43b0 : (a0 == 32) = true := beq_iff_eq.mpr c43
                                                                    have c43b1 : (a0 != 32) = false := bne_eq_false_iff_eq.mpr c43
                                                                    clear c43
                                                                    replace H := Option.bind_eq_some_iff.mp H
                                                                    obtain ⟨t111, A440, H⟩ := H
                                                                    replace H : (some t111) = some r := H
                                                                    have A44 := Aside0.mk A440
                                                                    clear A440
                                                                    obtain rfl := Option.some.inj H
                                                                    go_enter Tryd.func9, Tryd.ntmps9
                                                                    go_wp2_with (first | ((with_reducible refine gate_callee (f := 53) rfl ?_); refine goesL_ (some 139) rfl rfl Tryd.func53 (by kernel_rfl) rfl #[.int .i64 a1] rfl (by (try simp only [List.map_toArray, List.map_cons, List.map_nil]); first | done | rfl | (simp only [List.length_drop, List.length_take]; rfl)) ?_; (with_reducible refine (xansi_SetErrorProgressBar.calls a1 t111 _ ?side1 A44.out).mono ?_); (case side1 => exact XTab.below HT.out (by repeat (first | (with_reducible first | exact HB.out | apply below_alloc | apply pw_below_drewN | apply below_drew1) | exact HB.out))); rintro e w45 ⟨rfl, hb⟩; refine ⟨_, rfl, ?_⟩; have n0_ := Aside0.mk (below_step (by repeat (first | (with_reducible first | exact HB.out | apply below_alloc | apply pw_below_drewN | apply below_drew1) | exact HB.out)) hb); clear HB; have HB := n0_; clear n0_; (try clear hb); (try clear hb2); (try clear hk); (try clear hi)))
                                                                    go_ret
                                                                    exact ⟨by first | rfl | (simp [errW_none, errW_some] <;> rfl) | (simp [*, errW_none, errW_some] <;> rfl), by repeat (first | (with_reducible first | exact HB.out | apply below_alloc | apply pw_below_drewN | apply below_drew1) | exact HB.out)⟩
                                                                  · rw [if_neg c43] at H
                                                                    have c43b0 : (a0 == 32) = false := beq_eq_false_iff_ne.mpr c43
                                                                    have c43b1 : (a0 != 32) = true := bne_iff_ne.mpr c43
                                                                    by_cases c46 : a0 = 33
                                                                    · rw [if_pos c46] at H
                                                                      have c46b0 : (a0 == 33) = true := beq_iff_eq.mpr c46
                                                                      have c46b1 : (a0 != 33) = false := bne_eq_false_iff_eq.mpr c46
                                                                      clear c46
                                                                      replace H := Option.bind_eq_some_iff.mp H
                                                                      obtain ⟨t112, A470, H⟩ := H
                                                                      replace H : (some t112) = some r := H
                                                                      have A47 := Aside0.mk A470
                                                                      clear A470
                                                                      obtain rfl := Option.some.inj H
                                                                      go_enter Tryd.func9, Tryd.ntmps9
                                                                      go_wp2_with (first | ((with_reducible refine gate_callee (f := 54) rfl ?_); refine goesL_ (some 143) rfl rfl Tryd.func54 (by kernel_rfl) rfl #[.int .i64 a1] rfl (by (try simp only [List.map_toArray, List.map_cons, List.map_nil]); first | done | rfl | (simp only [List.length_drop, List.length_take]; rfl)) ?_; (with_reducible refine (xansi_SetWarningProgressBar.calls a1 t112 _ ?side1 A47.out).mono ?_); (case side1 => exact XTab.below HT.out (by repeat (first | (with_reducible first | exact HB.out | apply below_alloc | apply pw_below_drewN | apply below_drew1) | exact HB.out))); rintro e w48 ⟨rfl, hb⟩; refine ⟨_, rfl, ?_⟩; have n0_ := Aside0.mk (below_step (by repeat (first | (with_reducible first | exact HB.out | apply below_alloc | apply pw_below_drewN | apply below_drew1) | exact HB.out)) hb); clear HB; have HB := n0_; clear n0_; (try clear hb); (try clear hb2); (try clear hk); (try clear hi)))
                                                                      go_ret
                                                                      exact ⟨by first | rfl | (simp [errW_none, errW_some] <;> rfl) | (simp [*, errW_none, errW_some] <;> rfl), by repeat (first | (with_reducible first | exact HB.out | apply below_alloc | apply pw_below_drewN | apply below_drew1) | exact HB.out)⟩
                                                                    · rw [if_neg c46] at H
                                                                      have c46b0 : (a0 == 33) = false := beq_eq_false_iff_ne.mpr c46
                                                                      have c46b1 : (a0 != 33) = true := bne_iff_ne.mpr c46
                                                                      obtain rfl := Option.some.inj H
                                                                      go_enter Tryd.func9, Tryd.ntmps9
                                                                      go_wp2
                                                                      go_ret
                                                                      exact ⟨by first | rfl | (simp [errW_none, errW_some] <;> rfl) | (simp [*, errW_none, errW_some] <;> rfl), by repeat (first | (with_reducible first | exact HB.out | apply below_alloc | apply pw_below_drewN | apply below_drew1) | exact HB.out)⟩

-- impl_Feed: function 13: a contract by hand (XFeed)

/-! ### laws_drawAwake: function 8 -/
def laws_drawAwake.f  : Option (Bool) := (impl_MakeNumber.f 0 3).bind fun t113 => ((gosem_conv.f t113).bind fun t114 => ((impl_Feed.f 32 4096 t114).bind fun t117 => (if (t117.length : Int) = 1 then (if 0 < (t117.length : Int) then (if ((rd_T36 t117 0).f0) = 2 then (some (((rd_T36 t117 0).f3) == 65)) else (some false)) else (none)) else (some false))))
set_option maxHeartbeats 8000000 in
set_option maxRecDepth 100000 in
theorem laws_drawAwake.calls  (r : Bool) (w : World) (hT : XTab w) (h : laws_drawAwake.f  = some r) :
    Calls Tryd.prog 8 #[] w fun e w' => e = .returned (.bool r) ∧ Below w.heap.size w w' := by
  have HT := Aside0.mk hT
  clear hT
  have HB := Aside0.mk (Below.refl w.heap.size w)
  have H : ((impl_MakeNumber.f 0 3).bind fun t113 => ((gosem_conv.f t113).bind fun t114 => ((impl_Feed.f 32 4096 t114).bind fun t117 => (if (t117.length : Int) = 1 then (if 0 < (t117.length : Int) then (if ((rd_T36 t117 0).f0) = 2 then (some (((rd_T36 t117 0).f3) == 65)) else (some false)) else (none)) else (some false))))) = some r := h
  clear h
  replace H := Option.bind_eq_some_iff.mp H
  obtain ⟨t113, A10, H⟩ := H
  replace H : ((gosem_conv.f t113).bind fun t114 => ((impl_Feed.f 32 4096 t114).bind fun t117 => (if (t117.length : Int) = 1 then (if 0 < (t117.length : Int) then (if ((rd_T36 t117 0).f0) = 2 then (some (((rd_T36 t117 0).f3) == 65)) else (some false)) else (none)) else (some false)))) = some r := H
  have A1 := Aside0.mk A10
  clear A10
  replace H := Option.bind_eq_some_iff.mp H
  obtain ⟨t114, A20, H⟩ := H
  replace H : ((impl_Feed.f 32 4096 t114).bind fun t117 => (if (t117.length : Int) = 1 then (if 0 < (t117.length : Int) then (if ((rd_T36 t117 0).f0) = 2 then (some (((rd_T36 t117 0).f3) == 65)) else (some false)) else (none)) else (some false))) = some r := H
  have A2 := Aside0.mk A20
  clear A20
  replace H := Option.bind_eq_some_iff.mp H
  obtain ⟨t117, A30, H⟩ := H
  replace H : (if (t117.length : Int) = 1 then (if 0 < (t117.length : Int) then (if ((rd_T36 t117 0).f0) = 2 then (some (((rd_T36 t117 0).f3) == 65)) else (some false)) else (none)) else (some false)) = some r := H
  have A3 := Aside0.mk A30
  clear A30
  by_cases c4 : (t117.length : Int) = 1
  · rw [if_pos c4] at H
    have c4b0 : ((t117.length : Int) == 1) = true := beq_iff_eq.mpr c4
    have c4b1 : ((t117.length : Int) != 1) = false := bne_eq_false_iff_eq.mpr c4
    clear c4
    by_cases c5 : 0 < (t117.length : Int)
    · rw [if_pos c5] at H
      have c5b0 : decide (0 < (t117.length : Int)) = true := decide_eq_true c5
      have c5b1 : decide (0 < t117.length) = true := decide_eq_true (by omega)
      clear c5
      by_cases c6 : ((rd_T36 t117 0).f0) = 2
      · rw [if_pos c6] at H
        have c6b0 : (((rd_T36 t117 0).f0) == 2) = true := beq_iff_eq.mpr c6
        have c6b1 : (((rd_T36 t117 0).f0) != 2) = false := bne_eq_false_iff_eq.mpr c6
        clear c6
        obtain rfl := Option.some.inj H
        go_enter Tryd.func8, Tryd.ntmps8
        go_wp2_with (first | ((with_reducible refine gate_callee (f := 9) rfl ?_); refine goesL_ (some 2) rfl rfl Tryd.func9 (by kernel_rfl) rfl #[.int .i64 0, .int .i64 3] rfl (by (try simp only [List.map_toArray, List.map_cons, List.map_nil]); first | done | rfl | (simp only [List.length_drop, List.length_take]; rfl)) ?_; (with_reducible refine (impl_MakeNumber.calls 0 3 t113 _ ?side1 A1.out).mono ?_); (case side1 => exact XTab.below HT.out (by repeat (first | (with_reducible first | exact HB.out | apply below_alloc | apply pw_below_drewN | apply below_drew1) | exact HB.out))); rintro e w7 ⟨rfl, hb⟩; refine ⟨_, rfl, ?_⟩; have n0_ := Aside0.mk (below_step (by repeat (first | (with_reducible first | exact HB.out | apply below_alloc | apply pw_below_drewN | apply below_drew1) | exact HB.out)) hb); clear HB; have HB := n0_; clear n0_; (try clear hb); (try clear hb2); (try clear hk); (try clear hi)) | ((with_reducible refine gate_dst (N := 3) rfl ?_); refine conv_ev 9 32 5 rfl rfl Tryd.underlying9 Tryd.underlying32 Tryd.underlying5 t113 rfl A2.out ?_; rintro e w8 ⟨v115, rfl, ho0, hb⟩; refine ⟨_, rfl, ?_⟩; have n0_ := Aside0.mk (Kd.V_lower (Kd.V_mono (ok' := fun k_ => True) ho0 (fun k_ hk_ => trivial)) (below_size (by repeat (first | (with_reducible first | exact HB.out | apply below_alloc | apply pw_below_drewN | apply below_drew1) | exact HB.out)))); have n1_ := Aside0.mk (below_step (by repeat (first | (with_reducible first | exact HB.out | apply below_alloc | apply pw_below_drewN | apply below_drew1) | exact HB.out)) hb); clear HB; have HO116 := n0_; have HB := n1_; clear n0_ n1_; (try clear hb); (try clear hb2); (try clear hk); (try clear hi); (try clear ho0); obtain ⟨Ao9, co9, eo9⟩ := Kd.V_slice HO116.out; subst eo9) | ((with_reducible refine gate_callee (f := 13) rfl ?_); refine goesL_ (some 4) rfl rfl Tryd.func13 (by kernel_rfl) rfl #[.int .i64 32, .int .i64 4096, .slice Ao9 t114.length co9] rfl (by (try simp only [List.map_toArray, List.map_cons, List.map_nil]); first | done | rfl | (simp only [List.length_drop, List.length_take]; rfl)) ?_; (with_reducible refine (impl_Feed.calls 32 4096 _ _ t114 t117 _ ?side1 ?side2 A3.out).mono ?_); (case side1 => repeat (first | exact (Kd.V_reads' HO116.out).2.2 | (with_reducible refine Kd.C_alloc ?_ _) | (with_reducible refine Kd.C_drewN ?_ _) | (with_reducible refine Kd.C_drew ?_))); (case side2 => exact (Kd.V_reads' HO116.out).2.1); rintro e w10 ⟨v118, rfl, ho0, hb⟩; refine ⟨_, rfl, ?_⟩; have n0_ := Aside0.mk (Kd.V_elder' (by (with_reducible repeat (first | apply Kd.V_alloc | apply Kd.V_drewN | apply Kd.V_drew)); exact HO116.out) (Kd.S_base ho0) hb); have n1_ := Aside0.mk (Kd.S_lower ho0 (below_size (by repeat (first | (with_reducible first | exact HB.out | apply below_alloc | apply pw_below_drewN | apply below_drew1) | exact HB.out)))); have n2_ := Aside0.mk (below_step (by repeat (first | (with_reducible first | exact HB.out | apply below_alloc | apply pw_below_drewN | apply below_drew1) | exact HB.out)) hb); clear HO116; clear HB; have HO116 := n0_; have HO119 := n1_; have HB := n2_; clear n0_ n1_ n2_; (try clear hb); (try clear hb2); (try clear hk); (try clear hi); (try clear ho0); obtain ⟨Ao11, co11, eo11⟩ := Kd.S_slice HO119.out; subst eo11; have p120 : 0 ≤ (0 : Int) := (by omega); have q120 : 0 < (t117.length : Int) := of_decide_eq_true (by first | (with_reducible assumption) | assumption); obtain ⟨ad120, A120_4, c120_4, A120_5, c120_5, e120, hx120_0, hx120_1, hx120_2, hx120_3, hx120_4, hx120_5, hl120_4, hi120_4, hl120_5, hi120_5⟩ := at_T36 (Kd.S_reads' HO119.out).2.2 0 p120 q120; cases e120; obtain ⟨ce120, hce120, hMe120, hcc120⟩ := Kd.S_get HO119.out z36 0 p120 (by first | exact q120 | exact of_decide_eq_true (by first | (with_reducible assumption) | assumption) | (have e_ := (Kd.S_reads' HO119.out).1; omega)); obtain ⟨ve120_4, ve120_5, rfl, ge120_4, ge120_5⟩ := k36_openM hMe120; have hv120_4 := hcc120 4 _ rfl; rw [add_field _ _ 4 (by omega)] at hv120_4; replace hv120_4 := Option.some.inj (hv120_4.symm.trans hx120_4); rw [hv120_4] at ge120_4; have HL120_4 := Aside0.mk (show Kd.R (Kd.int .i64) 2 _ _ _ _ ((rd_T36 t117 0).f4) from ge120_4); clear hv120_4 ge120_4; have hv120_5 := hcc120 5 _ rfl; rw [add_field _ _ 5 (by omega)] at hv120_5; replace hv120_5 := Option.some.inj (hv120_5.symm.trans hx120_5); rw [hv120_5] at ge120_5; have HL120_5 := Aside0.mk (show Kd.R (Kd.int .u8) 5 _ _ _ _ ((rd_T36 t117 0).f5) from ge120_5); clear hv120_5 ge120_5; clear hcc120 hce120; have qi120 : (0 < t117.length) = True := eq_true (by omega); (try rw [show ((0 : Int)).toNat = 0 from rfl] at hx120_0); (try rw [show 0 * 6 = 0 from rfl] at hx120_0); (try rw [Addr.add_zero'] at hx120_0); (try rw [show ((0 : Int)).toNat = 0 from rfl] at hx120_1); (try rw [show 0 * 6 = 0 from rfl] at hx120_1); (try rw [Addr.add_zero'] at hx120_1); (try rw [show ((0 : Int)).toNat = 0 from rfl] at hx120_2); (try rw [show 0 * 6 = 0 from rfl] at hx120_2); (try rw [Addr.add_zero'] at hx120_2); (try rw [show ((0 : Int)).toNat = 0 from rfl] at hx120_3); (try rw [show 0 * 6 = 0 from rfl] at hx120_3); (try rw [Addr.add_zero'] at hx120_3); (try rw [show ((0 : Int)).toNat = 0 from rfl] at hx120_4); (try rw [show 0 * 6 = 0 from rfl] at hx120_4); (try rw [Addr.add_zero'] at hx120_4); (try rw [show ((0 : Int)).toNat = 0 from rfl] at hx120_5); (try rw [show 0 * 6 = 0 from rfl] at hx120_5); (try rw [Addr.add_zero'] at hx120_5); have HR120_4 := Aside0.mk hi120_4; have HC120_4 := Aside0.mk hl120_4; clear hi120_4 hl120_4; have HR120_5 := Aside0.mk hi120_5; have HC120_5 := Aside0.mk hl120_5; clear hi120_5 hl120_5; replace p120 := eq_true p120; replace q120 := eq_true q120; have p121 : 0 ≤ (0 : Int) := (by omega); have q121 : 0 < (t117.length : Int) := of_decide_eq_true (by first | (with_reducible assumption) | assumption); obtain ⟨ad121, A121_4, c121_4, A121_5, c121_5, e121, hx121_0, hx121_1, hx121_2, hx121_3, hx121_4, hx121_5, hl121_4, hi121_4, hl121_5, hi121_5⟩ := at_T36 (Kd.S_reads' HO119.out).2.2 0 p121 q121; obtain rfl : ad120 = ad121 := (by injection e121); obtain ⟨ce121, hce121, hMe121, hcc121⟩ := Kd.S_get HO119.out z36 0 p121 (by first | exact q121 | exact of_decide_eq_true (by first | (with_reducible assumption) | assumption) | (have e_ := (Kd.S_reads' HO119.out).1; omega)); obtain ⟨ve121_4, ve121_5, rfl, ge121_4, ge121_5⟩ := k36_openM hMe121; have hv121_4 := hcc121 4 _ rfl; rw [add_field _ _ 4 (by omega)] at hv121_4; replace hv121_4 := Option.some.inj (hv121_4.symm.trans hx121_4); rw [hv121_4] at ge121_4; have HL121_4 := Aside0.mk (show Kd.R (Kd.int .i64) 2 _ _ _ _ ((rd_T36 t117 0).f4) from ge121_4); clear hv121_4 ge121_4; have hv121_5 := hcc121 5 _ rfl; rw [add_field _ _ 5 (by omega)] at hv121_5; replace hv121_5 := Option.some.inj (hv121_5.symm.trans hx121_5); rw [hv121_5] at ge121_5; have HL121_5 := Aside0.mk (show Kd.R (Kd.int .u8) 5 _ _ _ _ ((rd_T36 t117 0).f5) from ge121_5); clear hv121_5 ge121_5; clear hcc121 hce121; have qi121 : (0 < t117.length) = True := eq_true (by omega); (try rw [show ((0 : Int)).toNat = 0 from rfl] at hx121_0); (try rw [show 0 * 6 = 0 from rfl] at hx121_0); (try rw [Addr.add_zero'] at hx121_0); (try rw [show ((0 : Int)).toNat = 0 from rfl] at hx121_1); (try rw [show 0 * 6 = 0 from rfl] at hx121_1); (try rw [Addr.add_zero'] at hx121_1); (try rw [show ((0 : Int)).toNat = 0 from rfl] at hx121_2); (try rw [show 0 * 6 = 0 from rfl] at hx121_2); (try rw [Addr.add_zero'] at hx121_2); (try rw [show ((0 : Int)).toNat = 0 from rfl] at hx121_3); (try rw [show 0 * 6 = 0 from rfl] at hx121_3); (try rw [Addr.add_zero'] at hx121_3); (try rw [show ((0 : Int)).toNat = 0 from rfl] at hx121_4); (try rw [show 0 * 6 = 0 from rfl] at hx121_4); (try rw [Addr.add_zero'] at hx121_4); (try rw [show ((0 : Int)).toNat = 0 from rfl] at hx121_5); (try rw [show 0 * 6 = 0 from rfl] at hx121_5); (try rw [Addr.add_zero'] at hx121_5); have HR121_4 := Aside0.mk hi121_4; have HC121_4 := Aside0.mk hl121_4; clear hi121_4 hl121_4; have HR121_5 := Aside0.mk hi121_5; have HC121_5 := Aside0.mk hl121_5; clear hi121_5 hl121_5; replace p121 := eq_true p121; replace q121 := eq_true q121; have ea_ := Option.some.inj (hx120_4.symm.trans hx121_4); injection ea_ with ea_ en_ ec_; subst ea_; subst ec_; clear en_; have ea_ := Option.some.inj (hx120_5.symm.trans hx121_5); injection ea_ with ea_ en_ ec_; subst ea_; subst ec_; clear en_))
        go_ret
        exact ⟨by first | rfl | (simp [errW_none, errW_some] <;> rfl) | (simp [*, errW_none, errW_some] <;> rfl), by repeat (first | (with_reducible first | exact HB.out | apply below_alloc | apply pw_below_drewN | apply below_drew1) | exact HB.out)⟩
      · rw [if_neg c6] at H
        have c6b0 : (((rd_T36 t117 0).f0) == 2) = false := beq_eq_false_iff_ne.mpr c6
        have c6b1 : (((rd_T36 t117 0).f0) != 2) = true := bne_iff_ne.mpr c6
        obtain rfl := Option.some.inj H
        go_enter Tryd.func8, Tryd.ntmps8
        go_wp2_with (first | ((with_reducible refine gate_callee (f := 9) rfl ?_); refine goesL_ (some 2) rfl rfl Tryd.func9 (by kernel_rfl) rfl #[.int .i64 0, .int .i64 3] rfl (by (try simp only [List.map_toArray, List.map_cons, List.map_nil]); first | done | rfl | (simp only [List.length_drop, List.length_take]; rfl)) ?_; (with_reducible refine (impl_MakeNumber.calls 0 3 t113 _ ?side1 A1.out).mono ?_); (case side1 => exact XTab.below HT.out (by repeat (first | (with_reducible first | exact HB.out | apply below_alloc | apply pw_below_drewN | apply below_drew1) | exact HB.out))); rintro e w12 ⟨rfl, hb⟩; refine ⟨_, rfl, ?_⟩; have n0_ := Aside0.mk (below_step (by repeat (first | (with_reducible first | exact HB.out | apply below_alloc | apply pw_below_drewN | apply below_drew1) | exact HB.out)) hb); clear HB; have HB := n0_; clear n0_; (try clear hb); (try clear hb2); (try clear hk); (try clear hi)) | ((with_reducible refine gate_dst (N := 3) rfl ?_); refine conv_ev 9 32 5 rfl rfl Tryd.underlying9 Tryd.underlying32 Tryd.underlying5 t113 rfl A2.out ?_; rintro e w13 ⟨v115, rfl, ho0, hb⟩; refine ⟨_, rfl, ?_⟩; have n0_ := Aside0.mk (Kd.V_lower (Kd.V_mono (ok' := fun k_ => True) ho0 (fun k_ hk_ => trivial)) (below_size (by repeat (first | (with_reducible first | exact HB.out | apply below_alloc | apply pw_below_drewN | apply below_drew1) | exact HB.out)))); have n1_ := Aside0.mk (below_step (by repeat (first | (with_reducible first | exact HB.out | apply below_alloc | apply pw_below_drewN | apply below_drew1) | exact HB.out)) hb); clear HB; have HO116 := n0_; have HB := n1_; clear n0_ n1_; (try clear hb); (try clear hb2); (try clear hk); (try clear hi); (try clear ho0); obtain ⟨Ao14, co14, eo14⟩ := Kd.V_slice HO116.out; subst eo14) | ((with_reducible refine gate_callee (f := 13) rfl ?_); refine goesL_ (some 4) rfl rfl Tryd.func13 (by kernel_rfl) rfl #[.int .i64 32, .int .i64 4096, .slice Ao14 t114.length co14] rfl (by (try simp only [List.map_toArray, List.map_cons, List.map_nil]); first | done | rfl | (simp only [List.length_drop, List.length_take]; rfl)) ?_; (with_reducible refine (impl_Feed.calls 32 4096 _ _ t114 t117 _ ?side1 ?side2 A3.out).mono ?_); (case side1 => repeat (first | exact (Kd.V_reads' HO116.out).2.2 | (with_reducible refine Kd.C_alloc ?_ _) | (with_reducible refine Kd.C_drewN ?_ _) | (with_reducible refine Kd.C_drew ?_))); (case side2 => exact (Kd.V_reads' HO116.out).2.1); rintro e w15 ⟨v118, rfl, ho0, hb⟩; refine ⟨_, rfl, ?_⟩; have n0_ := Aside0.mk (Kd.V_elder' (by (with_reducible repeat (first | apply Kd.V_alloc | apply Kd.V_drewN | apply Kd.V_drew)); exact HO116.out) (Kd.S_base ho0) hb); have n1_ := Aside0.mk (Kd.S_lower ho0 (below_size (by repeat (first | (with_reducible first | exact HB.out | apply below_alloc | apply pw_below_drewN | apply below_drew1) | exact HB.out)))); have n2_ := Aside0.mk (below_step (by repeat (first | (with_reducible first | exact HB.out | apply below_alloc | apply pw_below_drewN | apply below_drew1) | exact HB.out)) hb); clear HO116; clear HB; have HO116 := n0_; have HO119 := n1_; have HB := n2_; clear n0_ n1_ n2_; (try clear hb); (try clear hb2); (try clear hk); (try clear hi); (try clear ho0); obtain ⟨Ao16, co16, eo16⟩ := Kd.S_slice HO119.out; subst eo16; have p120 : 0 ≤ (0 : Int) := (by omega); have q120 : 0 < (t117.length : Int) := of_decide_eq_true (by first | (with_reducible assumption) | assumption); obtain ⟨ad120, A120_4, c120_4, A120_5, c120_5, e120, hx120_0, hx120_1, hx120_2, hx120_3, hx120_4, hx120_5, hl120_4, hi120_4, hl120_5, hi120_5⟩ := at_T36 (Kd.S_reads' HO119.out).2.2 0 p120 q120; cases e120; obtain ⟨ce120, hce120, hMe120, hcc120⟩ := Kd.S_get HO119.out z36 0 p120 (by first | exact q120 | exact of_decide_eq_true (by first | (with_reducible assumption) | assumption) | (have e_ := (Kd.S_reads' HO119.out).1; omega)); obtain ⟨ve120_4, ve120_5, rfl, ge120_4, ge120_5⟩ := k36_openM hMe120; have hv120_4 := hcc120 4 _ rfl; rw [add_field _ _ 4 (by omega)] at hv120_4; replace hv120_4 := Option.some.inj (hv120_4.symm.trans hx120_4); rw [hv120_4] at ge120_4; have HL120_4 := Aside0.mk (show Kd.R (Kd.int .i64) 2 _ _ _ _ ((rd_T36 t117 0).f4) from ge120_4); clear hv120_4 ge120_4; have hv120_5 := hcc120 5 _ rfl; rw [add_field _ _ 5 (by omega)] at hv120_5; replace hv120_5 := Option.some.inj (hv120_5.symm.trans hx120_5); rw [hv120_5] at ge120_5; have HL120_5 := Aside0.mk (show Kd.R (Kd.int .u8) 5 _ _ _ _ ((rd_T36 t117 0).f5) from ge120_5); clear hv120_5 ge120_5; clear hcc120 hce120; have qi120 : (0 < t117.length) = True := eq_true (by omega); (try rw [show ((0 : Int)).toNat = 0 from rfl] at hx120_0); (try rw [show 0 * 6 = 0 from rfl] at hx120_0); (try rw [Addr.add_zero'] at hx120_0); (try rw [show ((0 : Int)).toNat = 0 from rfl] at hx120_1); (try rw [show 0 * 6 = 0 from rfl] at hx120_1); (try rw [Addr.add_zero'] at hx120_1); (try rw [show ((0 : Int)).toNat = 0 from rfl] at hx120_2); (try rw [show 0 * 6 = 0 from rfl] at hx120_2); (try rw [Addr.add_zero'] at hx120_2); (try rw [show ((0 : Int)).toNat = 0 from rfl] at hx120_3); (try rw [show 0 * 6 = 0 from rfl] at hx120_3); (try rw [Addr.add_zero'] at hx120_3); (try rw [show ((0 : Int)).toNat = 0 from rfl] at hx120_4); (try rw [show 0 * 6 = 0 from rfl] at hx120_4); (try rw [Addr.add_zero'] at hx120_4); (try rw [show ((0 : Int)).toNat = 0 from rfl] at hx120_5); (try rw [show 0 * 6 = 0 from rfl] at hx120_5); (try rw [Addr.add_zero'] at hx120_5); have HR120_4 := Aside0.mk hi120_4; have HC120_4 := Aside0.mk hl120_4; clear hi120_4 hl120_4; have HR120_5 := Aside0.mk hi120_5; have HC120_5 := Aside0.mk hl120_5; clear hi120_5 hl120_5; replace p120 := eq_true p120; replace q120 := eq_true q120))
        go_ret
        exact ⟨by first | rfl | (simp [errW_none, errW_some] <;> rfl) | (simp [*, errW_none, errW_some] <;> rfl), by repeat (first | (with_reducible first | exact HB.out | apply below_alloc | apply pw_below_drewN | apply below_drew1) | exact HB.out)⟩
    · rw [if_neg c5] at H
      exact absurd H (by simp)
  · rw [if_neg c4] at H
    have c4b0 : ((t117.length : Int) == 1) = false := beq_eq_false_iff_ne.mpr c4
    have c4b1 : ((t117.length : Int) != 1) = true := bne_iff_ne.mpr c4
    obtain rfl := Option.some.inj H
    go_enter Tryd.func8, Tryd.ntmps8
    go_wp2_with (first | ((with_reducible refine gate_callee (f := 9) rfl ?_); refine goesL_ (some 2) rfl rfl Tryd.func9 (by kernel_rfl) rfl #[.int .i64 0, .int .i64 3] rfl (by (try simp only [List.map_toArray, List.map_cons, List.map_nil]); first | done | rfl | (simp only [List.length_drop, List.length_take]; rfl)) ?_; (with_reducible refine (impl_MakeNumber.calls 0 3 t113 _ ?side1 A1.out).mono ?_); (case side1 => exact XTab.below HT.out (by repeat (first | (with_reducible first | exact HB.out | apply below_alloc | apply pw_below_drewN | apply below_drew1) | exact HB.out))); rintro e w17 ⟨rfl, hb⟩; refine ⟨_, rfl, ?_⟩; have n0_ := Aside0.mk (below_step (by repeat (first | (with_reducible first | exact HB.out | apply below_alloc | apply pw_below_drewN | apply below_drew1) | exact HB.out)) hb); clear HB; have HB := n0_; clear n0_; (try clear hb); (try clear hb2); (try clear hk); (try clear hi)) | ((with_reducible refine gate_dst (N := 3) rfl ?_); refine conv_ev 9 32 5 rfl rfl Tryd.underlying9 Tryd.underlying32 Tryd.underlying5 t113 rfl A2.out ?_; rintro e w18 ⟨v115, rfl, ho0, hb⟩; refine ⟨_, rfl, ?_⟩; have n0_ := Aside0.mk (Kd.V_lower (Kd.V_mono (ok' := fun k_ => True) ho0 (fun k_ hk_ => trivial)) (below_size (by repeat (first | (with_reducible first | exact HB.out | apply below_alloc | apply pw_below_drewN | apply below_drew1) | exact HB.out)))); have n1_ := Aside0.mk (below_step (by repeat (first | (with_reducible first | exact HB.out | apply below_alloc | apply pw_below_drewN | apply below_drew1) | exact HB.out)) hb); clear HB; have HO116 := n0_; have HB := n1_; clear n0_ n1_; (try clear hb); (try clear hb2); (try clear hk); (try clear hi); (try clear ho0); obtain ⟨Ao19, co19, eo19⟩ := Kd.V_slice HO116.out; subst eo19) | ((with_reducible refine gate_callee (f := 13) rfl ?_); refine goesL_ (some 4) rfl rfl Tryd.func13 (by kernel_rfl) rfl #[.int .i64 32, .int .i64 4096, .slice Ao19 t114.length co19] rfl (by (try simp only [List.map_toArray, List.map_cons, List.map_nil]); first | done | rfl | (simp only [List.length_drop, List.length_take]; rfl)) ?_; (with_reducible refine (impl_Feed.calls 32 4096 _ _ t114 t117 _ ?side1 ?side2 A3.out).mono ?_); (case side1 => repeat (first | exact (Kd.V_reads' HO116.out).2.2 | (with_reducible refine Kd.C_alloc ?_ _) | (with_reducible refine Kd.C_drewN ?_ _) | (with_reducible refine Kd.C_drew ?_))); (case side2 => exact (Kd.V_reads' HO116.out).2.1); rintro e w20 ⟨v118, rfl, ho0, hb⟩; refine ⟨_, rfl, ?_⟩; have n0_ := Aside0.mk (Kd.V_elder' (by (with_reducible repeat (first | apply Kd.V_alloc | apply Kd.V_drewN | apply Kd.V_drew)); exact HO116.out) (Kd.S_base ho0) hb); have n1_ := Aside0.mk (Kd.S_lower ho0 (below_size (by repeat (first | (with_reducible first | exact HB.out | apply below_alloc | apply pw_below_drewN | apply below_drew1) | exact HB.out)))); have n2_ := Aside0.mk (below_step (by repeat (first | (with_reducible first | exact HB.out | apply below_alloc | apply pw_below_drewN | apply below_drew1) | exact HB.out)) hb); clear HO116; clear HB; have HO116 := n0_; have HO119 := n1_; have HB := n2_; clear n0_ n1_ n2_; (try clear hb); (try clear hb2); (try clear hk); (try clear hi); (try clear ho0); obtain ⟨Ao21, co21, eo21⟩ := Kd.S_slice HO119.out; subst eo21))
    go_ret
    exact ⟨by first | rfl | (simp [errW_none, errW_some] <;> rfl) | (simp [*, errW_none, errW_some] <;> rfl), by repeat (first | (with_reducible first | exact HB.out | apply below_alloc | apply pw_below_drewN | apply below_drew1) | exact HB.out)⟩

/-! ### spec_Digits: function 10 -/
def spec_Digits.f : Nat → Int → Option (ByteArray)
  | 0, _ => none
  | k + 1, a0 => if a0 < 0 then (if a0 = (-9223372036854775808) then (some (⟨#[45, 57, 50, 50, 51, 51, 55, 50, 48, 51, 54, 56, 53, 52, 55, 55, 53, 56, 48, 56]⟩ : ByteArray)) else ((spec_Digits.f k (wrap64 (-a0))).bind fun t122 => (if 1 + t122.size ≤ 9223372036854775807 then (some ((⟨#[45]⟩ : ByteArray) ++ t122)) else (none)))) else (if a0 < 10 then (some (strOfNums (([(wrap64 (48 + a0)) % 256] : List Int)))) else ((spec_Digits.f k (wrap64 (Int.tdiv a0 10))).bind fun t126 => ((spec_Digits.f k (Int.tmod a0 10)).bind fun t127 => (if t126.size + t127.size ≤ 9223372036854775807 then (some (t126 ++ t127)) else (none)))))
theorem spec_Digits.mono_l : ∀ k, (∀ y0, LeO (spec_Digits.f k y0) (spec_Digits.f (k + 1) y0))
  | 0 => fun _ r h => by simp [spec_Digits.f] at h
  | k + 1 => by
    have ih0 := spec_Digits.mono_l k
    · intro y0
      unfold spec_Digits.f
      repeat' first
      | (with_reducible exact ih0 _)
      | (with_reducible exact LeO.refl _)
      | (with_reducible exact LeO.none _)
      | (with_reducible refine LeO.ite ?_ ?_)
      | (with_reducible refine LeO.bind ?_ (fun _ => ?_))
      | exact ih0 _
      | exact LeO.none _
      | refine LeO.ite ?_ ?_
      | refine LeO.bind ?_ (fun _ => ?_)
theorem spec_Digits.mono : ∀ a0 k, LeO (spec_Digits.f k a0) (spec_Digits.f (k + 1) a0) := by
  intro a0 k
  have ih0 := spec_Digits.mono_l k
  exact ih0 a0
set_option maxHeartbeats 8000000 in
set_option maxRecDepth 100000 in
theorem spec_Digits.calls (k : Nat) : ∀ (a0 : Int) (r : ByteArray) (w : World) (h : spec_Digits.f k a0 = some r),
    Calls Tryd.prog 10 #[.int .i64 a0] w fun e w' => e = .returned (.string r) ∧ Below w.heap.size w w' := by
  induction k using Nat.strongRecOn with
  | _ k ih =>
  intro a0 r w h
  cases k with
  | zero => exact absurd h (by simp [spec_Digits.f])
  | succ k =>
  simp only [spec_Digits.f] at h
  have HB := Aside0.mk (Below.refl w.heap.size w)
  have H : (if a0 < 0 then (if a0 = (-9223372036854775808) then (some (⟨#[45, 57, 50, 50, 51, 51, 55, 50, 48, 51, 54, 56, 53, 52, 55, 55, 53, 56, 48, 56]⟩ : ByteArray)) else ((spec_Digits.f k (wrap64 (-a0))).bind fun t122 => (if 1 + t122.size ≤ 9223372036854775807 then (some ((⟨#[45]⟩ : ByteArray) ++ t122)) else (none)))) else (if a0 < 10 then (some (strOfNums (([(wrap64 (48 + a0)) % 256] : List Int)))) else ((spec_Digits.f k (wrap64 (Int.tdiv a0 10))).bind fun t126 => ((spec_Digits.f k (Int.tmod a0 10)).bind fun t127 => (if t126.size + t127.size ≤ 9223372036854775807 then (some (t126 ++ t127)) else (none)))))) = some r := h
  clear h
  by_cases c2 : a0 < 0
  · rw [if_pos c2] at H
    have c2b0 : decide (a0 < 0) = true := decide_eq_true c2
    clear c2
    by_cases c3 : a0 = (-9223372036854775808)
    · rw [if_pos c3] at H
      have c3b0 : (a0 == (-9223372036854775808)) = true := beq_iff_eq.mpr c3
      have c3b1 : (a0 != (-9223372036854775808)) = false := bne_eq_false_iff_eq.mpr c3
      clear c3
      obtain rfl := Option.some.inj H
      go_enter Tryd.func10, Tryd.ntmps10
      go_wp2
      go_ret
      exact ⟨by first | rfl | (simp [errW_none, errW_some] <;> rfl) | (simp [*, errW_none, errW_some] <;> rfl), by repeat (first | (with_reducible first | exact HB.out | apply below_alloc | apply pw_below_drewN | apply below_drew1) | exact HB.out)⟩
    · rw [if_neg c3] at H
      have c3b0 : (a0 == (-9223372036854775808)) = false := beq_eq_false_iff_ne.mpr c3
      have c3b1 : (a0 != (-9223372036854775808)) = true := bne_iff_ne.mpr c3
      replace H := Option.bind_eq_some_iff.mp H
      obtain ⟨t122, A40, H⟩ := H
      replace H : (if 1 + t122.size ≤ 9223372036854775807 then (some ((⟨#[45]⟩ : ByteArray) ++ t122)) else (none)) = some r := H
      have A4 := Aside0.mk A40
      clear A40
      by_cases c5 : 1 + t122.size ≤ 9223372036854775807
      · rw [if_pos c5] at H
        have c5b0 := eq_true c5
        have c5b1 : decide (1 + t122.size ≤ 9223372036854775807) = true := decide_eq_true c5
        try have c5b2 : (9223372036854775807 < 1 + t122.size) = False := eq_false (Nat.not_lt.2 c5)
        obtain rfl := Option.some.inj H
        go_enter Tryd.func10, Tryd.ntmps10
        go_wp2_with (first | ((with_reducible refine gate_callee (f := 10) rfl ?_); refine goesL_ (some 9) rfl rfl Tryd.func10 (by kernel_rfl) rfl #[.int .i64 (wrap64 (-a0))] rfl (by (try simp only [List.map_toArray, List.map_cons, List.map_nil]); first | done | rfl | (simp only [List.length_drop, List.length_take]; rfl)) ?_; (with_reducible refine (ih k (by omega) (wrap64 (-a0)) t122 _ A4.out).mono ?_); rintro e w6 ⟨rfl, hb⟩; refine ⟨_, rfl, ?_⟩; have n0_ := Aside0.mk (below_step (by repeat (first | (with_reducible first | exact HB.out | apply below_alloc | apply pw_below_drewN | apply below_drew1) | exact HB.out)) hb); clear HB; have HB := n0_; clear n0_; (try clear hb); (try clear hb2); (try clear hk); (try clear hi)))
        go_ret
        exact ⟨by first | rfl | (simp [errW_none, errW_some] <;> rfl) | (simp [*, errW_none, errW_some] <;> rfl), by repeat (first | (with_reducible first | exact HB.out | apply below_alloc | apply pw_below_drewN | apply below_drew1) | exact HB.out)⟩
      · rw [if_neg c5] at H
        exact absurd H (by simp)
  · rw [if_neg c2] at H
    have c2b0 : decide (a0 < 0) = false := decide_eq_false c2
    clear c2
    by_cases c7 : a0 < 10
    · rw [if_pos c7] at H
      have c7b0 : decide (a0 < 10) = true := decide_eq_true c7
      clear c7
      obtain ⟨y123, hy123⟩ : ∃ y_ : List Int, y_ = (([(wrap64 (48 + a0)) % 256] : List Int)) := ⟨_, rfl⟩
      replace H : (some (strOfNums y123)) = some r := by first | (rw [hy123]; with_reducible exact H) | (have H2_ := (Option.bind_some _ _).symm.trans H; rw [hy123]; with_reducible exact H2_) | (have H2_ := (Option.bind_some _ _).symm.trans H; with_reducible exact H2_) | with_reducible exact H | (rw [hy123]; exact H) | exact H
      have Ny123 := Aside0.mk hy123
      clear hy123
      obtain rfl := Option.some.inj H
      go_enter Tryd.func10, Tryd.ntmps10
      go_wp2_with (first | ((with_reducible refine gate_dst (N := 16) rfl ?_); refine Kd.R_lit (Kd.int .u8) _ 5 ?hg (N := 16) ?hd (xs := ([(wrap64 (48 + a0)) % 256] : List Int)) (inner := [.int .u8 ((wrap64 (48 + a0)) % 256)]) (ok := fun _ => True) (okp := fun _ => True) ?hr ?hp (fun _ hk => hk) trivial (Below.refl _ _) (Nat.le_refl _) (by simp) ?_; (case hd => rfl); (case hg => rfl); (case hr => first | (go_simp; done) | (go_simp; rfl)); (case hp => exact (Reps.one (show Kd.M (Kd.int .u8) _ _ _ ((wrap64 (48 + a0)) % 256) [.int .u8 ((wrap64 (48 + a0)) % 256)] from rfl) (Reps.none _ _))); intro v124 w8 ho9 hb hg_ hnew_; clear hg_ hnew_; (first | rw [← Ny123.out] at ho9 | (simp only [Int.reduceToNat] at ho9; rw [← Ny123.out] at ho9)); have n0_ := Aside0.mk (Kd.R_lower ho9 (below_size (by repeat (first | (with_reducible first | exact HB.out | apply below_alloc | apply pw_below_drewN | apply below_drew1) | exact HB.out)))); have n1_ := Aside0.mk (below_step (by repeat (first | (with_reducible first | exact HB.out | apply below_alloc | apply pw_below_drewN | apply below_drew1) | exact HB.out)) hb); clear HB; have HO125 := n0_; have HB := n1_; clear n0_ n1_; clear hb ho9; have hcv10 := own_string (P := Tryd.prog) Tryd.underlying32 Tryd.underlying5 Tryd.underlying9 (Kd.own_of_R HO125.out)))
      go_ret
      exact ⟨by first | rfl | (simp [errW_none, errW_some] <;> rfl) | (simp [*, errW_none, errW_some] <;> rfl), by repeat (first | (with_reducible first | exact HB.out | apply below_alloc | apply pw_below_drewN | apply below_drew1) | exact HB.out)⟩
    · rw [if_neg c7] at H
      have c7b0 : decide (a0 < 10) = false := decide_eq_false c7
      clear c7
      replace H := Option.bind_eq_some_iff.mp H
      obtain ⟨t126, A110, H⟩ := H
      replace H : ((spec_Digits.f k (Int.tmod a0 10)).bind fun t127 => (if t126.size + t127.size ≤ 9223372036854775807 then (some (t126 ++ t127)) else (none))) = some r := H
      have A11 := Aside0.mk A110
      clear A110
      replace H := Option.bind_eq_some_iff.mp H
      obtain ⟨t127, A120, H⟩ := H
      replace H : (if t126.size + t127.size ≤ 9223372036854775807 then (some (t126 ++ t127)) else (none)) = some r := H
      have A12 := Aside0.mk A120
      clear A120
      by_cases c13 : t126.size + t127.size ≤ 9223372036854775807
      · rw [if_pos c13] at H
        have c13b0 := eq_true c13
        have c13b1 : decide (t126.size + t127.size ≤ 9223372036854775807) = true := decide_eq_true c13
        try have c13b2 : (9223372036854775807 < t126.size + t127.size) = False := eq_false (Nat.not_lt.2 c13)
        obtain rfl := Option.some.inj H
        go_enter Tryd.func10, Tryd.ntmps10
        go_wp2_with (first | ((with_reducible refine gate_callee (f := 10) rfl ?_); refine goesL_ (some 20) rfl rfl Tryd.func10 (by kernel_rfl) rfl #[.int .i64 (wrap64 (Int.tdiv a0 10))] rfl (by (try simp only [List.map_toArray, List.map_cons, List.map_nil]); first | done | rfl | (simp only [List.length_drop, List.length_take]; rfl)) ?_; (with_reducible refine (ih k (by omega) (wrap64 (Int.tdiv a0 10)) t126 _ A11.out).mono ?_); rintro e w14 ⟨rfl, hb⟩; refine ⟨_, rfl, ?_⟩; have n0_ := Aside0.mk (below_step (by repeat (first | (with_reducible first | exact HB.out | apply below_alloc | apply pw_below_drewN | apply below_drew1) | exact HB.out)) hb); clear HB; have HB := n0_; clear n0_; (try clear hb); (try clear hb2); (try clear hk); (try clear hi)) | ((with_reducible refine gate_callee (f := 10) rfl ?_); refine goesL_ (some 23) rfl rfl Tryd.func10 (by kernel_rfl) rfl #[.int .i64 (Int.tmod a0 10)] rfl (by (try simp only [List.map_toArray, List.map_cons, List.map_nil]); first | done | rfl | (simp only [List.length_drop, List.length_take]; rfl)) ?_; (with_reducible refine (ih k (by omega) (Int.tmod a0 10) t127 _ A12.out).mono ?_); rintro e w15 ⟨rfl, hb⟩; refine ⟨_, rfl, ?_⟩; have n0_ := Aside0.mk (below_step (by repeat (first | (with_reducible first | exact HB.out | apply below_alloc | apply pw_below_drewN | apply below_drew1) | exact HB.out)) hb); clear HB; have HB := n0_; clear n0_; (try clear hb); (try clear hb2); (try clear hk); (try clear hi)))
        go_ret
        exact ⟨by first | rfl | (simp [errW_none, errW_some] <;> rfl) | (simp [*, errW_none, errW_some] <;> rfl), by repeat (first | (with_reducible first | exact HB.out | apply below_alloc | apply pw_below_drewN | apply below_drew1) | exact HB.out)⟩
      · rw [if_neg c13] at H
        exact absurd H (by simp)

end Go.Proofs.YtgcbnegdchladaaDoor.Y
