-- Written by a program of this session (wip/tool/xprint.py, round the kit's print.py). Lean checks it.
-- Written by a program of this session (wip/tool/xprint.py, round the kit's print.py). Lean checks it.
-- Written by a program of this session (wip/tool/xprint.py, round the kit's print.py). Lean checks it.
-- Written by a program of this session (wip/tool/xprint.py, round the kit's print.py). Lean checks it.
-- Written by a program of this session (wip/tool/xprint.py, round the kit's print.py). Lean checks it.
-- Written by a program of this session (wip/tool/xprint.py, round the kit's print.py). Lean checks it.
-- Written by a program of this session (wip/tool/xprint.py, round the kit's print.py). Lean checks it.
-- Written by a program of this session (wip/tool/xprint.py, round the kit's print.py). Lean checks it.
-- Written by a program of this session (wip/tool/xprint.py, round the kit's print.py). Lean checks it.
-- Written by a program of this session (wip/tool/xprint.py, round the kit's print.py). Lean checks it.
import Derived.Test.YtgcbnegdchladaaDoorCY0
import Derived.Test.YtgcbnegdchladaaDoorCItoa
import Derived.Test.YtgcbnegdchladaaDoorCEngD
import Derived.Test.YtgcbnegdchladaaDoorCBuf
namespace Go.Proofs.YtgcbnegdchladaaDoor.Y
open Go.RowKit Go.Proofs.YtgcbnegdchladaaDoorW.PrintWords Go.Proofs.YtgcbnegdchladaaDoorW.PrintLast Go.Proofs.YtgcbnegdchladaaDoorW.PrintMore
attribute [local go_sem] max2_int min2_int max_two min_two max_three min_three max_four min_four   -- for this text's walks alone
set_option linter.unusedVariables false
set_option linter.unusedSimpArgs false

/-! ### xansi_CursorUp: function 21 -/
def xansi_CursorUp.f (a0 : Int) : Option (ByteArray) := if a0 > 1 then ((strconv_Itoa.f a0).bind fun t101 => (if 2 + t101.size ≤ 9223372036854775807 then (if 2 + t101.size + 1 ≤ 9223372036854775807 then (some (((⟨#[27, 91]⟩ : ByteArray) ++ t101) ++ (⟨#[65]⟩ : ByteArray))) else (none)) else (none))) else (if 2 + 0 ≤ 9223372036854775807 then (if 2 + 0 + 1 ≤ 9223372036854775807 then (some (((⟨#[27, 91]⟩ : ByteArray) ++ (⟨#[]⟩ : ByteArray)) ++ (⟨#[65]⟩ : ByteArray))) else (none)) else (none))
set_option maxHeartbeats 8000000 in
set_option maxRecDepth 100000 in
theorem xansi_CursorUp.calls (a0 : Int) (r : ByteArray) (w : World) (hT : XTab w) (h : xansi_CursorUp.f a0 = some r) :
    Calls Tryd.prog 21 #[.int .i64 a0] w fun e w' => e = .returned (.string r) ∧ Below w.heap.size w w' := by
  have HT := Aside0.mk hT
  clear hT
  have HB := Aside0.mk (Below.refl w.heap.size w)
  have H : (if a0 > 1 then ((strconv_Itoa.f a0).bind fun t101 => (if 2 + t101.size ≤ 9223372036854775807 then (if 2 + t101.size + 1 ≤ 9223372036854775807 then (some (((⟨#[27, 91]⟩ : ByteArray) ++ t101) ++ (⟨#[65]⟩ : ByteArray))) else (none)) else (none))) else (if 2 + 0 ≤ 9223372036854775807 then (if 2 + 0 + 1 ≤ 9223372036854775807 then (some (((⟨#[27, 91]⟩ : ByteArray) ++ (⟨#[]⟩ : ByteArray)) ++ (⟨#[65]⟩ : ByteArray))) else (none)) else (none))) = some r := h
  clear h
  by_cases c2 : a0 > 1
  · rw [if_pos c2] at H
    have c2b0 : decide (1 < a0) = true := decide_eq_true c2
    clear c2
    replace H := Option.bind_eq_some_iff.mp H
    obtain ⟨t101, A30, H⟩ := H
    replace H : (if 2 + t101.size ≤ 9223372036854775807 then (if 2 + t101.size + 1 ≤ 9223372036854775807 then (some (((⟨#[27, 91]⟩ : ByteArray) ++ t101) ++ (⟨#[65]⟩ : ByteArray))) else (none)) else (none)) = some r := H
    have A3 := Aside0.mk A30
    clear A30
    by_cases c4 : 2 + t101.size ≤ 9223372036854775807
    · rw [if_pos c4] at H
      have c4b0 := eq_true c4
      have c4b1 : decide (2 + t101.size ≤ 9223372036854775807) = true := decide_eq_true c4
      try have c4b2 : (9223372036854775807 < 2 + t101.size) = False := eq_false (Nat.not_lt.2 c4)
      by_cases c5 : 2 + t101.size + 1 ≤ 9223372036854775807
      · rw [if_pos c5] at H
        have c5b0 := eq_true c5
        have c5b1 : decide (2 + t101.size + 1 ≤ 9223372036854775807) = true := decide_eq_true c5
        try have c5b2 : (9223372036854775807 < 2 + t101.size + 1) = False := eq_false (Nat.not_lt.2 c5)
        obtain rfl := Option.some.inj H
        go_enter Tryd.func21, Tryd.ntmps21
        go_wp2_with (first | ((with_reducible refine gate_callee (f := 69) rfl ?_); refine goesL_ (some 7) rfl rfl Tryd.func69 (by kernel_rfl) rfl #[.int .i64 a0] rfl (by (try simp only [List.map_toArray, List.map_cons, List.map_nil]); first | done | rfl | (simp only [List.length_drop, List.length_take]; rfl)) ?_; (with_reducible refine (strconv_Itoa.calls a0 t101 _ ?side1 A3.out).mono ?_); (case side1 => exact XTab.below HT.out (by repeat (first | (with_reducible first | exact HB.out | apply below_alloc | apply pw_below_drewN | apply below_drew1) | exact HB.out))); rintro e w6 ⟨rfl, hb⟩; refine ⟨_, rfl, ?_⟩; have n0_ := Aside0.mk (below_step (by repeat (first | (with_reducible first | exact HB.out | apply below_alloc | apply pw_below_drewN | apply below_drew1) | exact HB.out)) hb); clear HB; have HB := n0_; clear n0_; (try clear hb); (try clear hb2); (try clear hk); (try clear hi)))
        go_ret
        exact ⟨by first | rfl | (simp [errW_none, errW_some] <;> rfl) | (simp [*, errW_none, errW_some] <;> rfl), by repeat (first | (with_reducible first | exact HB.out | apply below_alloc | apply pw_below_drewN | apply below_drew1) | exact HB.out)⟩
      · rw [if_neg c5] at H
        exact absurd H (by simp)
    · rw [if_neg c4] at H
      exact absurd H (by simp)
  · rw [if_neg c2] at H
    have c2b0 : decide (1 < a0) = false := decide_eq_false c2
    clear c2
    by_cases c7 : 2 + 0 ≤ 9223372036854775807
    · rw [if_pos c7] at H
      have c7b0 := eq_true c7
      have c7b1 : decide (2 + 0 ≤ 9223372036854775807) = true := decide_eq_true c7
      try have c7b2 : (9223372036854775807 < 2 + 0) = False := eq_false (Nat.not_lt.2 c7)
      by_cases c8 : 2 + 0 + 1 ≤ 9223372036854775807
      · rw [if_pos c8] at H
        have c8b0 := eq_true c8
        have c8b1 : decide (2 + 0 + 1 ≤ 9223372036854775807) = true := decide_eq_true c8
        try have c8b2 : (9223372036854775807 < 2 + 0 + 1) = False := eq_false (Nat.not_lt.2 c8)
        obtain rfl := Option.some.inj H
        go_enter Tryd.func21, Tryd.ntmps21
        go_wp2
        go_ret
        exact ⟨by first | rfl | (simp [errW_none, errW_some] <;> rfl) | (simp [*, errW_none, errW_some] <;> rfl), by repeat (first | (with_reducible first | exact HB.out | apply below_alloc | apply pw_below_drewN | apply below_drew1) | exact HB.out)⟩
      · rw [if_neg c8] at H
        exact absurd H (by simp)
    · rw [if_neg c7] at H
      exact absurd H (by simp)

end Go.Proofs.YtgcbnegdchladaaDoor.Y
namespace Go.Proofs.YtgcbnegdchladaaDoor.Y
open Go.RowKit Go.Proofs.YtgcbnegdchladaaDoorW.PrintWords Go.Proofs.YtgcbnegdchladaaDoorW.PrintLast Go.Proofs.YtgcbnegdchladaaDoorW.PrintMore
attribute [local go_sem] max2_int min2_int max_two min_two max_three min_three max_four min_four   -- for this text's walks alone
set_option linter.unusedVariables false
set_option linter.unusedSimpArgs false

/-! ### xansi_PushKittyKeyboard: function 47 -/
def xansi_PushKittyKeyboard.f (a0 : Int) : Option (ByteArray) := if a0 > 0 then ((strconv_Itoa.f a0).bind fun t102 => (if 3 + t102.size ≤ 9223372036854775807 then (if 3 + t102.size + 1 ≤ 9223372036854775807 then (some (((⟨#[27, 91, 62]⟩ : ByteArray) ++ t102) ++ (⟨#[117]⟩ : ByteArray))) else (none)) else (none))) else (if 3 + 0 ≤ 9223372036854775807 then (if 3 + 0 + 1 ≤ 9223372036854775807 then (some (((⟨#[27, 91, 62]⟩ : ByteArray) ++ (⟨#[]⟩ : ByteArray)) ++ (⟨#[117]⟩ : ByteArray))) else (none)) else (none))
set_option maxHeartbeats 8000000 in
set_option maxRecDepth 100000 in
theorem xansi_PushKittyKeyboard.calls (a0 : Int) (r : ByteArray) (w : World) (hT : XTab w) (h : xansi_PushKittyKeyboard.f a0 = some r) :
    Calls Tryd.prog 47 #[.int .i64 a0] w fun e w' => e = .returned (.string r) ∧ Below w.heap.size w w' := by
  have HT := Aside0.mk hT
  clear hT
  have HB := Aside0.mk (Below.refl w.heap.size w)
  have H : (if a0 > 0 then ((strconv_Itoa.f a0).bind fun t102 => (if 3 + t102.size ≤ 9223372036854775807 then (if 3 + t102.size + 1 ≤ 9223372036854775807 then (some (((⟨#[27, 91, 62]⟩ : ByteArray) ++ t102) ++ (⟨#[117]⟩ : ByteArray))) else (none)) else (none))) else (if 3 + 0 ≤ 9223372036854775807 then (if 3 + 0 + 1 ≤ 9223372036854775807 then (some (((⟨#[27, 91, 62]⟩ : ByteArray) ++ (⟨#[]⟩ : ByteArray)) ++ (⟨#[117]⟩ : ByteArray))) else (none)) else (none))) = some r := h
  clear h
  by_cases c2 : a0 > 0
  · rw [if_pos c2] at H
    have c2b0 : decide (0 < a0) = true := decide_eq_true c2
    clear c2
    replace H := Option.bind_eq_some_iff.mp H
    obtain ⟨t102, A30, H⟩ := H
    replace H : (if 3 + t102.size ≤ 9223372036854775807 then (if 3 + t102.size + 1 ≤ 9223372036854775807 then (some (((⟨#[27, 91, 62]⟩ : ByteArray) ++ t102) ++ (⟨#[117]⟩ : ByteArray))) else (none)) else (none)) = some r := H
    have A3 := Aside0.mk A30
    clear A30
    by_cases c4 : 3 + t102.size ≤ 9223372036854775807
    · rw [if_pos c4] at H
      have c4b0 := eq_true c4
      have c4b1 : decide (3 + t102.size ≤ 9223372036854775807) = true := decide_eq_true c4
      try have c4b2 : (9223372036854775807 < 3 + t102.size) = False := eq_false (Nat.not_lt.2 c4)
      by_cases c5 : 3 + t102.size + 1 ≤ 9223372036854775807
      · rw [if_pos c5] at H
        have c5b0 := eq_true c5
        have c5b1 : decide (3 + t102.size + 1 ≤ 9223372036854775807) = true := decide_eq_true c5
        try have c5b2 : (9223372036854775807 < 3 + t102.size + 1) = False := eq_false (Nat.not_lt.2 c5)
        obtain rfl := Option.some.inj H
        go_enter Tryd.func47, Tryd.ntmps47
        go_wp2_with (first | ((with_reducible refine gate_callee (f := 69) rfl ?_); refine goesL_ (some 7) rfl rfl Tryd.func69 (by kernel_rfl) rfl #[.int .i64 a0] rfl (by (try simp only [List.map_toArray, List.map_cons, List.map_nil]); first | done | rfl | (simp only [List.length_drop, List.length_take]; rfl)) ?_; (with_reducible refine (strconv_Itoa.calls a0 t102 _ ?side1 A3.out).mono ?_); (case side1 => exact XTab.below HT.out (by repeat (first | (with_reducible first | exact HB.out | apply below_alloc | apply pw_below_drewN | apply below_drew1) | exact HB.out))); rintro e w6 ⟨rfl, hb⟩; refine ⟨_, rfl, ?_⟩; have n0_ := Aside0.mk (below_step (by repeat (first | (with_reducible first | exact HB.out | apply below_alloc | apply pw_below_drewN | apply below_drew1) | exact HB.out)) hb); clear HB; have HB := n0_; clear n0_; (try clear hb); (try clear hb2); (try clear hk); (try clear hi)))
        go_ret
        exact ⟨by first | rfl | (simp [errW_none, errW_some] <;> rfl) | (simp [*, errW_none, errW_some] <;> rfl), by repeat (first | (with_reducible first | exact HB.out | apply below_alloc | apply pw_below_drewN | apply below_drew1) | exact HB.out)⟩
      · rw [if_neg c5] at H
        exact absurd H (by simp)
    · rw [if_neg c4] at H
      exact absurd H (by simp)
  · rw [if_neg c2] at H
    have c2b0 : decide (0 < a0) = false := decide_eq_false c2
    clear c2
    by_cases c7 : 3 + 0 ≤ 9223372036854775807
    · rw [if_pos c7] at H
      have c7b0 := eq_true c7
      have c7b1 : decide (3 + 0 ≤ 9223372036854775807) = true := decide_eq_true c7
      try have c7b2 : (9223372036854775807 < 3 + 0) = False := eq_false (Nat.not_lt.2 c7)
      by_cases c8 : 3 + 0 + 1 ≤ 9223372036854775807
      · rw [if_pos c8] at H
        have c8b0 := eq_true c8
        have c8b1 : decide (3 + 0 + 1 ≤ 9223372036854775807) = true := decide_eq_true c8
        try have c8b2 : (9223372036854775807 < 3 + 0 + 1) = False := eq_false (Nat.not_lt.2 c8)
        obtain rfl := Option.some.inj H
        go_enter Tryd.func47, Tryd.ntmps47
        go_wp2
        go_ret
        exact ⟨by first | rfl | (simp [errW_none, errW_some] <;> rfl) | (simp [*, errW_none, errW_some] <;> rfl), by repeat (first | (with_reducible first | exact HB.out | apply below_alloc | apply pw_below_drewN | apply below_drew1) | exact HB.out)⟩
      · rw [if_neg c8] at H
        exact absurd H (by simp)
    · rw [if_neg c7] at H
      exact absurd H (by simp)

end Go.Proofs.YtgcbnegdchladaaDoor.Y
namespace Go.Proofs.YtgcbnegdchladaaDoor.Y
open Go.RowKit Go.Proofs.YtgcbnegdchladaaDoorW.PrintWords Go.Proofs.YtgcbnegdchladaaDoorW.PrintLast Go.Proofs.YtgcbnegdchladaaDoorW.PrintMore
attribute [local go_sem] max2_int min2_int max_two min_two max_three min_three max_four min_four   -- for this text's walks alone
set_option linter.unusedVariables false
set_option linter.unusedSimpArgs false

/-! ### xansi_PopKittyKeyboard: function 48 -/
def xansi_PopKittyKeyboard.f (a0 : Int) : Option (ByteArray) := if a0 > 0 then ((strconv_Itoa.f a0).bind fun t103 => (if 3 + t103.size ≤ 9223372036854775807 then (if 3 + t103.size + 1 ≤ 9223372036854775807 then (some (((⟨#[27, 91, 60]⟩ : ByteArray) ++ t103) ++ (⟨#[117]⟩ : ByteArray))) else (none)) else (none))) else (if 3 + 0 ≤ 9223372036854775807 then (if 3 + 0 + 1 ≤ 9223372036854775807 then (some (((⟨#[27, 91, 60]⟩ : ByteArray) ++ (⟨#[]⟩ : ByteArray)) ++ (⟨#[117]⟩ : ByteArray))) else (none)) else (none))
set_option maxHeartbeats 8000000 in
set_option maxRecDepth 100000 in
theorem xansi_PopKittyKeyboard.calls (a0 : Int) (r : ByteArray) (w : World) (hT : XTab w) (h : xansi_PopKittyKeyboard.f a0 = some r) :
    Calls Tryd.prog 48 #[.int .i64 a0] w fun e w' => e = .returned (.string r) ∧ Below w.heap.size w w' := by
  have HT := Aside0.mk hT
  clear hT
  have HB := Aside0.mk (Below.refl w.heap.size w)
  have H : (if a0 > 0 then ((strconv_Itoa.f a0).bind fun t103 => (if 3 + t103.size ≤ 9223372036854775807 then (if 3 + t103.size + 1 ≤ 9223372036854775807 then (some (((⟨#[27, 91, 60]⟩ : ByteArray) ++ t103) ++ (⟨#[117]⟩ : ByteArray))) else (none)) else (none))) else (if 3 + 0 ≤ 9223372036854775807 then (if 3 + 0 + 1 ≤ 9223372036854775807 then (some (((⟨#[27, 91, 60]⟩ : ByteArray) ++ (⟨#[]⟩ : ByteArray)) ++ (⟨#[117]⟩ : ByteArray))) else (none)) else (none))) = some r := h
  clear h
  by_cases c2 : a0 > 0
  · rw [if_pos c2] at H
    have c2b0 : decide (0 < a0) = true := decide_eq_true c2
    clear c2
    replace H := Option.bind_eq_some_iff.mp H
    obtain ⟨t103, A30, H⟩ := H
    replace H : (if 3 + t103.size ≤ 9223372036854775807 then (if 3 + t103.size + 1 ≤ 9223372036854775807 then (some (((⟨#[27, 91, 60]⟩ : ByteArray) ++ t103) ++ (⟨#[117]⟩ : ByteArray))) else (none)) else (none)) = some r := H
    have A3 := Aside0.mk A30
    clear A30
    by_cases c4 : 3 + t103.size ≤ 9223372036854775807
    · rw [if_pos c4] at H
      have c4b0 := eq_true c4
      have c4b1 : decide (3 + t103.size ≤ 9223372036854775807) = true := decide_eq_true c4
      try have c4b2 : (9223372036854775807 < 3 + t103.size) = False := eq_false (Nat.not_lt.2 c4)
      by_cases c5 : 3 + t103.size + 1 ≤ 9223372036854775807
      · rw [if_pos c5] at H
        have c5b0 := eq_true c5
        have c5b1 : decide (3 + t103.size + 1 ≤ 9223372036854775807) = true := decide_eq_true c5
        try have c5b2 : (9223372036854775807 < 3 + t103.size + 1) = False := eq_false (Nat.not_lt.2 c5)
        obtain rfl := Option.some.inj H
        go_enter Tryd.func48, Tryd.ntmps48
        go_wp2_with (first | ((with_reducible refine gate_callee (f := 69) rfl ?_); refine goesL_ (some 7) rfl rfl Tryd.func69 (by kernel_rfl) rfl #[.int .i64 a0] rfl (by (try simp only [List.map_toArray, List.map_cons, List.map_nil]); first | done | rfl | (simp only [List.length_drop, List.length_take]; rfl)) ?_; (with_reducible refine (strconv_Itoa.calls a0 t103 _ ?side1 A3.out).mono ?_); (case side1 => exact XTab.below HT.out (by repeat (first | (with_reducible first | exact HB.out | apply below_alloc | apply pw_below_drewN | apply below_drew1) | exact HB.out))); rintro e w6 ⟨rfl, hb⟩; refine ⟨_, rfl, ?_⟩; have n0_ := Aside0.mk (below_step (by repeat (first | (with_reducible first | exact HB.out | apply below_alloc | apply pw_below_drewN | apply below_drew1) | exact HB.out)) hb); clear HB; have HB := n0_; clear n0_; (try clear hb); (try clear hb2); (try clear hk); (try clear hi)))
        go_ret
        exact ⟨by first | rfl | (simp [errW_none, errW_some] <;> rfl) | (simp [*, errW_none, errW_some] <;> rfl), by repeat (first | (with_reducible first | exact HB.out | apply below_alloc | apply pw_below_drewN | apply below_drew1) | exact HB.out)⟩
      · rw [if_neg c5] at H
        exact absurd H (by simp)
    · rw [if_neg c4] at H
      exact absurd H (by simp)
  · rw [if_neg c2] at H
    have c2b0 : decide (0 < a0) = false := decide_eq_false c2
    clear c2
    by_cases c7 : 3 + 0 ≤ 9223372036854775807
    · rw [if_pos c7] at H
      have c7b0 := eq_true c7
      have c7b1 : decide (3 + 0 ≤ 9223372036854775807) = true := decide_eq_true c7
      try have c7b2 : (9223372036854775807 < 3 + 0) = False := eq_false (Nat.not_lt.2 c7)
      by_cases c8 : 3 + 0 + 1 ≤ 9223372036854775807
      · rw [if_pos c8] at H
        have c8b0 := eq_true c8
        have c8b1 : decide (3 + 0 + 1 ≤ 9223372036854775807) = true := decide_eq_true c8
        try have c8b2 : (9223372036854775807 < 3 + 0 + 1) = False := eq_false (Nat.not_lt.2 c8)
        obtain rfl := Option.some.inj H
        go_enter Tryd.func48, Tryd.ntmps48
        go_wp2
        go_ret
        exact ⟨by first | rfl | (simp [errW_none, errW_some] <;> rfl) | (simp [*, errW_none, errW_some] <;> rfl), by repeat (first | (with_reducible first | exact HB.out | apply below_alloc | apply pw_below_drewN | apply below_drew1) | exact HB.out)⟩
      · rw [if_neg c8] at H
        exact absurd H (by simp)
    · rw [if_neg c7] at H
      exact absurd H (by simp)

end Go.Proofs.YtgcbnegdchladaaDoor.Y
namespace Go.Proofs.YtgcbnegdchladaaDoor.Y
open Go.RowKit Go.Proofs.YtgcbnegdchladaaDoorW.PrintWords Go.Proofs.YtgcbnegdchladaaDoorW.PrintLast Go.Proofs.YtgcbnegdchladaaDoorW.PrintMore
attribute [local go_sem] max2_int min2_int max_two min_two max_three min_three max_four min_four   -- for this text's walks alone
set_option linter.unusedVariables false
set_option linter.unusedSimpArgs false

/-! ### xansi_SetProgressBar: function 52 -/
def xansi_SetProgressBar.f (a0 : Int) : Option (ByteArray) := (strconv_Itoa.f (mn (mx 0 a0) 100)).bind fun t104 => (if 8 + t104.size ≤ 9223372036854775807 then (if 8 + t104.size + 1 ≤ 9223372036854775807 then (some (((⟨#[27, 93, 57, 59, 52, 59, 49, 59]⟩ : ByteArray) ++ t104) ++ (⟨#[7]⟩ : ByteArray))) else (none)) else (none))
set_option maxHeartbeats 8000000 in
set_option maxRecDepth 100000 in
theorem xansi_SetProgressBar.calls (a0 : Int) (r : ByteArray) (w : World) (hT : XTab w) (h : xansi_SetProgressBar.f a0 = some r) :
    Calls Tryd.prog 52 #[.int .i64 a0] w fun e w' => e = .returned (.string r) ∧ Below w.heap.size w w' := by
  have HT := Aside0.mk hT
  clear hT
  have HB := Aside0.mk (Below.refl w.heap.size w)
  have H : ((strconv_Itoa.f (mn (mx 0 a0) 100)).bind fun t104 => (if 8 + t104.size ≤ 9223372036854775807 then (if 8 + t104.size + 1 ≤ 9223372036854775807 then (some (((⟨#[27, 93, 57, 59, 52, 59, 49, 59]⟩ : ByteArray) ++ t104) ++ (⟨#[7]⟩ : ByteArray))) else (none)) else (none))) = some r := h
  clear h
  obtain ⟨ji2, hji2⟩ : ∃ j_ : Int, (mx 0 a0) = j_ := ⟨_, rfl⟩
  replace H : ((strconv_Itoa.f (mn (ji2) 100)).bind fun t104 => (if 8 + t104.size ≤ 9223372036854775807 then (if 8 + t104.size + 1 ≤ 9223372036854775807 then (some (((⟨#[27, 93, 57, 59, 52, 59, 49, 59]⟩ : ByteArray) ++ t104) ++ (⟨#[7]⟩ : ByteArray))) else (none)) else (none))) = some r := by first | (rw [hji2] at H; exact H) | (simp only [hji2] at H ⊢; exact H)
  (try (have hji2l : 0 ≤ ji2 := by (rw [← hji2]; unfold mx; (repeat' split) <;> omega)))
  (try (have hji2m : 0 ≤ ji2 := by omega))
  have hji2_ : (if 0 < a0 then a0 else 0) = ji2 := hji2
  obtain ⟨ji3, hji3⟩ : ∃ j_ : Int, (mn (ji2) 100) = j_ := ⟨_, rfl⟩
  replace H : ((strconv_Itoa.f (ji3)).bind fun t104 => (if 8 + t104.size ≤ 9223372036854775807 then (if 8 + t104.size + 1 ≤ 9223372036854775807 then (some (((⟨#[27, 93, 57, 59, 52, 59, 49, 59]⟩ : ByteArray) ++ t104) ++ (⟨#[7]⟩ : ByteArray))) else (none)) else (none))) = some r := by first | (rw [hji3] at H; exact H) | (simp only [hji3] at H ⊢; exact H)
  have hji3_ : (if 100 < (ji2) then 100 else (ji2)) = ji3 := hji3
  replace H := Option.bind_eq_some_iff.mp H
  obtain ⟨t104, A40, H⟩ := H
  replace H : (if 8 + t104.size ≤ 9223372036854775807 then (if 8 + t104.size + 1 ≤ 9223372036854775807 then (some (((⟨#[27, 93, 57, 59, 52, 59, 49, 59]⟩ : ByteArray) ++ t104) ++ (⟨#[7]⟩ : ByteArray))) else (none)) else (none)) = some r := H
  have A4 := Aside0.mk A40
  clear A40
  by_cases c5 : 8 + t104.size ≤ 9223372036854775807
  · rw [if_pos c5] at H
    have c5b0 := eq_true c5
    have c5b1 : decide (8 + t104.size ≤ 9223372036854775807) = true := decide_eq_true c5
    try have c5b2 : (9223372036854775807 < 8 + t104.size) = False := eq_false (Nat.not_lt.2 c5)
    by_cases c6 : 8 + t104.size + 1 ≤ 9223372036854775807
    · rw [if_pos c6] at H
      have c6b0 := eq_true c6
      have c6b1 : decide (8 + t104.size + 1 ≤ 9223372036854775807) = true := decide_eq_true c6
      try have c6b2 : (9223372036854775807 < 8 + t104.size + 1) = False := eq_false (Nat.not_lt.2 c6)
      obtain rfl := Option.some.inj H
      go_enter Tryd.func52, Tryd.ntmps52
      go_wp2_with (first | ((with_reducible refine gate_callee (f := 69) rfl ?_); refine goesL_ (some 6) rfl rfl Tryd.func69 (by kernel_rfl) rfl #[.int .i64 ji3] rfl (by (try simp only [List.map_toArray, List.map_cons, List.map_nil]); first | done | (simp only [hji3]; rfl) | rfl | (simp only [List.length_drop, List.length_take]; rfl)) ?_; (with_reducible refine (strconv_Itoa.calls ji3 t104 _ ?side1 A4.out).mono ?_); (case side1 => exact XTab.below HT.out (by repeat (first | (with_reducible first | exact HB.out | apply below_alloc | apply pw_below_drewN | apply below_drew1) | exact HB.out))); rintro e w7 ⟨rfl, hb⟩; refine ⟨_, rfl, ?_⟩; have n0_ := Aside0.mk (below_step (by repeat (first | (with_reducible first | exact HB.out | apply below_alloc | apply pw_below_drewN | apply below_drew1) | exact HB.out)) hb); clear HB; have HB := n0_; clear n0_; (try clear hb); (try clear hb2); (try clear hk); (try clear hi)))
      go_ret
      exact ⟨by first | rfl | (simp [errW_none, errW_some] <;> rfl) | (simp only [← hji2, ← hji3]; first | rfl | (simp [errW_none, errW_some] <;> rfl)) | (simp [*, errW_none, errW_some] <;> rfl), by repeat (first | (with_reducible first | exact HB.out | apply below_alloc | apply pw_below_drewN | apply below_drew1) | exact HB.out)⟩
    · rw [if_neg c6] at H
      exact absurd H (by simp)
  · rw [if_neg c5] at H
    exact absurd H (by simp)

end Go.Proofs.YtgcbnegdchladaaDoor.Y
namespace Go.Proofs.YtgcbnegdchladaaDoor.Y
open Go.RowKit Go.Proofs.YtgcbnegdchladaaDoorW.PrintWords Go.Proofs.YtgcbnegdchladaaDoorW.PrintLast Go.Proofs.YtgcbnegdchladaaDoorW.PrintMore
attribute [local go_sem] max2_int min2_int max_two min_two max_three min_three max_four min_four   -- for this text's walks alone
set_option linter.unusedVariables false
set_option linter.unusedSimpArgs false

/-! ### xansi_SetErrorProgressBar: function 53 -/
def xansi_SetErrorProgressBar.f (a0 : Int) : Option (ByteArray) := (strconv_Itoa.f (mn (mx 0 a0) 100)).bind fun t105 => (if 8 + t105.size ≤ 9223372036854775807 then (if 8 + t105.size + 1 ≤ 9223372036854775807 then (some (((⟨#[27, 93, 57, 59, 52, 59, 50, 59]⟩ : ByteArray) ++ t105) ++ (⟨#[7]⟩ : ByteArray))) else (none)) else (none))
set_option maxHeartbeats 8000000 in
set_option maxRecDepth 100000 in
theorem xansi_SetErrorProgressBar.calls (a0 : Int) (r : ByteArray) (w : World) (hT : XTab w) (h : xansi_SetErrorProgressBar.f a0 = some r) :
    Calls Tryd.prog 53 #[.int .i64 a0] w fun e w' => e = .returned (.string r) ∧ Below w.heap.size w w' := by
  have HT := Aside0.mk hT
  clear hT
  have HB := Aside0.mk (Below.refl w.heap.size w)
  have H : ((strconv_Itoa.f (mn (mx 0 a0) 100)).bind fun t105 => (if 8 + t105.size ≤ 9223372036854775807 then (if 8 + t105.size + 1 ≤ 9223372036854775807 then (some (((⟨#[27, 93, 57, 59, 52, 59, 50, 59]⟩ : ByteArray) ++ t105) ++ (⟨#[7]⟩ : ByteArray))) else (none)) else (none))) = some r := h
  clear h
  obtain ⟨ji2, hji2⟩ : ∃ j_ : Int, (mx 0 a0) = j_ := ⟨_, rfl⟩
  replace H : ((strconv_Itoa.f (mn (ji2) 100)).bind fun t105 => (if 8 + t105.size ≤ 9223372036854775807 then (if 8 + t105.size + 1 ≤ 9223372036854775807 then (some (((⟨#[27, 93, 57, 59, 52, 59, 50, 59]⟩ : ByteArray) ++ t105) ++ (⟨#[7]⟩ : ByteArray))) else (none)) else (none))) = some r := by first | (rw [hji2] at H; exact H) | (simp only [hji2] at H ⊢; exact H)
  (try (have hji2l : 0 ≤ ji2 := by (rw [← hji2]; unfold mx; (repeat' split) <;> omega)))
  (try (have hji2m : 0 ≤ ji2 := by omega))
  have hji2_ : (if 0 < a0 then a0 else 0) = ji2 := hji2
  obtain ⟨ji3, hji3⟩ : ∃ j_ : Int, (mn (ji2) 100) = j_ := ⟨_, rfl⟩
  replace H : ((strconv_Itoa.f (ji3)).bind fun t105 => (if 8 + t105.size ≤ 9223372036854775807 then (if 8 + t105.size + 1 ≤ 9223372036854775807 then (some (((⟨#[27, 93, 57, 59, 52, 59, 50, 59]⟩ : ByteArray) ++ t105) ++ (⟨#[7]⟩ : ByteArray))) else (none)) else (none))) = some r := by first | (rw [hji3] at H; exact H) | (simp only [hji3] at H ⊢; exact H)
  have hji3_ : (if 100 < (ji2) then 100 else (ji2)) = ji3 := hji3
  replace H := Option.bind_eq_some_iff.mp H
  obtain ⟨t105, A40, H⟩ := H
  replace H : (if 8 + t105.size ≤ 9223372036854775807 then (if 8 + t105.size + 1 ≤ 9223372036854775807 then (some (((⟨#[27, 93, 57, 59, 52, 59, 50, 59]⟩ : ByteArray) ++ t105) ++ (⟨#[7]⟩ : ByteArray))) else (none)) else (none)) = some r := H
  have A4 := Aside0.mk A40
  clear A40
  by_cases c5 : 8 + t105.size ≤ 9223372036854775807
  · rw [if_pos c5] at H
    have c5b0 := eq_true c5
    have c5b1 : decide (8 + t105.size ≤ 9223372036854775807) = true := decide_eq_true c5
    try have c5b2 : (9223372036854775807 < 8 + t105.size) = False := eq_false (Nat.not_lt.2 c5)
    by_cases c6 : 8 + t105.size + 1 ≤ 9223372036854775807
    · rw [if_pos c6] at H
      have c6b0 := eq_true c6
      have c6b1 : decide (8 + t105.size + 1 ≤ 9223372036854775807) = true := decide_eq_true c6
      try have c6b2 : (9223372036854775807 < 8 + t105.size + 1) = False := eq_false (Nat.not_lt.2 c6)
      obtain rfl := Option.some.inj H
      go_enter Tryd.func53, Tryd.ntmps53
      go_wp2_with (first | ((with_reducible refine gate_callee (f := 69) rfl ?_); refine goesL_ (some 6) rfl rfl Tryd.func69 (by kernel_rfl) rfl #[.int .i64 ji3] rfl (by (try simp only [List.map_toArray, List.map_cons, List.map_nil]); first | done | (simp only [hji3]; rfl) | rfl | (simp only [List.length_drop, List.length_take]; rfl)) ?_; (with_reducible refine (strconv_Itoa.calls ji3 t105 _ ?side1 A4.out).mono ?_); (case side1 => exact XTab.below HT.out (by repeat (first | (with_reducible first | exact HB.out | apply below_alloc | apply pw_below_drewN | apply below_drew1) | exact HB.out))); rintro e w7 ⟨rfl, hb⟩; refine ⟨_, rfl, ?_⟩; have n0_ := Aside0.mk (below_step (by repeat (first | (with_reducible first | exact HB.out | apply below_alloc | apply pw_below_drewN | apply below_drew1) | exact HB.out)) hb); clear HB; have HB := n0_; clear n0_; (try clear hb); (try clear hb2); (try clear hk); (try clear hi)))
      go_ret
      exact ⟨by first | rfl | (simp [errW_none, errW_some] <;> rfl) | (simp only [← hji2, ← hji3]; first | rfl | (simp [errW_none, errW_some] <;> rfl)) | (simp [*, errW_none, errW_some] <;> rfl), by repeat (first | (with_reducible first | exact HB.out | apply below_alloc | apply pw_below_drewN | apply below_drew1) | exact HB.out)⟩
    · rw [if_neg c6] at H
      exact absurd H (by simp)
  · rw [if_neg c5] at H
    exact absurd H (by simp)

end Go.Proofs.YtgcbnegdchladaaDoor.Y
namespace Go.Proofs.YtgcbnegdchladaaDoor.Y
open Go.RowKit Go.Proofs.YtgcbnegdchladaaDoorW.PrintWords Go.Proofs.YtgcbnegdchladaaDoorW.PrintLast Go.Proofs.YtgcbnegdchladaaDoorW.PrintMore
attribute [local go_sem] max2_int min2_int max_two min_two max_three min_three max_four min_four   -- for this text's walks alone
set_option linter.unusedVariables false
set_option linter.unusedSimpArgs false

/-! ### xansi_SetWarningProgressBar: function 54 -/
def xansi_SetWarningProgressBar.f (a0 : Int) : Option (ByteArray) := (strconv_Itoa.f (mn (mx 0 a0) 100)).bind fun t106 => (if 8 + t106.size ≤ 9223372036854775807 then (if 8 + t106.size + 1 ≤ 9223372036854775807 then (some (((⟨#[27, 93, 57, 59, 52, 59, 52, 59]⟩ : ByteArray) ++ t106) ++ (⟨#[7]⟩ : ByteArray))) else (none)) else (none))
set_option maxHeartbeats 8000000 in
set_option maxRecDepth 100000 in
theorem xansi_SetWarningProgressBar.calls (a0 : Int) (r : ByteArray) (w : World) (hT : XTab w) (h : xansi_SetWarningProgressBar.f a0 = some r) :
    Calls Tryd.prog 54 #[.int .i64 a0] w fun e w' => e = .returned (.string r) ∧ Below w.heap.size w w' := by
  have HT := Aside0.mk hT
  clear hT
  have HB := Aside0.mk (Below.refl w.heap.size w)
  have H : ((strconv_Itoa.f (mn (mx 0 a0) 100)).bind fun t106 => (if 8 + t106.size ≤ 9223372036854775807 then (if 8 + t106.size + 1 ≤ 9223372036854775807 then (some (((⟨#[27, 93, 57, 59, 52, 59, 52, 59]⟩ : ByteArray) ++ t106) ++ (⟨#[7]⟩ : ByteArray))) else (none)) else (none))) = some r := h
  clear h
  obtain ⟨ji2, hji2⟩ : ∃ j_ : Int, (mx 0 a0) = j_ := ⟨_, rfl⟩
  replace H : ((strconv_Itoa.f (mn (ji2) 100)).bind fun t106 => (if 8 + t106.size ≤ 9223372036854775807 then (if 8 + t106.size + 1 ≤ 9223372036854775807 then (some (((⟨#[27, 93, 57, 59, 52, 59, 52, 59]⟩ : ByteArray) ++ t106) ++ (⟨#[7]⟩ : ByteArray))) else (none)) else (none))) = some r := by first | (rw [hji2] at H; exact H) | (simp only [hji2] at H ⊢; exact H)
  (try (have hji2l : 0 ≤ ji2 := by (rw [← hji2]; unfold mx; (repeat' split) <;> omega)))
  (try (have hji2m : 0 ≤ ji2 := by omega))
  have hji2_ : (if 0 < a0 then a0 else 0) = ji2 := hji2
  obtain ⟨ji3, hji3⟩ : ∃ j_ : Int, (mn (ji2) 100) = j_ := ⟨_, rfl⟩
  replace H : ((strconv_Itoa.f (ji3)).bind fun t106 => (if 8 + t106.size ≤ 9223372036854775807 then (if 8 + t106.size + 1 ≤ 9223372036854775807 then (some (((⟨#[27, 93, 57, 59, 52, 59, 52, 59]⟩ : ByteArray) ++ t106) ++ (⟨#[7]⟩ : ByteArray))) else (none)) else (none))) = some r := by first | (rw [hji3] at H; exact H) | (simp only [hji3] at H ⊢; exact H)
  have hji3_ : (if 100 < (ji2) then 100 else (ji2)) = ji3 := hji3
  replace H := Option.bind_eq_some_iff.mp H
  obtain ⟨t106, A40, H⟩ := H
  replace H : (if 8 + t106.size ≤ 9223372036854775807 then (if 8 + t106.size + 1 ≤ 9223372036854775807 then (some (((⟨#[27, 93, 57, 59, 52, 59, 52, 59]⟩ : ByteArray) ++ t106) ++ (⟨#[7]⟩ : ByteArray))) else (none)) else (none)) = some r := H
  have A4 := Aside0.mk A40
  clear A40
  by_cases c5 : 8 + t106.size ≤ 9223372036854775807
  · rw [if_pos c5] at H
    have c5b0 := eq_true c5
    have c5b1 : decide (8 + t106.size ≤ 9223372036854775807) = true := decide_eq_true c5
    try have c5b2 : (9223372036854775807 < 8 + t106.size) = False := eq_false (Nat.not_lt.2 c5)
    by_cases c6 : 8 + t106.size + 1 ≤ 9223372036854775807
    · rw [if_pos c6] at H
      have c6b0 := eq_true c6
      have c6b1 : decide (8 + t106.size + 1 ≤ 9223372036854775807) = true := decide_eq_true c6
      try have c6b2 : (9223372036854775807 < 8 + t106.size + 1) = False := eq_false (Nat.not_lt.2 c6)
      obtain rfl := Option.some.inj H
      go_enter Tryd.func54, Tryd.ntmps54
      go_wp2_with (first | ((with_reducible refine gate_callee (f := 69) rfl ?_); refine goesL_ (some 6) rfl rfl Tryd.func69 (by kernel_rfl) rfl #[.int .i64 ji3] rfl (by (try simp only [List.map_toArray, List.map_cons, List.map_nil]); first | done | (simp only [hji3]; rfl) | rfl | (simp only [List.length_drop, List.length_take]; rfl)) ?_; (with_reducible refine (strconv_Itoa.calls ji3 t106 _ ?side1 A4.out).mono ?_); (case side1 => exact XTab.below HT.out (by repeat (first | (with_reducible first | exact HB.out | apply below_alloc | apply pw_below_drewN | apply below_drew1) | exact HB.out))); rintro e w7 ⟨rfl, hb⟩; refine ⟨_, rfl, ?_⟩; have n0_ := Aside0.mk (below_step (by repeat (first | (with_reducible first | exact HB.out | apply below_alloc | apply pw_below_drewN | apply below_drew1) | exact HB.out)) hb); clear HB; have HB := n0_; clear n0_; (try clear hb); (try clear hb2); (try clear hk); (try clear hi)))
      go_ret
      exact ⟨by first | rfl | (simp [errW_none, errW_some] <;> rfl) | (simp only [← hji2, ← hji3]; first | rfl | (simp [errW_none, errW_some] <;> rfl)) | (simp [*, errW_none, errW_some] <;> rfl), by repeat (first | (with_reducible first | exact HB.out | apply below_alloc | apply pw_below_drewN | apply below_drew1) | exact HB.out)⟩
    · rw [if_neg c6] at H
      exact absurd H (by simp)
  · rw [if_neg c5] at H
    exact absurd H (by simp)

end Go.Proofs.YtgcbnegdchladaaDoor.Y
namespace Go.Proofs.YtgcbnegdchladaaDoor.Y
open Go.RowKit Go.Proofs.YtgcbnegdchladaaDoorW.PrintWords Go.Proofs.YtgcbnegdchladaaDoorW.PrintLast Go.Proofs.YtgcbnegdchladaaDoorW.PrintMore
attribute [local go_sem] max2_int min2_int max_two min_two max_three min_three max_four min_four   -- for this text's walks alone
set_option linter.unusedVariables false
set_option linter.unusedSimpArgs false

/-! ### impl_MakeNumber: function 9 -/
def impl_MakeNumber.f (a0 : Int) (a1 : Int) : Option (ByteArray) := if a0 = 0 then ((xansi_CursorUp.f a1).bind fun t107 => (some t107)) else (if a0 = 1 then (none) else (if a0 = 2 then (none) else (if a0 = 3 then (none) else (if a0 = 4 then (none) else (if a0 = 5 then (none) else (if a0 = 6 then (none) else (if a0 = 7 then (none) else (if a0 = 8 then (none) else (if a0 = 9 then (none) else (if a0 = 10 then (none) else (if a0 = 11 then (none) else (if a0 = 12 then (none) else (if a0 = 13 then (none) else (if a0 = 14 then (none) else (if a0 = 15 then (none) else (if a0 = 16 then (none) else (if a0 = 17 then (none) else (if a0 = 18 then (none) else (if a0 = 19 then (none) else (if a0 = 20 then (none) else (if a0 = 21 then (none) else (if a0 = 22 then (none) else (if a0 = 23 then (none) else (if a0 = 24 then (none) else (if a0 = 25 then (none) else (if a0 = 26 then ((xansi_PushKittyKeyboard.f a1).bind fun t108 => (some t108)) else (if a0 = 27 then ((xansi_PopKittyKeyboard.f a1).bind fun t109 => (some t109)) else (if a0 = 28 then (none) else (if a0 = 29 then (none) else (if a0 = 30 then (none) else (if a0 = 31 then ((xansi_SetProgressBar.f a1).bind fun t110 => (some t110)) else (if a0 = 32 then ((xansi_SetErrorProgressBar.f a1).bind fun t111 => (some t111)) else (if a0 = 33 then ((xansi_SetWarningProgressBar.f a1).bind fun t112 => (some t112)) else (some (⟨#[]⟩ : ByteArray)))))))))))))))))))))))))))))))))))
set_option maxHeartbeats 8000000 in
set_option maxRecDepth 100000 in
theorem impl_MakeNumber.calls (a0 : Int) (a1 : Int) (r : ByteArray) (w : World) (hT : XTab w) (h : impl_MakeNumber.f a0 a1 = some r) :
    Calls Tryd.prog 9 #[.int .i64 a0, .int .i64 a1] w fun e w' => e = .returned (.string r) ∧ Below w.heap.size w w' := by
  have HT := Aside0.mk hT
  clear hT
  have HB := Aside0.mk (Below.refl w.heap.size w)
  have H : (if a0 = 0 then ((xansi_CursorUp.f a1).bind fun t107 => (some t107)) else (if a0 = 1 then (none) else (if a0 = 2 then (none) else (if a0 = 3 then (none) else (if a0 = 4 then (none) else (if a0 = 5 then (none) else (if a0 = 6 then (none) else (if a0 = 7 then (none) else (if a0 = 8 then (none) else (if a0 = 9 then (none) else (if a0 = 10 then (none) else (if a0 = 11 then (none) else (if a0 = 12 then (none) else (if a0 = 13 then (none) else (if a0 = 14 then (none) else (if a0 = 15 then (none) else (if a0 = 16 then (none) else (if a0 = 17 then (none) else (if a0 = 18 then (none) else (if a0 = 19 then (none) else (if a0 = 20 then (none) else (if a0 = 21 then (none) else (if a0 = 22 then (none) else (if a0 = 23 then (none) else (if a0 = 24 then (none) else (if a0 = 25 then (none) else (if a0 = 26 then ((xansi_PushKittyKeyboard.f a1).bind fun t108 => (some t108)) else (if a0 = 27 then ((xansi_PopKittyKeyboard.f a1).bind fun t109 => (some t109)) else (if a0 = 28 then (none) else (if a0 = 29 then (none) else (if a0 = 30 then (none) else (if a0 = 31 then ((xansi_SetProgressBar.f a1).bind fun t110 => (some t110)) else (if a0 = 32 then ((xansi_SetErrorProgressBar.f a1).bind fun t111 => (some t111)) else (if a0 = 33 then ((xansi_SetWarningProgressBar.f a1).bind fun t112 => (some t112)) else (some (⟨#[]⟩ : ByteArray)))))))))))))))))))))))))))))))))))) = some r := h
  clear h
  by_cases c3 : a0 = 0
  · rw [if_pos c3] at H
    have c3b0 : (a0 == 0) = true := beq_iff_eq.mpr c3
    have c3b1 : (a0 != 0) = false := bne_eq_false_iff_eq.mpr c3
    clear c3
    replace H := Option.bind_eq_some_iff.mp H
    obtain ⟨t107, A40, H⟩ := H
    replace H : (some t107) = some r := H
    have A4 := Aside0.mk A40
    clear A40
    obtain rfl := Option.some.inj H
    go_enter Tryd.func9, Tryd.ntmps9
    go_wp2_with (first | ((with_reducible refine gate_callee (f := 21) rfl ?_); refine goesL_ (some 11) rfl rfl Tryd.func21 (by kernel_rfl) rfl #[.int .i64 a1] rfl (by (try simp only [List.map_toArray, List.map_cons, List.map_nil]); first | done | rfl | (simp only [List.length_drop, List.length_take]; rfl)) ?_; (with_reducible refine (xansi_CursorUp.calls a1 t107 _ ?side1 A4.out).mono ?_); (case side1 => exact XTab.below HT.out (by repeat (first | (with_reducible first | exact HB.out | apply below_alloc | apply pw_below_drewN | apply below_drew1) | exact HB.out))); rintro e w5 ⟨rfl, hb⟩; refine ⟨_, rfl, ?_⟩; have n0_ := Aside0.mk (below_step (by repeat (first | (with_reducible first | exact HB.out | apply below_alloc | apply pw_below_drewN | apply below_drew1) | exact HB.out)) hb); clear HB; have HB := n0_; clear n0_; (try clear hb); (try clear hb2); (try clear hk); (try clear hi)))
    go_ret
    exact ⟨by first | rfl | (simp [errW_none, errW_some] <;> rfl) | (simp [*, errW_none, errW_some] <;> rfl), by repeat (first | (with_reducible first | exact HB.out | apply below_alloc | apply pw_below_drewN | apply below_drew1) | exact HB.out)⟩
  · rw [if_neg c3] at H
    have c3b0 : (a0 == 0) = false := beq_eq_false_iff_ne.mpr c3
    have c3b1 : (a0 != 0) = true := bne_iff_ne.mpr c3
    by_cases c6 : a0 = 1
    · rw [if_pos c6] at H
      exact absurd H (by simp)
    · rw [if_neg c6] at H
      have c6b0 : (a0 == 1) = false := beq_eq_false_iff_ne.mpr c6
      have c6b1 : (a0 != 1) = true := bne_iff_ne.mpr c6
      by_cases c7 : a0 = 2
      · rw [if_pos c7] at H
        exact absurd H (by simp)
      · rw [if_neg c7] at H
        have c7b0 : (a0 == 2) = false := beq_eq_false_iff_ne.mpr c7
        have c7b1 : (a0 != 2) = true := bne_iff_ne.mpr c7
        by_cases c8 : a0 = 3
        · rw [if_pos c8] at H
          exact absurd H (by simp)
        · rw [if_neg c8] at H
          have c8b0 : (a0 == 3) = false := beq_eq_false_iff_ne.mpr c8
          have c8b1 : (a0 != 3) = true := bne_iff_ne.mpr c8
          by_cases c9 : a0 = 4
          · rw [if_pos c9] at H
            exact absurd H (by simp)
          · rw [if_neg c9] at H
            have c9b0 : (a0 == 4) = false := beq_eq_false_iff_ne.mpr c9
            have c9b1 : (a0 != 4) = true := bne_iff_ne.mpr c9
            by_cases c10 : a0 = 5
            · rw [if_pos c10] at H
              exact absurd H (by simp)
            · rw [if_neg c10] at H
              have c10b0 : (a0 == 5) = false := beq_eq_false_iff_ne.mpr c10
              have c10b1 : (a0 != 5) = true := bne_iff_ne.mpr c10
              by_cases c11 : a0 = 6
              · rw [if_pos c11] at H
                exact absurd H (by simp)
              · rw [if_neg c11] at H
                have c11b0 : (a0 == 6) = false := beq_eq_false_iff_ne.mpr c11
                have c11b1 : (a0 != 6) = true := bne_iff_ne.mpr c11
                by_cases c12 : a0 = 7
                · rw [if_pos c12] at H
                  exact absurd H (by simp)
                · rw [if_neg c12] at H
                  have c12b0 : (a0 == 7) = false := beq_eq_false_iff_ne.mpr c12
                  have c12b1 : (a0 != 7) = true := bne_iff_ne.mpr c12
                  by_cases c13 : a0 = 8
                  · rw [if_pos c13] at H
                    exact absurd H (by simp)
                  · rw [if_neg c13] at H
                    have c13b0 : (a0 == 8) = false := beq_eq_false_iff_ne.mpr c13
                    have c13b1 : (a0 != 8) = true := bne_iff_ne.mpr c13
                    by_cases c14 : a0 = 9
                    · rw [if_pos c14] at H
                      exact absurd H (by simp)
                    · rw [if_neg c14] at H
                      have c14b0 : (a0 == 9) = false := beq_eq_false_iff_ne.mpr c14
                      have c14b1 : (a0 != 9) = true := bne_iff_ne.mpr c14
                      by_cases c15 : a0 = 10
                      · rw [if_pos c15] at H
                        exact absurd H (by simp)
                      · rw [if_neg c15] at H
                        have c15b0 : (a0 == 10) = false := beq_eq_false_iff_ne.mpr c15
                        have c15b1 : (a0 != 10) = true := bne_iff_ne.mpr c15
                        by_cases c16 : a0 = 11
                        · rw [if_pos c16] at H
                          exact absurd H (by simp)
                        · rw [if_neg c16] at H
                          have c16b0 : (a0 == 11) = false := beq_eq_false_iff_ne.mpr c16
                          have c16b1 : (a0 != 11) = true := bne_iff_ne.mpr c16
                          by_cases c17 : a0 = 12
                          · rw [if_pos c17] at H
                            exact absurd H (by simp)
                          · rw [if_neg c17] at H
                            have c17b0 : (a0 == 12) = false := beq_eq_false_iff_ne.mpr c17
                            have c17b1 : (a0 != 12) = true := bne_iff_ne.mpr c17
                            by_cases c18 : a0 = 13
                            · rw [if_pos c18] at H
                              exact absurd H (by simp)
                            · rw [if_neg c18] at H
                              have c18b0 : (a0 == 13) = false := beq_eq_false_iff_ne.mpr c18
                              have c18b1 : (a0 != 13) = true := bne_iff_ne.mpr c18
                              by_cases c19 : a0 = 14
                              · rw [if_pos c19] at H
                                exact absurd H (by simp)
                              · rw [if_neg c19] at H
                                have c19b0 : (a0 == 14) = false := beq_eq_false_iff_ne.mpr c19
                                have c19b1 : (a0 != 14) = true := bne_iff_ne.mpr c19
                                by_cases c20 : a0 = 15
                                · rw [if_pos c20] at H
                                  exact absurd H (by simp)
                                · rw [if_neg c20] at H
                                  have c20b0 : (a0 == 15) = false := beq_eq_false_iff_ne.mpr c20
                                  have c20b1 : (a0 != 15) = true := bne_iff_ne.mpr c20
                                  by_cases c21 : a0 = 16
                                  · rw [if_pos c21] at H
                                    exact absurd H (by simp)
                                  · rw [if_neg c21] at H
                                    have c21b0 : (a0 == 16) = false := beq_eq_false_iff_ne.mpr c21
                                    have c21b1 : (a0 != 16) = true := bne_iff_ne.mpr c21
                                    by_cases c22 : a0 = 17
                                    · rw [if_pos c22] at H
                                      exact absurd H (by simp)
                                    · rw [if_neg c22] at H
                                      have c22b0 : (a0 == 17) = false := beq_eq_false_iff_ne.mpr c22
                                      have c22b1 : (a0 != 17) = true := bne_iff_ne.mpr c22
                                      by_cases c23 : a0 = 18
                                      · rw [if_pos c23] at H
                                        exact absurd H (by simp)
                                      · rw [if_neg c23] at H
                                        have c23b0 : (a0 == 18) = false := beq_eq_false_iff_ne.mpr c23
                                        have c23b1 : (a0 != 18) = true := bne_iff_ne.mpr c23
                                        by_cases c24 : a0 = 19
                                        · rw [if_pos c24] at H
                                          exact absurd H (by simp)
                                        · rw [if_neg c24] at H
                                          have c24b0 : (a0 == 19) = false := beq_eq_false_iff_ne.mpr c24
                                          have c24b1 : (a0 != 19) = true := bne_iff_ne.mpr c24
                                          by_cases c25 : a0 = 20
                                          · rw [if_pos c25] at H
                                            exact absurd H (by simp)
                                          · rw [if_neg c25] at H
                                            have c25b0 : (a0 == 20) = false := beq_eq_false_iff_ne.mpr c25
                                            have c25b1 : (a0 != 20) = true := bne_iff_ne.mpr c25
                                            by_cases c26 : a0 = 21
                                            · rw [if_pos c26] at H
                                              exact absurd H (by simp)
                                            · rw [if_neg c26] at H
                                              have c26b0 : (a0 == 21) = false := beq_eq_false_iff_ne.mpr c26
                                              have c26b1 : (a0 != 21) = true := bne_iff_ne.mpr c26
                                              by_cases c27 : a0 = 22
                                              · rw [if_pos c27] at H
                                                exact absurd H (by simp)
                                              · rw [if_neg c27] at H
                                                have c27b0 : (a0 == 22) = false := beq_eq_false_iff_ne.mpr c27
                                                have c27b1 : (a0 != 22) = true := bne_iff_ne.mpr c27
                                                by_cases c28 : a0 = 23
                                                · rw [if_pos c28] at H
                                                  exact absurd H (by simp)
                                                · rw [if_neg c28] at H
                                                  have c28b0 : (a0 == 23) = false := beq_eq_false_iff_ne.mpr c28
                                                  have c28b1 : (a0 != 23) = true := bne_iff_ne.mpr c28
                                                  by_cases c29 : a0 = 24
                                                  · rw [if_pos c29] at H
                                                    exact absurd H (by simp)
                                                  · rw [if_neg c29] at H
                                                    have c29b0 : (a0 == 24) = false := beq_eq_false_iff_ne.mpr c29
                                                    have c29b1 : (a0 != 24) = true := bne_iff_ne.mpr c29
                                                    by_cases c30 : a0 = 25
                                                    · rw [if_pos c30] at H
                                                      exact absurd H (by simp)
                                                    · rw [if_neg c30] at H
                                                      have c30b0 : (a0 == 25) = false := beq_eq_false_iff_ne.mpr c30
                                                      have c30b1 : (a0 != 25) = true := bne_iff_ne.mpr c30
                                                      by_cases c31 : a0 = 26
                                                      · rw [if_pos c31] at H
                                                        have c31b0 : (a0 == 26) = true := beq_iff_eq.mpr c31
                                                        have c31b1 : (a0 != 26) = false := bne_eq_false_iff_eq.mpr c31
                                                        clear c31
                                                        replace H := Option.bind_eq_some_iff.mp H
                                                        obtain ⟨t108, A320, H⟩ := H
                                                        replace H : (some t108) = some r := H
                                                        have A32 := Aside0.mk A320
                                                        clear A320
                                                        obtain rfl := Option.some.inj H
                                                        go_enter Tryd.func9, Tryd.ntmps9
                                                        go_wp2_with (first | ((with_reducible refine gate_callee (f := 47) rfl ?_); refine goesL_ (some 115) rfl rfl Tryd.func47 (by kernel_rfl) rfl #[.int .i64 a1] rfl (by (try simp only [List.map_toArray, List.map_cons, List.map_nil]); first | done | rfl | (simp only [List.length_drop, List.length_take]; rfl)) ?_; (with_reducible refine (xansi_PushKittyKeyboard.calls a1 t108 _ ?side1 A32.out).mono ?_); (case side1 => exact XTab.below HT.out (by repeat (first | (with_reducible first | exact HB.out | apply below_alloc | apply pw_below_drewN | apply below_drew1) | exact HB.out))); rintro e w33 ⟨rfl, hb⟩; refine ⟨_, rfl, ?_⟩; have n0_ := Aside0.mk (below_step (by repeat (first | (with_reducible first | exact HB.out | apply below_alloc | apply pw_below_drewN | apply below_drew1) | exact HB.out)) hb); clear HB; have HB := n0_; clear n0_; (try clear hb); (try clear hb2); (try clear hk); (try clear hi)))
                                                        go_ret
                                                        exact ⟨by first | rfl | (simp [errW_none, errW_some] <;> rfl) | (simp [*, errW_none, errW_some] <;> rfl), by repeat (first | (with_reducible first | exact HB.out | apply below_alloc | apply pw_below_drewN | apply below_drew1) | exact HB.out)⟩
                                                      · rw [if_neg c31] at H
                                                        have c31b0 : (a0 == 26) = false := beq_eq_false_iff_ne.mpr c31
                                                        have c31b1 : (a0 != 26) = true := bne_iff_ne.mpr c31
                                                        by_cases c34 : a0 = 27
                                                        · rw [if_pos c34] at H
                                                          have c34b0 : (a0 == 27) = true := beq_iff_eq.mpr c34
                                                          have c34b1 : (a0 != 27) = false := bne_eq_false_iff_eq.mpr c34
                                                          clear c34
                                                          replace H := Option.bind_eq_some_iff.mp H
                                                          obtain ⟨t109, A350, H⟩ := H
                                                          replace H : (some t109) = some r := H
                                                          have A35 := Aside0.mk A350
                                                          clear A350
                                                          obtain rfl := Option.some.inj H
                                                          go_enter Tryd.func9, Tryd.ntmps9
                                                          go_wp2_with (first | ((with_reducible refine gate_callee (f := 48) rfl ?_); refine goesL_ (some 119) rfl rfl Tryd.func48 (by kernel_rfl) rfl #[.int .i64 a1] rfl (by (try simp only [List.map_toArray, List.map_cons, List.map_nil]); first | done | rfl | (simp only [List.length_drop, List.length_take]; rfl)) ?_; (with_reducible refine (xansi_PopKittyKeyboard.calls a1 t109 _ ?side1 A35.out).mono ?_); (case side1 => exact XTab.below HT.out (by repeat (first | (with_reducible first | exact HB.out | apply below_alloc | apply pw_below_drewN | apply below_drew1) | exact HB.out))); rintro e w36 ⟨rfl, hb⟩; refine ⟨_, rfl, ?_⟩; have n0_ := Aside0.mk (below_step (by repeat (first | (with_reducible first | exact HB.out | apply below_alloc | apply pw_below_drewN | apply below_drew1) | exact HB.out)) hb); clear HB; have HB := n0_; clear n0_; (try clear hb); (try clear hb2); (try clear hk); (try clear hi)))
                                                          go_ret
                                                          exact ⟨by first | rfl | (simp [errW_none, errW_some] <;> rfl) | (simp [*, errW_none, errW_some] <;> rfl), by repeat (first | (with_reducible first | exact HB.out | apply below_alloc | apply pw_below_drewN | apply below_drew1) | exact HB.out)⟩
                                                        · rw [if_neg c34] at H
                                                          have c34b0 : (a0 == 27) = false := beq_eq_false_iff_ne.mpr c34
                                                          have c34b1 : (a0 != 27) = true := bne_iff_ne.mpr c34
                                                          by_cases c37 : a0 = 28
                                                          · rw [if_pos c37] at H
                                                            exact absurd H (by simp)
                                                          · rw [if_neg c37] at H
                                                            have c37b0 : (a0 == 28) = false := beq_eq_false_iff_ne.mpr c37
                                                            have c37b1 : (a0 != 28) = true := bne_iff_ne.mpr c37
                                                            by_cases c38 : a0 = 29
                                                            · rw [if_pos c38] at H
                                                              exact absurd H (by simp)
                                                            · rw [if_neg c38] at H
                                                              have c38b0 : (a0 == 29) = false := beq_eq_false_iff_ne.mpr c38
                                                              have c38b1 : (a0 != 29) = true := bne_iff_ne.mpr c38
                                                              by_cases c39 : a0 = 30
                                                              · rw [if_pos c39] at H
                                                                exact absurd H (by simp)
                                                              · rw [if_neg c39] at H
                                                                have c39b0 : (a0 == 30) = false := beq_eq_false_iff_ne.mpr c39
                                                                have c39b1 : (a0 != 30) = true := bne_iff_ne.mpr c39
                                                                by_cases c40 : a0 = 31
                                                                · rw [if_pos c40] at H
                                                                  have c40b0 : (a0 == 31) = true := beq_iff_eq.mpr c40
                                                                  have c40b1 : (a0 != 31) = false := bne_eq_false_iff_eq.mpr c40
                                                                  clear c40
                                                                  replace H := Option.bind_eq_some_iff.mp H
                                                                  obtain ⟨t110, A410, H⟩ := H
                                                                  replace H : (some t110) = some r := H
                                                                  have A41 := Aside0.mk A410
                                                                  clear A410
                                                                  obtain rfl := Option.some.inj H
                                                                  go_enter Tryd.func9, Tryd.ntmps9
                                                                  go_wp2_with (first | ((with_reducible refine gate_callee (f := 52) rfl ?_); refine goesL_ (some 135) rfl rfl Tryd.func52 (by kernel_rfl) rfl #[.int .i64 a1] rfl (by (try simp only [List.map_toArray, List.map_cons, List.map_nil]); first | done | rfl | (simp only [List.length_drop, List.length_take]; rfl)) ?_; (with_reducible refine (xansi_SetProgressBar.calls a1 t110 _ ?side1 A41.out).mono ?_); (case side1 => exact XTab.below HT.out (by repeat (first | (with_reducible first | exact HB.out | apply below_alloc | apply pw_below_drewN | apply below_drew1) | exact HB.out))); rintro e w42 ⟨rfl, hb⟩; refine ⟨_, rfl, ?_⟩; have n0_ := Aside0.mk (below_step (by repeat (first | (with_reducible first | exact HB.out | apply below_alloc | apply pw_below_drewN | apply below_drew1) | exact HB.out)) hb); clear HB; have HB := n0_; clear n0_; (try clear hb); (try clear hb2); (try clear hk); (try clear hi)))
                                                                  go_ret
                                                                  exact ⟨by first | rfl | (simp [errW_none, errW_some] <;> rfl) | (simp [*, errW_none, errW_some] <;> rfl), by repeat (first | (with_reducible first | exact HB.out | apply below_alloc | apply pw_below_drewN | apply below_drew1) | exact HB.out)⟩
                                                                · rw [if_neg c40] at H
                                                                  have c40b0 : (a0 == 31) = false := beq_eq_false_iff_ne.mpr c40
                                                                  have c40b1 : (a0 != 31) = true := bne_iff_ne.mpr c40
                                                                  by_cases c43 : a0 = 32
                                                                  · rw [if_pos c43] at H
                                                                    have c43b0 : (a0 == 32) = true := beq_iff_eq.mpr c43
                                                                    have c43b1 : (a0 != 32) = false := bne_eq_false_iff_eq.mpr c43
                                                                    clear c43
                                                                    replace H := Option.bind_eq_some_iff.mp H
                                                                    obtain ⟨t111, A440, H⟩ := H
                                                                    replace H : (some t111) = some r := H
                                                                    have A44 := Aside0.mk A440
                                                                    clear A440
                                                                    obtain rfl := Option.some.inj H
                                                                    go_enter Tryd.func9, Tryd.ntmps9
                                                                    go_wp2_with (first | ((with_reducible refine gate_callee (f := 53) rfl ?_); refine goesL_ (some 139) rfl rfl Tryd.func53 (by kernel_rfl) rfl #[.int .i64 a1] rfl (by (try simp only [List.map_toArray, List.map_cons, List.map_nil]); first | done | rfl | (simp only [List.length_drop, List.length_take]; rfl)) ?_; (with_reducible refine (xansi_SetErrorProgressBar.calls a1 t111 _ ?side1 A44.out).mono ?_); (case side1 => exact XTab.below HT.out (by repeat (first | (with_reducible first | exact HB.out | apply below_alloc | apply pw_below_drewN | apply below_drew1) | exact HB.out))); rintro e w45 ⟨rfl, hb⟩; refine ⟨_, rfl, ?_⟩; have n0_ := Aside0.mk (below_step (by repeat (first | (with_reducible first | exact HB.out | apply below_alloc | apply pw_below_drewN | apply below_drew1) | exact HB.out)) hb); clear HB; have HB := n0_; clear n0_; (try clear hb); (try clear hb2); (try clear hk); (try clear hi)))
                                                                    go_ret
                                                                    exact ⟨by first | rfl | (simp [errW_none, errW_some] <;> rfl) | (simp [*, errW_none, errW_some] <;> rfl), by repeat (first | (with_reducible first | exact HB.out | apply below_alloc | apply pw_below_drewN | apply below_drew1) | exact HB.out)⟩
                                                                  · rw [if_neg c43] at H
                                                                    have c43b0 : (a0 == 32) = false := beq_eq_false_iff_ne.mpr c43
                                                                    have c43b1 : (a0 != 32) = true := bne_iff_ne.mpr c43
                                                                    by_cases c46 : a0 = 33
                                                                    · rw [if_pos c46] at H
                                                                      have c46b0 : (a0 == 33) = true := beq_iff_eq.mpr c46
                                                                      have c46b1 : (a0 != 33) = false := bne_eq_false_iff_eq.mpr c46
                                                                      clear c46
                                                                      replace H := Option.bind_eq_some_iff.mp H
                                                                      obtain ⟨t112, A470, H⟩ := H
                                                                      replace H : (some t112) = some r := H
                                                                      have A47 := Aside0.mk A470
                                                                      clear A470
                                                                      obtain rfl := Option.some.inj H
                                                                      go_enter Tryd.func9, Tryd.ntmps9
                                                                      go_wp2_with (first | ((with_reducible refine gate_callee (f := 54) rfl ?_); refine goesL_ (some 143) rfl rfl Tryd.func54 (by kernel_rfl) rfl #[.int .i64 a1] rfl (by (try simp only [List.map_toArray, List.map_cons, List.map_nil]); first | done | rfl | (simp only [List.length_drop, List.length_take]; rfl)) ?_; (with_reducible refine (xansi_SetWarningProgressBar.calls a1 t112 _ ?side1 A47.out).mono ?_); (case side1 => exact XTab.below HT.out (by repeat (first | (with_reducible first | exact HB.out | apply below_alloc | apply pw_below_drewN | apply below_drew1) | exact HB.out))); rintro e w48 ⟨rfl, hb⟩; refine ⟨_, rfl, ?_⟩; have n0_ := Aside0.mk (below_step (by repeat (first | (with_reducible first | exact HB.out | apply below_alloc | apply pw_below_drewN | apply below_drew1) | exact HB.out)) hb); clear HB; have HB := n0_; clear n0_; (try clear hb); (try clear hb2); (try clear hk); (try clear hi)))
                                                                      go_ret
                                                                      exact ⟨by first | rfl | (simp [errW_none, errW_some] <;> rfl) | (simp [*, errW_none, errW_some] <;> rfl), by repeat (first | (with_reducible first | exact HB.out | apply below_alloc | apply pw_below_drewN | apply below_drew1) | exact HB.out)⟩
                                                                    · rw [if_neg c46] at H
                                                                      have c46b0 : (a0 == 33) = false := beq_eq_false_iff_ne.mpr c46
                                                                      have c46b1 : (a0 != 33) = true := bne_iff_ne.mpr c46
                                                                      obtain rfl := Option.some.inj H
                                                                      go_enter Tryd.func9, Tryd.ntmps9
                                                                      go_wp2
                                                                      go_ret
                                                                      exact ⟨by first | rfl | (simp [errW_none, errW_some] <;> rfl) | (simp [*, errW_none, errW_some] <;> rfl), by repeat (first | (with_reducible first | exact HB.out | apply below_alloc | apply pw_below_drewN | apply below_drew1) | exact HB.out)⟩

end Go.Proofs.YtgcbnegdchladaaDoor.Y
namespace Go.Proofs.YtgcbnegdchladaaDoor.Y
open Go.RowKit Go.Proofs.YtgcbnegdchladaaDoorW.PrintWords Go.Proofs.YtgcbnegdchladaaDoorW.PrintLast Go.Proofs.YtgcbnegdchladaaDoorW.PrintMore
attribute [local go_sem] max2_int min2_int max_two min_two max_three min_three max_four min_four   -- for this text's walks alone
set_option linter.unusedVariables false
set_option linter.unusedSimpArgs false

/-! ### laws_drawAwake: function 8 -/
def laws_drawAwake.f  : Option (Bool) := (impl_MakeNumber.f 0 3).bind fun t113 => ((gosem_conv.f t113).bind fun t114 => ((impl_Feed.f 32 4096 t114).bind fun t117 => (if (t117.length : Int) = 1 then (if 0 < (t117.length : Int) then (if ((rd_T36 t117 0).f0) = 2 then (some (((rd_T36 t117 0).f3) == 65)) else (some false)) else (none)) else (some false))))
set_option maxHeartbeats 8000000 in
set_option maxRecDepth 100000 in
theorem laws_drawAwake.calls  (r : Bool) (w : World) (hT : XTab w) (h : laws_drawAwake.f  = some r) :
    Calls Tryd.prog 8 #[] w fun e w' => e = .returned (.bool r) ∧ Below w.heap.size w w' := by
  have HT := Aside0.mk hT
  clear hT
  have HB := Aside0.mk (Below.refl w.heap.size w)
  have H : ((impl_MakeNumber.f 0 3).bind fun t113 => ((gosem_conv.f t113).bind fun t114 => ((impl_Feed.f 32 4096 t114).bind fun t117 => (if (t117.length : Int) = 1 then (if 0 < (t117.length : Int) then (if ((rd_T36 t117 0).f0) = 2 then (some (((rd_T36 t117 0).f3) == 65)) else (some false)) else (none)) else (some false))))) = some r := h
  clear h
  replace H := Option.bind_eq_some_iff.mp H
  obtain ⟨t113, A10, H⟩ := H
  replace H : ((gosem_conv.f t113).bind fun t114 => ((impl_Feed.f 32 4096 t114).bind fun t117 => (if (t117.length : Int) = 1 then (if 0 < (t117.length : Int) then (if ((rd_T36 t117 0).f0) = 2 then (some (((rd_T36 t117 0).f3) == 65)) else (some false)) else (none)) else (some false)))) = some r := H
  have A1 := Aside0.mk A10
  clear A10
  replace H := Option.bind_eq_some_iff.mp H
  obtain ⟨t114, A20, H⟩ := H
  replace H : ((impl_Feed.f 32 4096 t114).bind fun t117 => (if (t117.length : Int) = 1 then (if 0 < (t117.length : Int) then (if ((rd_T36 t117 0).f0) = 2 then (some (((rd_T36 t117 0).f3) == 65)) else (some false)) else (none)) else (some false))) = some r := H
  have A2 := Aside0.mk A20
  clear A20
  replace H := Option.bind_eq_some_iff.mp H
  obtain ⟨t117, A30, H⟩ := H
  replace H : (if (t117.length : Int) = 1 then (if 0 < (t117.length : Int) then (if ((rd_T36 t117 0).f0) = 2 then (some (((rd_T36 t117 0).f3) == 65)) else (some false)) else (none)) else (some false)) = some r := H
  have A3 := Aside0.mk A30
  clear A30
  by_cases c4 : (t117.length : Int) = 1
  · rw [if_pos c4] at H
    have c4b0 : ((t117.length : Int) == 1) = true := beq_iff_eq.mpr c4
    have c4b1 : ((t117.length : Int) != 1) = false := bne_eq_false_iff_eq.mpr c4
    clear c4
    by_cases c5 : 0 < (t117.length : Int)
    · rw [if_pos c5] at H
      have c5b0 : decide (0 < (t117.length : Int)) = true := decide_eq_true c5
      have c5b1 : decide (0 < t117.length) = true := decide_eq_true (by omega)
      clear c5
      by_cases c6 : ((rd_T36 t117 0).f0) = 2
      · rw [if_pos c6] at H
        have c6b0 : (((rd_T36 t117 0).f0) == 2) = true := beq_iff_eq.mpr c6
        have c6b1 : (((rd_T36 t117 0).f0) != 2) = false := bne_eq_false_iff_eq.mpr c6
        clear c6
        obtain rfl := Option.some.inj H
        go_enter Tryd.func8, Tryd.ntmps8
        go_wp2_with (first | ((with_reducible refine gate_callee (f := 9) rfl ?_); refine goesL_ (some 2) rfl rfl Tryd.func9 (by kernel_rfl) rfl #[.int .i64 0, .int .i64 3] rfl (by (try simp only [List.map_toArray, List.map_cons, List.map_nil]); first | done | rfl | (simp only [List.length_drop, List.length_take]; rfl)) ?_; (with_reducible refine (impl_MakeNumber.calls 0 3 t113 _ ?side1 A1.out).mono ?_); (case side1 => exact XTab.below HT.out (by repeat (first | (with_reducible first | exact HB.out | apply below_alloc | apply pw_below_drewN | apply below_drew1) | exact HB.out))); rintro e w7 ⟨rfl, hb⟩; refine ⟨_, rfl, ?_⟩; have n0_ := Aside0.mk (below_step (by repeat (first | (with_reducible first | exact HB.out | apply below_alloc | apply pw_below_drewN | apply below_drew1) | exact HB.out)) hb); clear HB; have HB := n0_; clear n0_; (try clear hb); (try clear hb2); (try clear hk); (try clear hi)) | ((with_reducible refine gate_dst (N := 3) rfl ?_); refine conv_ev 9 32 5 rfl rfl Tryd.underlying9 Tryd.underlying32 Tryd.underlying5 t113 rfl A2.out ?_; rintro e w8 ⟨v115, rfl, ho0, hb⟩; refine ⟨_, rfl, ?_⟩; have n0_ := Aside0.mk (Kd.V_lower (Kd.V_mono (ok' := fun k_ => True) ho0 (fun k_ hk_ => trivial)) (below_size (by repeat (first | (with_reducible first | exact HB.out | apply below_alloc | apply pw_below_drewN | apply below_drew1) | exact HB.out)))); have n1_ := Aside0.mk (below_step (by repeat (first | (with_reducible first | exact HB.out | apply below_alloc | apply pw_below_drewN | apply below_drew1) | exact HB.out)) hb); clear HB; have HO116 := n0_; have HB := n1_; clear n0_ n1_; (try clear hb); (try clear hb2); (try clear hk); (try clear hi); (try clear ho0); obtain ⟨Ao9, co9, eo9⟩ := Kd.V_slice HO116.out; subst eo9) | ((with_reducible refine gate_callee (f := 13) rfl ?_); refine goesL_ (some 4) rfl rfl Tryd.func13 (by kernel_rfl) rfl #[.int .i64 32, .int .i64 4096, .slice Ao9 t114.length co9] rfl (by (try simp only [List.map_toArray, List.map_cons, List.map_nil]); first | done | rfl | (simp only [List.length_drop, List.length_take]; rfl)) ?_; (with_reducible refine (impl_Feed.calls 32 4096 _ _ t114 t117 _ ?side1 ?side2 A3.out).mono ?_); (case side1 => repeat (first | exact (Kd.V_reads' HO116.out).2.2 | (with_reducible refine Kd.C_alloc ?_ _) | (with_reducible refine Kd.C_drewN ?_ _) | (with_reducible refine Kd.C_drew ?_))); (case side2 => exact (Kd.V_reads' HO116.out).2.1); rintro e w10 ⟨v118, rfl, ho0, hb⟩; refine ⟨_, rfl, ?_⟩; have n0_ := Aside0.mk (Kd.V_elder' (by (with_reducible repeat (first | apply Kd.V_alloc | apply Kd.V_drewN | apply Kd.V_drew)); exact HO116.out) (Kd.S_base ho0) hb); have n1_ := Aside0.mk (Kd.S_lower ho0 (below_size (by repeat (first | (with_reducible first | exact HB.out | apply below_alloc | apply pw_below_drewN | apply below_drew1) | exact HB.out)))); have n2_ := Aside0.mk (below_step (by repeat (first | (with_reducible first | exact HB.out | apply below_alloc | apply pw_below_drewN | apply below_drew1) | exact HB.out)) hb); clear HO116; clear HB; have HO116 := n0_; have HO119 := n1_; have HB := n2_; clear n0_ n1_ n2_; (try clear hb); (try clear hb2); (try clear hk); (try clear hi); (try clear ho0); obtain ⟨Ao11, co11, eo11⟩ := Kd.S_slice HO119.out; subst eo11; have p120 : 0 ≤ (0 : Int) := (by omega); have q120 : 0 < (t117.length : Int) := of_decide_eq_true (by first | (with_reducible assumption) | assumption); obtain ⟨ad120, A120_4, c120_4, A120_5, c120_5, e120, hx120_0, hx120_1, hx120_2, hx120_3, hx120_4, hx120_5, hl120_4, hi120_4, hl120_5, hi120_5⟩ := at_T36 (Kd.S_reads' HO119.out).2.2 0 p120 q120; cases e120; obtain ⟨ce120, hce120, hMe120, hcc120⟩ := Kd.S_get HO119.out z36 0 p120 (by first | exact q120 | exact of_decide_eq_true (by first | (with_reducible assumption) | assumption) | (have e_ := (Kd.S_reads' HO119.out).1; omega)); obtain ⟨ve120_4, ve120_5, rfl, ge120_4, ge120_5⟩ := k36_openM hMe120; have hv120_4 := hcc120 4 _ rfl; rw [add_field _ _ 4 (by omega)] at hv120_4; replace hv120_4 := Option.some.inj (hv120_4.symm.trans hx120_4); rw [hv120_4] at ge120_4; have HL120_4 := Aside0.mk (show Kd.R (Kd.int .i64) 2 _ _ _ _ ((rd_T36 t117 0).f4) from ge120_4); clear hv120_4 ge120_4; have hv120_5 := hcc120 5 _ rfl; rw [add_field _ _ 5 (by omega)] at hv120_5; replace hv120_5 := Option.some.inj (hv120_5.symm.trans hx120_5); rw [hv120_5] at ge120_5; have HL120_5 := Aside0.mk (show Kd.R (Kd.int .u8) 5 _ _ _ _ ((rd_T36 t117 0).f5) from ge120_5); clear hv120_5 ge120_5; clear hcc120 hce120; have qi120 : (0 < t117.length) = True := eq_true (by omega); (try rw [show ((0 : Int)).toNat = 0 from rfl] at hx120_0); (try rw [show 0 * 6 = 0 from rfl] at hx120_0); (try rw [Addr.add_zero'] at hx120_0); (try rw [show ((0 : Int)).toNat = 0 from rfl] at hx120_1); (try rw [show 0 * 6 = 0 from rfl] at hx120_1); (try rw [Addr.add_zero'] at hx120_1); (try rw [show ((0 : Int)).toNat = 0 from rfl] at hx120_2); (try rw [show 0 * 6 = 0 from rfl] at hx120_2); (try rw [Addr.add_zero'] at hx120_2); (try rw [show ((0 : Int)).toNat = 0 from rfl] at hx120_3); (try rw [show 0 * 6 = 0 from rfl] at hx120_3); (try rw [Addr.add_zero'] at hx120_3); (try rw [show ((0 : Int)).toNat = 0 from rfl] at hx120_4); (try rw [show 0 * 6 = 0 from rfl] at hx120_4); (try rw [Addr.add_zero'] at hx120_4); (try rw [show ((0 : Int)).toNat = 0 from rfl] at hx120_5); (try rw [show 0 * 6 = 0 from rfl] at hx120_5); (try rw [Addr.add_zero'] at hx120_5); have HR120_4 := Aside0.mk hi120_4; have HC120_4 := Aside0.mk hl120_4; clear hi120_4 hl120_4; have HR120_5 := Aside0.mk hi120_5; have HC120_5 := Aside0.mk hl120_5; clear hi120_5 hl120_5; replace p120 := eq_true p120; replace q120 := eq_true q120; have p121 : 0 ≤ (0 : Int) := (by omega); have q121 : 0 < (t117.length : Int) := of_decide_eq_true (by first | (with_reducible assumption) | assumption); obtain ⟨ad121, A121_4, c121_4, A121_5, c121_5, e121, hx121_0, hx121_1, hx121_2, hx121_3, hx121_4, hx121_5, hl121_4, hi121_4, hl121_5, hi121_5⟩ := at_T36 (Kd.S_reads' HO119.out).2.2 0 p121 q121; obtain rfl : ad120 = ad121 := (by injection e121); obtain ⟨ce121, hce121, hMe121, hcc121⟩ := Kd.S_get HO119.out z36 0 p121 (by first | exact q121 | exact of_decide_eq_true (by first | (with_reducible assumption) | assumption) | (have e_ := (Kd.S_reads' HO119.out).1; omega)); obtain ⟨ve121_4, ve121_5, rfl, ge121_4, ge121_5⟩ := k36_openM hMe121; have hv121_4 := hcc121 4 _ rfl; rw [add_field _ _ 4 (by omega)] at hv121_4; replace hv121_4 := Option.some.inj (hv121_4.symm.trans hx121_4); rw [hv121_4] at ge121_4; have HL121_4 := Aside0.mk (show Kd.R (Kd.int .i64) 2 _ _ _ _ ((rd_T36 t117 0).f4) from ge121_4); clear hv121_4 ge121_4; have hv121_5 := hcc121 5 _ rfl; rw [add_field _ _ 5 (by omega)] at hv121_5; replace hv121_5 := Option.some.inj (hv121_5.symm.trans hx121_5); rw [hv121_5] at ge121_5; have HL121_5 := Aside0.mk (show Kd.R (Kd.int .u8) 5 _ _ _ _ ((rd_T36 t117 0).f5) from ge121_5); clear hv121_5 ge121_5; clear hcc121 hce121; have qi121 : (0 < t117.length) = True := eq_true (by omega); (try rw [show ((0 : Int)).toNat = 0 from rfl] at hx121_0); (try rw [show 0 * 6 = 0 from rfl] at hx121_0); (try rw [Addr.add_zero'] at hx121_0); (try rw [show ((0 : Int)).toNat = 0 from rfl] at hx121_1); (try rw [show 0 * 6 = 0 from rfl] at hx121_1); (try rw [Addr.add_zero'] at hx121_1); (try rw [show ((0 : Int)).toNat = 0 from rfl] at hx121_2); (try rw [show 0 * 6 = 0 from rfl] at hx121_2); (try rw [Addr.add_zero'] at hx121_2); (try rw [show ((0 : Int)).toNat = 0 from rfl] at hx121_3); (try rw [show 0 * 6 = 0 from rfl] at hx121_3); (try rw [Addr.add_zero'] at hx121_3); (try rw [show ((0 : Int)).toNat = 0 from rfl] at hx121_4); (try rw [show 0 * 6 = 0 from rfl] at hx121_4); (try rw [Addr.add_zero'] at hx121_4); (try rw [show ((0 : Int)).toNat = 0 from rfl] at hx121_5); (try rw [show 0 * 6 = 0 from rfl] at hx121_5); (try rw [Addr.add_zero'] at hx121_5); have HR121_4 := Aside0.mk hi121_4; have HC121_4 := Aside0.mk hl121_4; clear hi121_4 hl121_4; have HR121_5 := Aside0.mk hi121_5; have HC121_5 := Aside0.mk hl121_5; clear hi121_5 hl121_5; replace p121 := eq_true p121; replace q121 := eq_true q121; have ea_ := Option.some.inj (hx120_4.symm.trans hx121_4); injection ea_ with ea_ en_ ec_; subst ea_; subst ec_; clear en_; have ea_ := Option.some.inj (hx120_5.symm.trans hx121_5); injection ea_ with ea_ en_ ec_; subst ea_; subst ec_; clear en_))
        go_ret
        exact ⟨by first | rfl | (simp [errW_none, errW_some] <;> rfl) | (simp [*, errW_none, errW_some] <;> rfl), by repeat (first | (with_reducible first | exact HB.out | apply below_alloc | apply pw_below_drewN | apply below_drew1) | exact HB.out)⟩
      · rw [if_neg c6] at H
        have c6b0 : (((rd_T36 t117 0).f0) == 2) = false := beq_eq_false_iff_ne.mpr c6
        have c6b1 : (((rd_T36 t117 0).f0) != 2) = true := bne_iff_ne.mpr c6
        obtain rfl := Option.some.inj H
        go_enter Tryd.func8, Tryd.ntmps8
        go_wp2_with (first | ((with_reducible refine gate_callee (f := 9) rfl ?_); refine goesL_ (some 2) rfl rfl Tryd.func9 (by kernel_rfl) rfl #[.int .i64 0, .int .i64 3] rfl (by (try simp only [List.map_toArray, List.map_cons, List.map_nil]); first | done | rfl | (simp only [List.length_drop, List.length_take]; rfl)) ?_; (with_reducible refine (impl_MakeNumber.calls 0 3 t113 _ ?side1 A1.out).mono ?_); (case side1 => exact XTab.below HT.out (by repeat (first | (with_reducible first | exact HB.out | apply below_alloc | apply pw_below_drewN | apply below_drew1) | exact HB.out))); rintro e w12 ⟨rfl, hb⟩; refine ⟨_, rfl, ?_⟩; have n0_ := Aside0.mk (below_step (by repeat (first | (with_reducible first | exact HB.out | apply below_alloc | apply pw_below_drewN | apply below_drew1) | exact HB.out)) hb); clear HB; have HB := n0_; clear n0_; (try clear hb); (try clear hb2); (try clear hk); (try clear hi)) | ((with_reducible refine gate_dst (N := 3) rfl ?_); refine conv_ev 9 32 5 rfl rfl Tryd.underlying9 Tryd.underlying32 Tryd.underlying5 t113 rfl A2.out ?_; rintro e w13 ⟨v115, rfl, ho0, hb⟩; refine ⟨_, rfl, ?_⟩; have n0_ := Aside0.mk (Kd.V_lower (Kd.V_mono (ok' := fun k_ => True) ho0 (fun k_ hk_ => trivial)) (below_size (by repeat (first | (with_reducible first | exact HB.out | apply below_alloc | apply pw_below_drewN | apply below_drew1) | exact HB.out)))); have n1_ := Aside0.mk (below_step (by repeat (first | (with_reducible first | exact HB.out | apply below_alloc | apply pw_below_drewN | apply below_drew1) | exact HB.out)) hb); clear HB; have HO116 := n0_; have HB := n1_; clear n0_ n1_; (try clear hb); (try clear hb2); (try clear hk); (try clear hi); (try clear ho0); obtain ⟨Ao14, co14, eo14⟩ := Kd.V_slice HO116.out; subst eo14) | ((with_reducible refine gate_callee (f := 13) rfl ?_); refine goesL_ (some 4) rfl rfl Tryd.func13 (by kernel_rfl) rfl #[.int .i64 32, .int .i64 4096, .slice Ao14 t114.length co14] rfl (by (try simp only [List.map_toArray, List.map_cons, List.map_nil]); first | done | rfl | (simp only [List.length_drop, List.length_take]; rfl)) ?_; (with_reducible refine (impl_Feed.calls 32 4096 _ _ t114 t117 _ ?side1 ?side2 A3.out).mono ?_); (case side1 => repeat (first | exact (Kd.V_reads' HO116.out).2.2 | (with_reducible refine Kd.C_alloc ?_ _) | (with_reducible refine Kd.C_drewN ?_ _) | (with_reducible refine Kd.C_drew ?_))); (case side2 => exact (Kd.V_reads' HO116.out).2.1); rintro e w15 ⟨v118, rfl, ho0, hb⟩; refine ⟨_, rfl, ?_⟩; have n0_ := Aside0.mk (Kd.V_elder' (by (with_reducible repeat (first | apply Kd.V_alloc | apply Kd.V_drewN | apply Kd.V_drew)); exact HO116.out) (Kd.S_base ho0) hb); have n1_ := Aside0.mk (Kd.S_lower ho0 (below_size (by repeat (first | (with_reducible first | exact HB.out | apply below_alloc | apply pw_below_drewN | apply below_drew1) | exact HB.out)))); have n2_ := Aside0.mk (below_step (by repeat (first | (with_reducible first | exact HB.out | apply below_alloc | apply pw_below_drewN | apply below_drew1) | exact HB.out)) hb); clear HO116; clear HB; have HO116 := n0_; have HO119 := n1_; have HB := n2_; clear n0_ n1_ n2_; (try clear hb); (try clear hb2); (try clear hk); (try clear hi); (try clear ho0); obtain ⟨Ao16, co16, eo16⟩ := Kd.S_slice HO119.out; subst eo16; have p120 : 0 ≤ (0 : Int) := (by omega); have q120 : 0 < (t117.length : Int) := of_decide_eq_true (by first | (with_reducible assumption) | assumption); obtain ⟨ad120, A120_4, c120_4, A120_5, c120_5, e120, hx120_0, hx120_1, hx120_2, hx120_3, hx120_4, hx120_5, hl120_4, hi120_4, hl120_5, hi120_5⟩ := at_T36 (Kd.S_reads' HO119.out).2.2 0 p120 q120; cases e120; obtain ⟨ce120, hce120, hMe120, hcc120⟩ := Kd.S_get HO119.out z36 0 p120 (by first | exact q120 | exact of_decide_eq_true (by first | (with_reducible assumption) | assumption) | (have e_ := (Kd.S_reads' HO119.out).1; omega)); obtain ⟨ve120_4, ve120_5, rfl, ge120_4, ge120_5⟩ := k36_openM hMe120; have hv120_4 := hcc120 4 _ rfl; rw [add_field _ _ 4 (by omega)] at hv120_4; replace hv120_4 := Option.some.inj (hv120_4.symm.trans hx120_4); rw [hv120_4] at ge120_4; have HL120_4 := Aside0.mk (show Kd.R (Kd.int .i64) 2 _ _ _ _ ((rd_T36 t117 0).f4) from ge120_4); clear hv120_4 ge120_4; have hv120_5 := hcc120 5 _ rfl; rw [add_field _ _ 5 (by omega)] at hv120_5; replace hv120_5 := Option.some.inj (hv120_5.symm.trans hx120_5); rw [hv120_5] at ge120_5; have HL120_5 := Aside0.mk (show Kd.R (Kd.int .u8) 5 _ _ _ _ ((rd_T36 t117 0).f5) from ge120_5); clear hv120_5 ge120_5; clear hcc120 hce120; have qi120 : (0 < t117.length) = True := eq_true (by omega); (try rw [show ((0 : Int)).toNat = 0 from rfl] at hx120_0); (try rw [show 0 * 6 = 0 from rfl] at hx120_0); (try rw [Addr.add_zero'] at hx120_0); (try rw [show ((0 : Int)).toNat = 0 from rfl] at hx120_1); (try rw [show 0 * 6 = 0 from rfl] at hx120_1); (try rw [Addr.add_zero'] at hx120_1); (try rw [show ((0 : Int)).toNat = 0 from rfl] at hx120_2); (try rw [show 0 * 6 = 0 from rfl] at hx120_2); (try rw [Addr.add_zero'] at hx120_2); (try rw [show ((0 : Int)).toNat = 0 from rfl] at hx120_3); (try rw [show 0 * 6 = 0 from rfl] at hx120_3); (try rw [Addr.add_zero'] at hx120_3); (try rw [show ((0 : Int)).toNat = 0 from rfl] at hx120_4); (try rw [show 0 * 6 = 0 from rfl] at hx120_4); (try rw [Addr.add_zero'] at hx120_4); (try rw [show ((0 : Int)).toNat = 0 from rfl] at hx120_5); (try rw [show 0 * 6 = 0 from rfl] at hx120_5); (try rw [Addr.add_zero'] at hx120_5); have HR120_4 := Aside0.mk hi120_4; have HC120_4 := Aside0.mk hl120_4; clear hi120_4 hl120_4; have HR120_5 := Aside0.mk hi120_5; have HC120_5 := Aside0.mk hl120_5; clear hi120_5 hl120_5; replace p120 := eq_true p120; replace q120 := eq_true q120))
        go_ret
        exact ⟨by first | rfl | (simp [errW_none, errW_some] <;> rfl) | (simp [*, errW_none, errW_some] <;> rfl), by repeat (first | (with_reducible first | exact HB.out | apply below_alloc | apply pw_below_drewN | apply below_drew1) | exact HB.out)⟩
    · rw [if_neg c5] at H
      exact absurd H (by simp)
  · rw [if_neg c4] at H
    have c4b0 : ((t117.length : Int) == 1) = false := beq_eq_false_iff_ne.mpr c4
    have c4b1 : ((t117.length : Int) != 1) = true := bne_iff_ne.mpr c4
    obtain rfl := Option.some.inj H
    go_enter Tryd.func8, Tryd.ntmps8
    go_wp2_with (first | ((with_reducible refine gate_callee (f := 9) rfl ?_); refine goesL_ (some 2) rfl rfl Tryd.func9 (by kernel_rfl) rfl #[.int .i64 0, .int .i64 3] rfl (by (try simp only [List.map_toArray, List.map_cons, List.map_nil]); first | done | rfl | (simp only [List.length_drop, List.length_take]; rfl)) ?_; (with_reducible refine (impl_MakeNumber.calls 0 3 t113 _ ?side1 A1.out).mono ?_); (case side1 => exact XTab.below HT.out (by repeat (first | (with_reducible first | exact HB.out | apply below_alloc | apply pw_below_drewN | apply below_drew1) | exact HB.out))); rintro e w17 ⟨rfl, hb⟩; refine ⟨_, rfl, ?_⟩; have n0_ := Aside0.mk (below_step (by repeat (first | (with_reducible first | exact HB.out | apply below_alloc | apply pw_below_drewN | apply below_drew1) | exact HB.out)) hb); clear HB; have HB := n0_; clear n0_; (try clear hb); (try clear hb2); (try clear hk); (try clear hi)) | ((with_reducible refine gate_dst (N := 3) rfl ?_); refine conv_ev 9 32 5 rfl rfl Tryd.underlying9 Tryd.underlying32 Tryd.underlying5 t113 rfl A2.out ?_; rintro e w18 ⟨v115, rfl, ho0, hb⟩; refine ⟨_, rfl, ?_⟩; have n0_ := Aside0.mk (Kd.V_lower (Kd.V_mono (ok' := fun k_ => True) ho0 (fun k_ hk_ => trivial)) (below_size (by repeat (first | (with_reducible first | exact HB.out | apply below_alloc | apply pw_below_drewN | apply below_drew1) | exact HB.out)))); have n1_ := Aside0.mk (below_step (by repeat (first | (with_reducible first | exact HB.out | apply below_alloc | apply pw_below_drewN | apply below_drew1) | exact HB.out)) hb); clear HB; have HO116 := n0_; have HB := n1_; clear n0_ n1_; (try clear hb); (try clear hb2); (try clear hk); (try clear hi); (try clear ho0); obtain ⟨Ao19, co19, eo19⟩ := Kd.V_slice HO116.out; subst eo19) | ((with_reducible refine gate_callee (f := 13) rfl ?_); refine goesL_ (some 4) rfl rfl Tryd.func13 (by kernel_rfl) rfl #[.int .i64 32, .int .i64 4096, .slice Ao19 t114.length co19] rfl (by (try simp only [List.map_toArray, List.map_cons, List.map_nil]); first | done | rfl | (simp only [List.length_drop, List.length_take]; rfl)) ?_; (with_reducible refine (impl_Feed.calls 32 4096 _ _ t114 t117 _ ?side1 ?side2 A3.out).mono ?_); (case side1 => repeat (first | exact (Kd.V_reads' HO116.out).2.2 | (with_reducible refine Kd.C_alloc ?_ _) | (with_reducible refine Kd.C_drewN ?_ _) | (with_reducible refine Kd.C_drew ?_))); (case side2 => exact (Kd.V_reads' HO116.out).2.1); rintro e w20 ⟨v118, rfl, ho0, hb⟩; refine ⟨_, rfl, ?_⟩; have n0_ := Aside0.mk (Kd.V_elder' (by (with_reducible repeat (first | apply Kd.V_alloc | apply Kd.V_drewN | apply Kd.V_drew)); exact HO116.out) (Kd.S_base ho0) hb); have n1_ := Aside0.mk (Kd.S_lower ho0 (below_size (by repeat (first | (with_reducible first | exact HB.out | apply below_alloc | apply pw_below_drewN | apply below_drew1) | exact HB.out)))); have n2_ := Aside0.mk (below_step (by repeat (first | (with_reducible first | exact HB.out | apply below_alloc | apply pw_below_drewN | apply below_drew1) | exact HB.out)) hb); clear HO116; clear HB; have HO116 := n0_; have HO119 := n1_; have HB := n2_; clear n0_ n1_ n2_; (try clear hb); (try clear hb2); (try clear hk); (try clear hi); (try clear ho0); obtain ⟨Ao21, co21, eo21⟩ := Kd.S_slice HO119.out; subst eo21))
    go_ret
    exact ⟨by first | rfl | (simp [errW_none, errW_some] <;> rfl) | (simp [*, errW_none, errW_some] <;> rfl), by repeat (first | (with_reducible first | exact HB.out | apply below_alloc | apply pw_below_drewN | apply below_drew1) | exact HB.out)⟩

end Go.Proofs.YtgcbnegdchladaaDoor.Y
namespace Go.Proofs.YtgcbnegdchladaaDoor.Y
open Go.RowKit Go.Proofs.YtgcbnegdchladaaDoorW.PrintWords Go.Proofs.YtgcbnegdchladaaDoorW.PrintLast Go.Proofs.YtgcbnegdchladaaDoorW.PrintMore
attribute [local go_sem] max2_int min2_int max_two min_two max_three min_three max_four min_four   -- for this text's walks alone
set_option linter.unusedVariables false
set_option linter.unusedSimpArgs false

/-! ### laws_drawEvents: function 12 -/
def laws_drawEvents.l0 : Nat → List (S39) → List (S36) → Int → Int → Option ((List (S39)))
  | 0, _, _, _, _ => none
  | k + 1, x3, x6, x7, x8 => if x8 < x7 then (if 0 ≤ x8 then (if x8 < (x6.length : Int) then (if x3.length < 1759218604441 then (laws_drawEvents.l0 k (x3 ++ [(⟨(rd_T36 x6 x8).f0, (rd_T36 x6 x8).f1, (rd_T36 x6 x8).f2, (rd_T36 x6 x8).f3, (rd_T36 x6 x8).f4, (rd_T36 x6 x8).f5⟩ : S39)]) x6 x7 (wrap64 (x8 + 1))) else (none)) else (none)) else (none)) else (some x3)
def laws_drawEvents.f (k : Nat) (l0 : List (S36)) : Option ((List (S39))) := laws_drawEvents.l0 k ([] : List (S39)) l0 (l0.length : Int) 0
theorem laws_drawEvents.mono_l : ∀ k, (∀ y0 y1 y2 y3, LeO (laws_drawEvents.l0 k y0 y1 y2 y3) (laws_drawEvents.l0 (k + 1) y0 y1 y2 y3))
  | 0 => fun _ _ _ _ r h => by simp [laws_drawEvents.l0] at h
  | k + 1 => by
    have ih0 := laws_drawEvents.mono_l k
    · intro y0 y1 y2 y3
      unfold laws_drawEvents.l0
      repeat' first
      | (with_reducible exact ih0 _ _ _ _)
      | (with_reducible exact LeO.refl _)
      | (with_reducible exact LeO.none _)
      | (with_reducible refine LeO.ite ?_ ?_)
      | (with_reducible refine LeO.bind ?_ (fun _ => ?_))
      | exact ih0 _ _ _ _
      | exact LeO.none _
      | refine LeO.ite ?_ ?_
      | refine LeO.bind ?_ (fun _ => ?_)
theorem laws_drawEvents.mono : ∀ a0 k, LeO (laws_drawEvents.f k a0) (laws_drawEvents.f (k + 1) a0) := by
  intro a0 k
  have ih0 := laws_drawEvents.mono_l k
  unfold laws_drawEvents.f
  repeat' first
      | (with_reducible exact ih0 _ _ _ _)
      | (with_reducible exact LeO.refl _)
      | (with_reducible exact LeO.none _)
      | (with_reducible refine LeO.ite ?_ ?_)
      | (with_reducible refine LeO.bind ?_ (fun _ => ?_))
      | exact ih0 _ _ _ _
      | exact LeO.none _
      | refine LeO.ite ?_ ?_
      | refine LeO.bind ?_ (fun _ => ?_)
set_option maxHeartbeats 8000000 in
set_option maxRecDepth 100000 in
theorem laws_drawEvents.calls (k : Nat) (P0_ : Nat → Prop) (A0 : Option Addr) (c0 : Nat) (l0 : List (S36)) (r : List (S39)) (w : World) (hs0 : Kd.V k36 36 w w.heap.size (fun k_ => P0_ k_) (.slice A0 l0.length c0) l0) (h : laws_drawEvents.f k l0 = some r) :
    Calls Tryd.prog 12 #[.slice A0 l0.length c0] w fun e w' => ∃ v0_ : Value, e = .returned (v0_) ∧ Kd.N k39 39 w' w.heap.size (fun k_ => (P0_ k_ ∨ w.heap.size ≤ k_)) v0_ r ∧ Below w.heap.size w w' := by
  have hu36 := Tryd.underlying36
  have HO0 := Aside0.mk (show Kd.V k36 36 w w.heap.size (fun k_ => (P0_ k_ ∨ w.heap.size ≤ k_)) (.slice A0 l0.length c0) l0 from Kd.V_mono hs0 (fun k_ hk => .inl hk))
  have HB := Aside0.mk (Below.refl w.heap.size w)
  have H : (laws_drawEvents.l0 k ([] : List (S39)) l0 (l0.length : Int) 0) = some r := h
  clear h
  have H' := Aside0.mk H
  clear H
  go_enter Tryd.func12, Tryd.ntmps12
  go_wp2
  go_loopg [3, 8] k (fun kq v3 v8 w' => ∃ (x3_1 : List (S39)) (x8_1 : Int), v8 = .int .i64 x8_1 ∧ Aside0 (laws_drawEvents.l0 kq x3_1 l0 (l0.length : Int) x8_1 = some r) ∧ Aside0 (kq ≤ k) ∧ Aside0 (Kd.N k39 39 w' w.heap.size (fun k_ => (P0_ k_ ∨ w.heap.size ≤ k_)) v3 x3_1) ∧ Aside0 (Kd.V k36 36 w' w.heap.size (fun k_ => (P0_ k_ ∨ w.heap.size ≤ k_) ∧ some k_ ≠ (v3 : Value).ownBlock) (.slice A0 l0.length c0) l0) ∧ Aside0 (Below w.heap.size w w'))
  case atStart => exact ⟨(([] : List (S39))), (0), (by first | rfl | (simp; done) | (simp [*]; done)), H', ⟨Nat.le_refl _⟩, ⟨by first | exact Kd.S_nil _ _ _ _ _ | exact Kd.N_nil _ _ _ _ _ | exact Kd.V_nil _ _ _ _ _ | exact Kd.Q_nil _ _ _ _ _ | exact Kd.R_nil _ _ _ _ _⟩, ⟨by (with_reducible repeat (first | apply Kd.V_alloc | apply Kd.V_drewN | apply Kd.V_drew)); exact Kd.V_mono HO0.out (fun _ hk => ⟨hk, (by simp [Value.ownBlock])⟩)⟩, ⟨by repeat (first | (with_reducible first | exact HB.out | apply below_alloc | apply pw_below_drewN | apply below_drew1) | exact HB.out)⟩⟩
  case round =>
    clear H'
    try clear c1
    obtain ⟨x3_1, x8_1, rfl, HA, HK1, HO_3, HO_6, HB⟩ := hrel
    cases gk with
    | zero => exact absurd HA.out (by simp [laws_drawEvents.l0])
    | succ k1 =>
      have H := HA.out
      clear HA
      simp only [laws_drawEvents.l0] at H
      by_cases c2 : x8_1 < (l0.length : Int)
      · rw [if_pos c2] at H
        have c2b0 : decide (x8_1 < (l0.length : Int)) = true := decide_eq_true c2
        clear c2
        by_cases c3 : 0 ≤ x8_1
        · rw [if_pos c3] at H
          have c3b0 : decide (0 ≤ x8_1) = true := decide_eq_true c3
          clear c3
          by_cases c4 : x8_1 < (l0.length : Int)
          · rw [if_pos c4] at H
            have c4b0 : decide (x8_1 < (l0.length : Int)) = true := decide_eq_true c4
            clear c4
            by_cases c5 : x3_1.length < 1759218604441
            · rw [if_pos c5] at H
              have LMc5 := Aside0.mk c5
              clear c5
              obtain ⟨y138, hy138⟩ : ∃ y_ : List (S39), y_ = (x3_1 ++ [(⟨(rd_T36 l0 x8_1).f0, (rd_T36 l0 x8_1).f1, (rd_T36 l0 x8_1).f2, (rd_T36 l0 x8_1).f3, (rd_T36 l0 x8_1).f4, (rd_T36 l0 x8_1).f5⟩ : S39)]) := ⟨_, rfl⟩
              replace H : (laws_drawEvents.l0 k1 y138 l0 (l0.length : Int) (wrap64 (x8_1 + 1))) = some r := by first | (rw [hy138]; with_reducible exact H) | (have H2_ := (Option.bind_some _ _).symm.trans H; rw [hy138]; with_reducible exact H2_) | (have H2_ := (Option.bind_some _ _).symm.trans H; with_reducible exact H2_) | with_reducible exact H | (rw [hy138]; exact H) | exact H
              have Ny138 := Aside0.mk hy138
              clear hy138
              have H' := Aside0.mk H
              clear H
              have p136 : 0 ≤ (x8_1 : Int) := of_decide_eq_true (by first | (with_reducible assumption) | assumption)
              have q136 : x8_1 < (l0.length : Int) := of_decide_eq_true (by first | (with_reducible assumption) | assumption)
              obtain ⟨ad136, A136_4, c136_4, A136_5, c136_5, e136, hx136_0, hx136_1, hx136_2, hx136_3, hx136_4, hx136_5, hl136_4, hi136_4, hl136_5, hi136_5⟩ := at_T36 (Kd.V_reads' HO_6.out).2.2 x8_1 p136 q136
              cases e136
              obtain ⟨ce136, hce136, hMe136, hcc136⟩ := Kd.V_get HO_6.out z36 x8_1 p136 (by first | exact q136 | exact of_decide_eq_true (by first | (with_reducible assumption) | assumption) | (have e_ := (Kd.V_reads' HO_6.out).1; omega))
              obtain ⟨ua136_4, uc136_4, ua136_5, uc136_5, rfl, ul136_4, ge136_4, ul136_5, ge136_5⟩ := k36_openF hMe136
              have hv136_4 := hcc136 4 _ rfl
              rw [add_field _ _ 4 (by omega)] at hv136_4
              replace hv136_4 := Option.some.inj (hv136_4.symm.trans hx136_4)
              injection hv136_4 with hva_ hvn_ hvc_
              rw [hva_] at ge136_4
              rw [hvc_] at ul136_4
              have HL136_4 := Aside0.mk (show Kd.V (Kd.int .i64) 2 _ w.heap.size _ _ ((rd_T36 l0 x8_1).f4) from Kd.V_mk ul136_4 ge136_4)
              clear hva_ hvn_ hvc_ ge136_4 ul136_4
              have hv136_5 := hcc136 5 _ rfl
              rw [add_field _ _ 5 (by omega)] at hv136_5
              replace hv136_5 := Option.some.inj (hv136_5.symm.trans hx136_5)
              injection hv136_5 with hva_ hvn_ hvc_
              rw [hva_] at ge136_5
              rw [hvc_] at ul136_5
              have HL136_5 := Aside0.mk (show Kd.V (Kd.int .u8) 5 _ w.heap.size _ _ ((rd_T36 l0 x8_1).f5) from Kd.V_mk ul136_5 ge136_5)
              clear hva_ hvn_ hvc_ ge136_5 ul136_5
              clear hcc136 hce136
              have HR136_4 := Aside0.mk hi136_4
              have HC136_4 := Aside0.mk hl136_4
              clear hi136_4 hl136_4
              have HR136_5 := Aside0.mk hi136_5
              have HC136_5 := Aside0.mk hl136_5
              clear hi136_5 hl136_5
              replace p136 := eq_true p136
              replace q136 := eq_true q136
              go_wp2_with (first | ((with_reducible refine gate_dst (N := 5) rfl ?_); refine box_event ?hg (N := 5) ?hd (cs := #[.int .i64 0, .int .i64 0, .int .u8 0, .int .i64 0, .slice none 0 0, .slice none 0 0]) (t := 36) ?hr ?_; (case hd => rfl); (case hg => rfl); (case hr => first | (go_simp; done) | (go_simp; rfl)); intro gb137 hg w6 hbox hb; have n0_ := Aside0.mk (Kd.N_below (Kd.N_elderB (by (with_reducible repeat (first | apply Kd.N_alloc | apply Kd.N_drewN | apply Kd.N_drew)); exact HO_3.out) gb137 (Nat.le_of_eq hg.symm)) hb); have n1_ := Aside0.mk (Kd.V_below (Kd.V_elderB (by (with_reducible repeat (first | apply Kd.V_alloc | apply Kd.V_drewN | apply Kd.V_drew)); exact HO_6.out) gb137 (Nat.le_of_eq hg.symm)) hb); have n2_ := Aside0.mk (Kd.V_below (Kd.V_elderB (by (with_reducible repeat (first | apply Kd.V_alloc | apply Kd.V_drewN | apply Kd.V_drew)); exact HL136_4.out) gb137 (Nat.le_of_eq hg.symm)) hb); have n3_ := Aside0.mk (Kd.V_below (Kd.V_elderB (by (with_reducible repeat (first | apply Kd.V_alloc | apply Kd.V_drewN | apply Kd.V_drew)); exact HL136_5.out) gb137 (Nat.le_of_eq hg.symm)) hb); have n4_ := Aside0.mk (Kd.C_below (by repeat (first | (with_reducible exact HR136_4.out) | (with_reducible refine Kd.C_alloc ?_ _) | (with_reducible refine Kd.C_drewN ?_ _) | (with_reducible refine Kd.C_drew ?_) | exact HR136_4.out)) hb); have n5_ := Aside0.mk (Kd.C_below (by repeat (first | (with_reducible exact HR136_5.out) | (with_reducible refine Kd.C_alloc ?_ _) | (with_reducible refine Kd.C_drewN ?_ _) | (with_reducible refine Kd.C_drew ?_) | exact HR136_5.out)) hb); have n6_ := Aside0.mk (below_step (by repeat (first | (with_reducible first | exact HB.out | apply below_alloc | apply pw_below_drewN | apply below_drew1) | exact HB.out)) hb); have n7_ := Aside0.mk (hbox); have n8_ := Aside0.mk ((by rw [hg]; exact (below_size (by repeat (first | (with_reducible first | exact HB.out | apply below_alloc | apply pw_below_drewN | apply below_drew1) | exact HB.out))) : w.heap.size ≤ gb137)); have n9_ := Aside0.mk ((by rw [hg]; exact (below_size (by repeat (first | (with_reducible first | exact HB.out | apply below_alloc | apply pw_below_drewN | apply below_drew1) | exact HB.out))) : w.heap.size ≤ gb137)); clear HO_3; clear HO_6; clear HL136_4; clear HL136_5; clear HR136_4; clear HR136_5; clear HB; have HO_3 := n0_; have HO_6 := n1_; have HL136_4 := n2_; have HL136_5 := n3_; have HR136_4 := n4_; have HR136_5 := n5_; have HB := n6_; have BK137 := n7_; have GW137 := n8_; have GE137 := n9_; clear n0_ n1_ n2_ n3_ n4_ n5_ n6_ n7_ n8_ n9_; clear hb hbox hg; have hcz7_0 : w6.cell? ⟨gb137, 0, none⟩ = some (.int .i64 0) := (blk_cell BK137.out 0).trans rfl; have hcz7_1 : w6.cell? ⟨gb137, 1, none⟩ = some (.int .i64 0) := (blk_cell BK137.out 1).trans rfl; have hcz7_2 : w6.cell? ⟨gb137, 2, none⟩ = some (.int .u8 0) := (blk_cell BK137.out 2).trans rfl; have hcz7_3 : w6.cell? ⟨gb137, 3, none⟩ = some (.int .i64 0) := (blk_cell BK137.out 3).trans rfl; have hcz7_4 : w6.cell? ⟨gb137, 4, none⟩ = some (.slice none 0 0) := (blk_cell BK137.out 4).trans rfl; have hcz7_5 : w6.cell? ⟨gb137, 5, none⟩ = some (.slice none 0 0) := (blk_cell BK137.out 5).trans rfl; have hfz7_0 := blk_frozen BK137.out 0; have hfz7_1 := blk_frozen BK137.out 1; have hfz7_2 := blk_frozen BK137.out 2; have hfz7_3 := blk_frozen BK137.out 3; have hfz7_4 := blk_frozen BK137.out 4; have hfz7_5 := blk_frozen BK137.out 5) | ((with_reducible refine gate_store (t := 36) (p := 5) rfl ?_); refine store_event (t := 36) (p := 5) (v := ?vo_w8) (w1 := ((((((w6.setCell ⟨gb137, 0, none⟩ (.int .i64 ((rd_T36 l0 x8_1).f0))).setCell ⟨gb137, 1, none⟩ (.int .i64 ((rd_T36 l0 x8_1).f1))).setCell ⟨gb137, 2, none⟩ (.int .u8 ((rd_T36 l0 x8_1).f2))).setCell ⟨gb137, 3, none⟩ (.int .i64 ((rd_T36 l0 x8_1).f3))).setCell ⟨gb137, 4, none⟩ (.slice A136_4 ((rd_T36 l0 x8_1).f4).length c136_4)).setCell ⟨gb137, 5, none⟩ (.slice A136_5 ((rd_T36 l0 x8_1).f5).length c136_5))) ?hg ?ho ?hn ?hr ?_; (case ho => rfl); (case hg => rfl); (case hn => rfl); (case hr => first | (go_simp; done) | (go_simp; rfl)); intro w8 hw; have n0_ : Aside0 (Kd.N k39 39 w8 w.heap.size (fun k_ => (P0_ k_ ∨ w.heap.size ≤ k_) ∧ k_ ≠ gb137) u3 x3_1) := ⟨(by rw [hw]; exact (by (with_reducible repeat (first | apply Kd.N_alloc | apply Kd.N_drewN | apply Kd.N_drew)); exact Kd.N_mono (Kd.N_far (p := ⟨gb137, 5, none⟩) (Kd.N_far (p := ⟨gb137, 4, none⟩) (Kd.N_far (p := ⟨gb137, 3, none⟩) (Kd.N_far (p := ⟨gb137, 2, none⟩) (Kd.N_far (p := ⟨gb137, 1, none⟩) (Kd.N_far (p := ⟨gb137, 0, none⟩) (Kd.N_mono HO_3.out (fun k_ hk => (⟨hk, hk.2⟩ : _ ∧ k_ ≠ gb137))) (fun _ hk => hk.2) (.int .i64 ((rd_T36 l0 x8_1).f0))) (fun _ hk => hk.2) (.int .i64 ((rd_T36 l0 x8_1).f1))) (fun _ hk => hk.2) (.int .u8 ((rd_T36 l0 x8_1).f2))) (fun _ hk => hk.2) (.int .i64 ((rd_T36 l0 x8_1).f3))) (fun _ hk => hk.2) (.slice A136_4 ((rd_T36 l0 x8_1).f4).length c136_4)) (fun _ hk => hk.2) (.slice A136_5 ((rd_T36 l0 x8_1).f5).length c136_5)) (fun _ hk => ⟨hk.1.1, hk.1.2⟩)))⟩; have n1_ : Aside0 (Kd.V k36 36 w8 w.heap.size (fun k_ => (P0_ k_ ∨ w.heap.size ≤ k_) ∧ some k_ ≠ (u3 : Value).ownBlock ∧ k_ ≠ gb137) (.slice (some ad136) l0.length c0) l0) := ⟨(by rw [hw]; exact (by (with_reducible repeat (first | apply Kd.V_alloc | apply Kd.V_drewN | apply Kd.V_drew)); exact Kd.V_mono (Kd.V_far (p := ⟨gb137, 5, none⟩) (Kd.V_far (p := ⟨gb137, 4, none⟩) (Kd.V_far (p := ⟨gb137, 3, none⟩) (Kd.V_far (p := ⟨gb137, 2, none⟩) (Kd.V_far (p := ⟨gb137, 1, none⟩) (Kd.V_far (p := ⟨gb137, 0, none⟩) (Kd.V_mono HO_6.out (fun k_ hk => (⟨hk, hk.2⟩ : _ ∧ k_ ≠ gb137))) (fun _ hk => hk.2) (.int .i64 ((rd_T36 l0 x8_1).f0))) (fun _ hk => hk.2) (.int .i64 ((rd_T36 l0 x8_1).f1))) (fun _ hk => hk.2) (.int .u8 ((rd_T36 l0 x8_1).f2))) (fun _ hk => hk.2) (.int .i64 ((rd_T36 l0 x8_1).f3))) (fun _ hk => hk.2) (.slice A136_4 ((rd_T36 l0 x8_1).f4).length c136_4)) (fun _ hk => hk.2) (.slice A136_5 ((rd_T36 l0 x8_1).f5).length c136_5)) (fun _ hk => ⟨hk.1.1.1, ⟨hk.1.1.2, hk.1.2⟩⟩)))⟩; have n2_ : Aside0 (Kd.V (Kd.int .i64) 2 w8 w.heap.size (fun k_ => (P0_ k_ ∨ w.heap.size ≤ k_) ∧ some k_ ≠ (u3 : Value).ownBlock ∧ k_ ≠ gb137) (.slice A136_4 ((rd_T36 l0 x8_1).f4).length c136_4) ((rd_T36 l0 x8_1).f4)) := ⟨(by rw [hw]; exact (by (with_reducible repeat (first | apply Kd.V_alloc | apply Kd.V_drewN | apply Kd.V_drew)); exact Kd.V_mono (Kd.V_far (p := ⟨gb137, 5, none⟩) (Kd.V_far (p := ⟨gb137, 4, none⟩) (Kd.V_far (p := ⟨gb137, 3, none⟩) (Kd.V_far (p := ⟨gb137, 2, none⟩) (Kd.V_far (p := ⟨gb137, 1, none⟩) (Kd.V_far (p := ⟨gb137, 0, none⟩) (Kd.V_mono HL136_4.out (fun k_ hk => (⟨hk, hk.2⟩ : _ ∧ k_ ≠ gb137))) (fun _ hk => hk.2) (.int .i64 ((rd_T36 l0 x8_1).f0))) (fun _ hk => hk.2) (.int .i64 ((rd_T36 l0 x8_1).f1))) (fun _ hk => hk.2) (.int .u8 ((rd_T36 l0 x8_1).f2))) (fun _ hk => hk.2) (.int .i64 ((rd_T36 l0 x8_1).f3))) (fun _ hk => hk.2) (.slice A136_4 ((rd_T36 l0 x8_1).f4).length c136_4)) (fun _ hk => hk.2) (.slice A136_5 ((rd_T36 l0 x8_1).f5).length c136_5)) (fun _ hk => ⟨hk.1.1.1, ⟨hk.1.1.2, hk.1.2⟩⟩)))⟩; have n3_ : Aside0 (Kd.V (Kd.int .u8) 5 w8 w.heap.size (fun k_ => (P0_ k_ ∨ w.heap.size ≤ k_) ∧ some k_ ≠ (u3 : Value).ownBlock ∧ k_ ≠ gb137) (.slice A136_5 ((rd_T36 l0 x8_1).f5).length c136_5) ((rd_T36 l0 x8_1).f5)) := ⟨(by rw [hw]; exact (by (with_reducible repeat (first | apply Kd.V_alloc | apply Kd.V_drewN | apply Kd.V_drew)); exact Kd.V_mono (Kd.V_far (p := ⟨gb137, 5, none⟩) (Kd.V_far (p := ⟨gb137, 4, none⟩) (Kd.V_far (p := ⟨gb137, 3, none⟩) (Kd.V_far (p := ⟨gb137, 2, none⟩) (Kd.V_far (p := ⟨gb137, 1, none⟩) (Kd.V_far (p := ⟨gb137, 0, none⟩) (Kd.V_mono HL136_5.out (fun k_ hk => (⟨hk, hk.2⟩ : _ ∧ k_ ≠ gb137))) (fun _ hk => hk.2) (.int .i64 ((rd_T36 l0 x8_1).f0))) (fun _ hk => hk.2) (.int .i64 ((rd_T36 l0 x8_1).f1))) (fun _ hk => hk.2) (.int .u8 ((rd_T36 l0 x8_1).f2))) (fun _ hk => hk.2) (.int .i64 ((rd_T36 l0 x8_1).f3))) (fun _ hk => hk.2) (.slice A136_4 ((rd_T36 l0 x8_1).f4).length c136_4)) (fun _ hk => hk.2) (.slice A136_5 ((rd_T36 l0 x8_1).f5).length c136_5)) (fun _ hk => ⟨hk.1.1.1, ⟨hk.1.1.2, hk.1.2⟩⟩)))⟩; have n4_ : Aside0 (w8.heap[gb137]? = some (.cells #[.int .i64 ((rd_T36 l0 x8_1).f0), .int .i64 ((rd_T36 l0 x8_1).f1), .int .u8 ((rd_T36 l0 x8_1).f2), .int .i64 ((rd_T36 l0 x8_1).f3), .slice A136_4 ((rd_T36 l0 x8_1).f4).length c136_4, .slice A136_5 ((rd_T36 l0 x8_1).f5).length c136_5] 36 (0, 0))) := ⟨(by rw [hw]; exact (by (with_reducible repeat (first | refine blk_drewN ?_ _ | refine blk_drew ?_ | refine blk_alloc ?_ _)); refine blk_put (cs := #[.int .i64 ((rd_T36 l0 x8_1).f0), .int .i64 ((rd_T36 l0 x8_1).f1), .int .u8 ((rd_T36 l0 x8_1).f2), .int .i64 ((rd_T36 l0 x8_1).f3), .slice A136_4 ((rd_T36 l0 x8_1).f4).length c136_4, .slice none 0 0]) ?_ 5 _ rfl; (with_reducible repeat (first | refine blk_drewN ?_ _ | refine blk_drew ?_ | refine blk_alloc ?_ _)); refine blk_put (cs := #[.int .i64 ((rd_T36 l0 x8_1).f0), .int .i64 ((rd_T36 l0 x8_1).f1), .int .u8 ((rd_T36 l0 x8_1).f2), .int .i64 ((rd_T36 l0 x8_1).f3), .slice none 0 0, .slice none 0 0]) ?_ 4 _ rfl; (with_reducible repeat (first | refine blk_drewN ?_ _ | refine blk_drew ?_ | refine blk_alloc ?_ _)); refine blk_put (cs := #[.int .i64 ((rd_T36 l0 x8_1).f0), .int .i64 ((rd_T36 l0 x8_1).f1), .int .u8 ((rd_T36 l0 x8_1).f2), .int .i64 0, .slice none 0 0, .slice none 0 0]) ?_ 3 _ rfl; (with_reducible repeat (first | refine blk_drewN ?_ _ | refine blk_drew ?_ | refine blk_alloc ?_ _)); refine blk_put (cs := #[.int .i64 ((rd_T36 l0 x8_1).f0), .int .i64 ((rd_T36 l0 x8_1).f1), .int .u8 0, .int .i64 0, .slice none 0 0, .slice none 0 0]) ?_ 2 _ rfl; (with_reducible repeat (first | refine blk_drewN ?_ _ | refine blk_drew ?_ | refine blk_alloc ?_ _)); refine blk_put (cs := #[.int .i64 ((rd_T36 l0 x8_1).f0), .int .i64 0, .int .u8 0, .int .i64 0, .slice none 0 0, .slice none 0 0]) ?_ 1 _ rfl; (with_reducible repeat (first | refine blk_drewN ?_ _ | refine blk_drew ?_ | refine blk_alloc ?_ _)); refine blk_put (cs := #[.int .i64 0, .int .i64 0, .int .u8 0, .int .i64 0, .slice none 0 0, .slice none 0 0]) ?_ 0 _ rfl; (with_reducible repeat (first | refine blk_drewN ?_ _ | refine blk_drew ?_ | refine blk_alloc ?_ _)); exact BK137.out))⟩; have n5_ : Aside0 (Below w.heap.size w w8) := ⟨(by rw [hw]; exact (by repeat (first | (with_reducible first | exact HB.out | apply below_alloc | apply pw_below_drewN | apply below_drew1 | refine below_set ?_ GE137.out) | exact HB.out)))⟩; clear hw; clear HO_3; clear HO_6; clear HL136_4; clear HL136_5; clear BK137; clear HB; have HO_3 := n0_; have HO_6 := n1_; have HL136_4 := n2_; have HL136_5 := n3_; have BK137 := n4_; have HB := n5_; clear n0_ n1_ n2_ n3_ n4_ n5_; have hcz9_0 : w8.cell? ⟨gb137, 0, none⟩ = some (.int .i64 ((rd_T36 l0 x8_1).f0)) := (blk_cell BK137.out 0).trans rfl; have hcz9_1 : w8.cell? ⟨gb137, 1, none⟩ = some (.int .i64 ((rd_T36 l0 x8_1).f1)) := (blk_cell BK137.out 1).trans rfl; have hcz9_2 : w8.cell? ⟨gb137, 2, none⟩ = some (.int .u8 ((rd_T36 l0 x8_1).f2)) := (blk_cell BK137.out 2).trans rfl; have hcz9_3 : w8.cell? ⟨gb137, 3, none⟩ = some (.int .i64 ((rd_T36 l0 x8_1).f3)) := (blk_cell BK137.out 3).trans rfl; have hcz9_4 : w8.cell? ⟨gb137, 4, none⟩ = some (.slice A136_4 ((rd_T36 l0 x8_1).f4).length c136_4) := (blk_cell BK137.out 4).trans rfl; have hcz9_5 : w8.cell? ⟨gb137, 5, none⟩ = some (.slice A136_5 ((rd_T36 l0 x8_1).f5).length c136_5) := (blk_cell BK137.out 5).trans rfl; have hfz9_0 := blk_frozen BK137.out 0; have hfz9_1 := blk_frozen BK137.out 1; have hfz9_2 := blk_frozen BK137.out 2; have hfz9_3 := blk_frozen BK137.out 3; have hfz9_4 := blk_frozen BK137.out 4; have hfz9_5 := blk_frozen BK137.out 5) | ((with_reducible refine gate_builtin (b := .append) (xs := #[.tmp 12, .tmp 14]) rfl ?_); at_builtin; refine Kd.N_append k39 (w0 := w) w.heap.size rfl (.tmp 12) (.tmp 14) 28 39 (.agg #[(.int .i64 0), (.int .i64 0), (.int .u8 0), (.int .i64 0), (.slice none 0 0), (.slice none 0 0)]) 80 rfl Tryd.underlying28 info39 rfl (by decide) (by omega) u3 x3_1 (⟨(rd_T36 l0 x8_1).f0, (rd_T36 l0 x8_1).f1, (rd_T36 l0 x8_1).f2, (rd_T36 l0 x8_1).f3, (rd_T36 l0 x8_1).f4, (rd_T36 l0 x8_1).f5⟩ : S39) [.int .i64 ((rd_T36 l0 x8_1).f0), .int .i64 ((rd_T36 l0 x8_1).f1), .int .u8 ((rd_T36 l0 x8_1).f2), .int .i64 ((rd_T36 l0 x8_1).f3), .slice A136_4 ((rd_T36 l0 x8_1).f4).length c136_4, .slice A136_5 ((rd_T36 l0 x8_1).f5).length c136_5] (fun k_ => (P0_ k_ ∨ w.heap.size ≤ k_) ∧ k_ ≠ gb137) (fun k_ => ((fun k_ => (P0_ k_ ∨ w.heap.size ≤ k_) ∧ k_ ≠ gb137)) k_ ∧ some k_ ≠ (u3 : Value).ownBlock) rfl rfl ?aP (fun _ hk => hk) ?aF ?aO ?aB ?aS ?aL ?_; (case aP => exact (k39_mkF _ _ (⟨(rd_T36 l0 x8_1).f0, (rd_T36 l0 x8_1).f1, (rd_T36 l0 x8_1).f2, (rd_T36 l0 x8_1).f3, (rd_T36 l0 x8_1).f4, (rd_T36 l0 x8_1).f5⟩ : S39) (Kd.V_reads' (Kd.V_mono (ok' := (fun k_ => ((fun k_ => (P0_ k_ ∨ w.heap.size ≤ k_) ∧ k_ ≠ gb137)) k_ ∧ some k_ ≠ (u3 : Value).ownBlock)) (HL136_4.out) (fun k_ hk => ⟨⟨hk.1, hk.2.2⟩, hk.2.1⟩))).2.1 (Kd.V_F (Kd.V_mono (ok' := (fun k_ => ((fun k_ => (P0_ k_ ∨ w.heap.size ≤ k_) ∧ k_ ≠ gb137)) k_ ∧ some k_ ≠ (u3 : Value).ownBlock)) (HL136_4.out) (fun k_ hk => ⟨⟨hk.1, hk.2.2⟩, hk.2.1⟩))) (Kd.V_reads' (Kd.V_mono (ok' := (fun k_ => ((fun k_ => (P0_ k_ ∨ w.heap.size ≤ k_) ∧ k_ ≠ gb137)) k_ ∧ some k_ ≠ (u3 : Value).ownBlock)) (HL136_5.out) (fun k_ hk => ⟨⟨hk.1, hk.2.2⟩, hk.2.1⟩))).2.1 (Kd.V_F (Kd.V_mono (ok' := (fun k_ => ((fun k_ => (P0_ k_ ∨ w.heap.size ≤ k_) ∧ k_ ≠ gb137)) k_ ∧ some k_ ≠ (u3 : Value).ownBlock)) (HL136_5.out) (fun k_ hk => ⟨⟨hk.1, hk.2.2⟩, hk.2.1⟩))))); (case aB => exact (by repeat (first | (with_reducible first | exact HB.out | apply below_alloc | apply pw_below_drewN | apply below_drew1 | refine below_set ?_ GE137.out) | exact HB.out))); (case aF => exact (fun k_ hk => ⟨(.inr (Nat.le_trans (below_size (by repeat (first | (with_reducible first | exact HB.out | apply below_alloc | apply pw_below_drewN | apply below_drew1 | refine below_set ?_ GE137.out) | exact HB.out))) hk)), Kd.freshB (g := gb137) (o := .cells #[.int .i64 ((rd_T36 l0 x8_1).f0), .int .i64 ((rd_T36 l0 x8_1).f1), .int .u8 ((rd_T36 l0 x8_1).f2), .int .i64 ((rd_T36 l0 x8_1).f3), .slice A136_4 ((rd_T36 l0 x8_1).f4).length c136_4, .slice A136_5 ((rd_T36 l0 x8_1).f5).length c136_5] 36 (0, 0)) (by (with_reducible repeat (first | refine blk_drewN ?_ _ | refine blk_drew ?_ | refine blk_alloc ?_ _)); exact BK137.out) k_ hk⟩)); (case aO => exact (by (with_reducible repeat (first | apply Kd.N_alloc | apply Kd.N_drewN | apply Kd.N_drew)); exact HO_3.out)); (case aS => exact (below_size (by repeat (first | (with_reducible first | exact HB.out | apply below_alloc | apply pw_below_drewN | apply below_drew1 | refine below_set ?_ GE137.out) | exact HB.out)))); (case aL => have := LMc5.out; omega); intro v139 w10 ho hb hg hat; rw [← Ny138.out] at ho; have n0_ := Aside0.mk (Kd.V_afterv (ok := (fun k_ => (P0_ k_ ∨ w.heap.size ≤ k_) ∧ k_ ≠ gb137)) (by (with_reducible repeat (first | apply Kd.V_alloc | apply Kd.V_drewN | apply Kd.V_drew)); exact Kd.V_mono HO_6.out (fun _ hk => ⟨⟨hk.1, hk.2.2⟩, hk.2.1⟩)) hg hat); have n1_ := Aside0.mk (Kd.V_afterv (ok := (fun k_ => (P0_ k_ ∨ w.heap.size ≤ k_) ∧ k_ ≠ gb137)) (by (with_reducible repeat (first | apply Kd.V_alloc | apply Kd.V_drewN | apply Kd.V_drew)); exact Kd.V_mono HL136_4.out (fun _ hk => ⟨⟨hk.1, hk.2.2⟩, hk.2.1⟩)) hg hat); have n2_ := Aside0.mk (Kd.V_afterv (ok := (fun k_ => (P0_ k_ ∨ w.heap.size ≤ k_) ∧ k_ ≠ gb137)) (by (with_reducible repeat (first | apply Kd.V_alloc | apply Kd.V_drewN | apply Kd.V_drew)); exact Kd.V_mono HL136_5.out (fun _ hk => ⟨⟨hk.1, hk.2.2⟩, hk.2.1⟩)) hg hat); have n3_ := Aside0.mk (blk_grown (g := gb137) (o := .cells #[.int .i64 ((rd_T36 l0 x8_1).f0), .int .i64 ((rd_T36 l0 x8_1).f1), .int .u8 ((rd_T36 l0 x8_1).f2), .int .i64 ((rd_T36 l0 x8_1).f3), .slice A136_4 ((rd_T36 l0 x8_1).f4).length c136_4, .slice A136_5 ((rd_T36 l0 x8_1).f5).length c136_5] 36 (0, 0)) (by (with_reducible repeat (first | refine blk_drewN ?_ _ | refine blk_drew ?_ | refine blk_alloc ?_ _)); exact BK137.out) hg (Kd.N_ne HO_3.out BK137.out (by decide))); have n4_ := Aside0.mk (hb); have n5_ := Aside0.mk (ho); clear HO_6; clear HL136_4; clear HL136_5; clear BK137; clear HB; clear HO_3; have HO_6 := n0_; have HL136_4 := n1_; have HL136_5 := n2_; have BK137 := n3_; have HB := n4_; have HO140 := n5_; clear n0_ n1_ n2_ n3_ n4_ n5_; clear ho hb hg hat))
              go_roundg k1
              case measure => have := HK1.out; omega
              case rel => exact ⟨(y138), (wrap64 (x8_1 + 1)), (by first | rfl | (simp; done) | (simp [*]; done)), H', ⟨by have := HK1.out; omega⟩, ⟨by (with_reducible repeat (first | apply Kd.N_alloc | apply Kd.N_drewN | apply Kd.N_drew)); exact Kd.N_mono HO140.out (fun _ hk => hk.1)⟩, ⟨by (with_reducible repeat (first | apply Kd.V_alloc | apply Kd.V_drewN | apply Kd.V_drew)); exact Kd.V_mono HO_6.out (fun _ hk => ⟨hk.1.1, hk.2⟩)⟩, ⟨by repeat (first | (with_reducible first | exact HB.out | apply below_alloc | apply pw_below_drewN | apply below_drew1 | refine below_set ?_ GE137.out) | exact HB.out)⟩⟩
            · rw [if_neg c5] at H
              exact absurd H (by simp)
          · rw [if_neg c4] at H
            exact absurd H (by simp)
        · rw [if_neg c3] at H
          exact absurd H (by simp)
      · rw [if_neg c2] at H
        have c2b0 : decide (x8_1 < (l0.length : Int)) = false := decide_eq_false c2
        clear c2
        obtain rfl := Option.some.inj H
        go_wp2
        go_ret
        exact ⟨_, by first | rfl | (simp [errW_none, errW_some] <;> rfl) | (simp [*, errW_none, errW_some] <;> rfl), by (with_reducible repeat (first | apply Kd.N_alloc | apply Kd.N_drewN | apply Kd.N_drew)); exact HO_3.out, by repeat (first | (with_reducible first | exact HB.out | apply below_alloc | apply pw_below_drewN | apply below_drew1) | exact HB.out)⟩

end Go.Proofs.YtgcbnegdchladaaDoor.Y
namespace Go.Proofs.YtgcbnegdchladaaDoor.Y
open Go.RowKit Go.Proofs.YtgcbnegdchladaaDoorW.PrintWords Go.Proofs.YtgcbnegdchladaaDoorW.PrintLast Go.Proofs.YtgcbnegdchladaaDoorW.PrintMore
attribute [local go_sem] max2_int min2_int max_two min_two max_three min_three max_four min_four   -- for this text's walks alone
set_option linter.unusedVariables false
set_option linter.unusedSimpArgs false

/-! ### laws_FnDrawPassed: function 7 -/
mutual
def laws_FnDrawPassed.l0 : Nat → ByteArray → Int → Int → Int → Option (Bool)
  | 0, _, _, _, _ => none
  | k + 1, x0, x1, x15, x16 => if x16 < x15 then (if 0 ≤ x16 then (if x16 < (x0.size : Int) then (if (bt x0 x16) < 97 then ((laws_drawAwake.f).bind fun t305 => (some t305)) else (if (bt x0 x16) > 122 then ((laws_drawAwake.f).bind fun t306 => (some t306)) else (laws_FnDrawPassed.l0 k x0 x1 x15 (wrap64 (x16 + 1))))) else (none)) else (none)) else (if (x0.size : Int) < 1 then (laws_FnDrawPassed.j1 k x0 x1 true) else (laws_FnDrawPassed.j1 k x0 x1 (decide ((x0.size : Int) > 40))))
def laws_FnDrawPassed.j1 : Nat → ByteArray → Int → Bool → Option (Bool)
  | 0, _, _, _ => none
  | k + 1, x0, x1, x38 => if x38 = true then ((laws_drawAwake.f).bind fun t307 => (some t307)) else ((impl_Screen.f x0 (wrap64 ((wrap64 (Int.tmod x1 40)) + 1))).bind fun t308 => ((gosem_conv.f t308).bind fun t309 => ((impl_Feed.f 32 4096 t309).bind fun t312 => (laws_FnDrawPassed.l1 k x0 (⟨#[]⟩ : ByteArray) 0 (wrap64 ((wrap64 (Int.tmod x1 40)) + 1)) t312 (t312.length : Int) 0))))
def laws_FnDrawPassed.l1 : Nat → ByteArray → ByteArray → Int → Int → List (S36) → Int → Int → Option (Bool)
  | 0, _, _, _, _, _, _, _ => none
  | k + 1, x0, x6, x7, x8, x48, x49, x50 => if x50 < x49 then (if 0 ≤ x50 then (if x50 < (x48.length : Int) then (if ((rd_T36 x48 x50).f0) = 4 then ((some (([((rd_T36 x48 x50).f3) % 256] : List Int) : List Int)).bind fun y317 => (if (strOfNums y317).size + (strOfNums ((rd_T36 x48 x50).f5)).size ≤ 9223372036854775807 then (if x6.size + (strOfNums y317).size + (strOfNums ((rd_T36 x48 x50).f5)).size ≤ 9223372036854775807 then (laws_FnDrawPassed.l1 k x0 (x6 ++ ((strOfNums y317) ++ (strOfNums ((rd_T36 x48 x50).f5)))) (wrap64 (x7 + 1)) x8 x48 x49 (wrap64 (x50 + 1))) else (none)) else (none))) else (laws_FnDrawPassed.l1 k x0 x6 x7 x8 x48 x49 (wrap64 (x50 + 1)))) else (none)) else (none)) else (if x6.toList = x0.toList then (if x8 = 0 then (none) else (if x7 = (wrap64 (Int.tdiv (wrap64 ((wrap64 ((x0.size : Int) + x8)) - 1)) x8)) then ((laws_drawAwake.f).bind fun t320 => (some t320)) else (some false))) else (some false))
end
def laws_FnDrawPassed.f (k : Nat) (a0 : ByteArray) (a1 : Int) : Option (Bool) := if (a0.size : Int) > 2147483647 then (some true) else (laws_FnDrawPassed.l0 k a0 a1 (a0.size : Int) 0)
theorem laws_FnDrawPassed.mono_l : ∀ k, (∀ y0 y1 y2 y3, LeO (laws_FnDrawPassed.l0 k y0 y1 y2 y3) (laws_FnDrawPassed.l0 (k + 1) y0 y1 y2 y3)) ∧ (∀ y0 y1 y2, LeO (laws_FnDrawPassed.j1 k y0 y1 y2) (laws_FnDrawPassed.j1 (k + 1) y0 y1 y2)) ∧ (∀ y0 y1 y2 y3 y4 y5 y6, LeO (laws_FnDrawPassed.l1 k y0 y1 y2 y3 y4 y5 y6) (laws_FnDrawPassed.l1 (k + 1) y0 y1 y2 y3 y4 y5 y6))
  | 0 => ⟨fun _ _ _ _ r h => by simp [laws_FnDrawPassed.l0] at h, fun _ _ _ r h => by simp [laws_FnDrawPassed.j1] at h, fun _ _ _ _ _ _ _ r h => by simp [laws_FnDrawPassed.l1] at h⟩
  | k + 1 => by
    obtain ⟨ih0, ih1, ih2⟩ := laws_FnDrawPassed.mono_l k
    refine ⟨?_, ?_, ?_⟩
    · intro y0 y1 y2 y3
      unfold laws_FnDrawPassed.l0
      repeat' first
      | (with_reducible exact ih0 _ _ _ _)
      | (with_reducible exact ih1 _ _ _)
      | (with_reducible exact ih2 _ _ _ _ _ _ _)
      | (with_reducible exact LeO.refl _)
      | (with_reducible exact LeO.none _)
      | (with_reducible refine LeO.ite ?_ ?_)
      | (with_reducible refine LeO.bind ?_ (fun _ => ?_))
      | exact ih0 _ _ _ _
      | exact ih1 _ _ _
      | exact ih2 _ _ _ _ _ _ _
      | exact LeO.none _
      | refine LeO.ite ?_ ?_
      | refine LeO.bind ?_ (fun _ => ?_)
    · intro y0 y1 y2
      unfold laws_FnDrawPassed.j1
      repeat' first
      | (with_reducible exact ih0 _ _ _ _)
      | (with_reducible exact ih1 _ _ _)
      | (with_reducible exact ih2 _ _ _ _ _ _ _)
      | (with_reducible exact LeO.refl _)
      | (with_reducible exact LeO.none _)
      | (with_reducible refine LeO.ite ?_ ?_)
      | (with_reducible refine LeO.bind ?_ (fun _ => ?_))
      | exact ih0 _ _ _ _
      | exact ih1 _ _ _
      | exact ih2 _ _ _ _ _ _ _
      | exact LeO.none _
      | refine LeO.ite ?_ ?_
      | refine LeO.bind ?_ (fun _ => ?_)
    · intro y0 y1 y2 y3 y4 y5 y6
      unfold laws_FnDrawPassed.l1
      repeat' first
      | (with_reducible exact ih0 _ _ _ _)
      | (with_reducible exact ih1 _ _ _)
      | (with_reducible exact ih2 _ _ _ _ _ _ _)
      | (with_reducible exact LeO.refl _)
      | (with_reducible exact LeO.none _)
      | (with_reducible refine LeO.ite ?_ ?_)
      | (with_reducible refine LeO.bind ?_ (fun _ => ?_))
      | exact ih0 _ _ _ _
      | exact ih1 _ _ _
      | exact ih2 _ _ _ _ _ _ _
      | exact LeO.none _
      | refine LeO.ite ?_ ?_
      | refine LeO.bind ?_ (fun _ => ?_)
theorem laws_FnDrawPassed.mono : ∀ a0 a1 k, LeO (laws_FnDrawPassed.f k a0 a1) (laws_FnDrawPassed.f (k + 1) a0 a1) := by
  intro a0 a1 k
  obtain ⟨ih0, ih1, ih2⟩ := laws_FnDrawPassed.mono_l k
  unfold laws_FnDrawPassed.f
  repeat' first
      | (with_reducible exact ih0 _ _ _ _)
      | (with_reducible exact ih1 _ _ _)
      | (with_reducible exact ih2 _ _ _ _ _ _ _)
      | (with_reducible exact LeO.refl _)
      | (with_reducible exact LeO.none _)
      | (with_reducible refine LeO.ite ?_ ?_)
      | (with_reducible refine LeO.bind ?_ (fun _ => ?_))
      | exact ih0 _ _ _ _
      | exact ih1 _ _ _
      | exact ih2 _ _ _ _ _ _ _
      | exact LeO.none _
      | refine LeO.ite ?_ ?_
      | refine LeO.bind ?_ (fun _ => ?_)
set_option maxHeartbeats 8000000 in
set_option maxRecDepth 100000 in
theorem laws_FnDrawPassed.calls (k : Nat) (a0 : ByteArray) (a1 : Int) (r : Bool) (w : World) (hT : XTab w) (h : laws_FnDrawPassed.f k a0 a1 = some r) :
    Calls Tryd.prog 7 #[.string a0, .int .u8 a1] w fun e w' => e = .returned (.bool r) ∧ Below w.heap.size w w' := by
  have hu36 := Tryd.underlying36
  have HT := Aside0.mk hT
  clear hT
  have HB := Aside0.mk (Below.refl w.heap.size w)
  have H : (if (a0.size : Int) > 2147483647 then (some true) else (laws_FnDrawPassed.l0 k a0 a1 (a0.size : Int) 0)) = some r := h
  clear h
  by_cases c3 : (a0.size : Int) > 2147483647
  · rw [if_pos c3] at H
    have c3b0 : decide (2147483647 < (a0.size : Int)) = true := decide_eq_true c3
    have c3b1 : decide (2147483647 < a0.size) = true := decide_eq_true (by omega)
    clear c3
    obtain rfl := Option.some.inj H
    go_enter Tryd.func7, Tryd.ntmps7
    go_wp2
    go_ret
    exact ⟨by first | rfl | (simp [errW_none, errW_some] <;> rfl) | (simp [*, errW_none, errW_some] <;> rfl), by repeat (first | (with_reducible first | exact HB.out | apply below_alloc | apply pw_below_drewN | apply below_drew1) | exact HB.out)⟩
  · rw [if_neg c3] at H
    have c3b0 : decide (2147483647 < (a0.size : Int)) = false := decide_eq_false c3
    have c3b1 : decide (2147483647 < a0.size) = false := decide_eq_false (by omega)
    clear c3
    have H' := Aside0.mk H
    clear H
    go_enter Tryd.func7, Tryd.ntmps7
    go_wp2
    go_loopg [16] k (fun kq v16 w' => ∃ (x16_1 : Int), v16 = .int .i64 x16_1 ∧ Aside0 (laws_FnDrawPassed.l0 kq a0 a1 (a0.size : Int) x16_1 = some r) ∧ Aside0 (kq ≤ k) ∧ Aside0 (Below w.heap.size w w'))
    case atStart => exact ⟨(0), (by first | rfl | (simp; done) | (simp [*]; done)), H', ⟨Nat.le_refl _⟩, ⟨by repeat (first | (with_reducible first | exact HB.out | apply below_alloc | apply pw_below_drewN | apply below_drew1) | exact HB.out)⟩⟩
    case round =>
      clear H'
      try clear p2
      try clear c3
      try clear c3b0
      try clear c3b1
      obtain ⟨x16_1, rfl, HA, HK1, HB⟩ := hrel
      cases gk with
      | zero => exact absurd HA.out (by simp [laws_FnDrawPassed.l0])
      | succ k1 =>
        have H := HA.out
        clear HA
        simp only [laws_FnDrawPassed.l0] at H
        by_cases c4 : x16_1 < (a0.size : Int)
        · rw [if_pos c4] at H
          have c4b0 : decide (x16_1 < (a0.size : Int)) = true := decide_eq_true c4
          clear c4
          by_cases c5 : 0 ≤ x16_1
          · rw [if_pos c5] at H
            have c5b0 : decide (0 ≤ x16_1) = true := decide_eq_true c5
            clear c5
            by_cases c6 : x16_1 < (a0.size : Int)
            · rw [if_pos c6] at H
              have c6b0 : decide (x16_1 < (a0.size : Int)) = true := decide_eq_true c6
              clear c6
              by_cases c8 : (bt a0 x16_1) < 97
              · rw [if_pos c8] at H
                have c8b0 : decide ((bt a0 x16_1) < 97) = true := decide_eq_true c8
                clear c8
                replace H := Option.bind_eq_some_iff.mp H
                obtain ⟨t305, A90, H⟩ := H
                replace H : (some t305) = some r := H
                have A9 := Aside0.mk A90
                clear A90
                obtain rfl := Option.some.inj H
                have p7 : 0 ≤ (x16_1 : Int) := of_decide_eq_true (by first | (with_reducible assumption) | assumption)
                have q7 : x16_1 < (a0.size : Int) := of_decide_eq_true (by first | (with_reducible assumption) | assumption)
                have hx7 := bt_at a0 x16_1
                replace p7 := eq_true p7
                replace q7 := eq_true q7
                go_wp2_with (first | ((with_reducible refine gate_callee (f := 8) rfl ?_); refine goesL_ (some 29) rfl rfl Tryd.func8 (by kernel_rfl) rfl #[] rfl (by (try simp only [List.map_toArray, List.map_cons, List.map_nil]); first | done | rfl | (simp only [List.length_drop, List.length_take]; rfl)) ?_; (with_reducible refine (laws_drawAwake.calls  t305 _ ?side1 A9.out).mono ?_); (case side1 => exact XTab.below HT.out (by repeat (first | (with_reducible first | exact HB.out | apply below_alloc | apply pw_below_drewN | apply below_drew1) | exact HB.out))); rintro e w10 ⟨rfl, hb⟩; refine ⟨_, rfl, ?_⟩; have n0_ := Aside0.mk (below_step (by repeat (first | (with_reducible first | exact HB.out | apply below_alloc | apply pw_below_drewN | apply below_drew1) | exact HB.out)) hb); clear HB; have HB := n0_; clear n0_; (try clear hb); (try clear hb2); (try clear hk); (try clear hi)))
                go_ret
                exact ⟨by first | rfl | (simp [errW_none, errW_some] <;> rfl) | (simp [*, errW_none, errW_some] <;> rfl), by repeat (first | (with_reducible first | exact HB.out | apply below_alloc | apply pw_below_drewN | apply below_drew1) | exact HB.out)⟩
              · rw [if_neg c8] at H
                have c8b0 : decide ((bt a0 x16_1) < 97) = false := decide_eq_false c8
                clear c8
                by_cases c12 : (bt a0 x16_1) > 122
                · rw [if_pos c12] at H
                  have c12b0 : decide (122 < (bt a0 x16_1)) = true := decide_eq_true c12
                  clear c12
                  replace H := Option.bind_eq_some_iff.mp H
                  obtain ⟨t306, A130, H⟩ := H
                  replace H : (some t306) = some r := H
                  have A13 := Aside0.mk A130
                  clear A130
                  obtain rfl := Option.some.inj H
                  have p7 : 0 ≤ (x16_1 : Int) := of_decide_eq_true (by first | (with_reducible assumption) | assumption)
                  have q7 : x16_1 < (a0.size : Int) := of_decide_eq_true (by first | (with_reducible assumption) | assumption)
                  have hx7 := bt_at a0 x16_1
                  replace p7 := eq_true p7
                  replace q7 := eq_true q7
                  have p11 : 0 ≤ (x16_1 : Int) := of_decide_eq_true (by first | (with_reducible assumption) | assumption)
                  have q11 : x16_1 < (a0.size : Int) := of_decide_eq_true (by first | (with_reducible assumption) | assumption)
                  have hx11 := bt_at a0 x16_1
                  replace p11 := eq_true p11
                  replace q11 := eq_true q11
                  go_wp2_with (first | ((with_reducible refine gate_callee (f := 8) rfl ?_); refine goesL_ (some 29) rfl rfl Tryd.func8 (by kernel_rfl) rfl #[] rfl (by (try simp only [List.map_toArray, List.map_cons, List.map_nil]); first | done | rfl | (simp only [List.length_drop, List.length_take]; rfl)) ?_; (with_reducible refine (laws_drawAwake.calls  t306 _ ?side1 A13.out).mono ?_); (case side1 => exact XTab.below HT.out (by repeat (first | (with_reducible first | exact HB.out | apply below_alloc | apply pw_below_drewN | apply below_drew1) | exact HB.out))); rintro e w14 ⟨rfl, hb⟩; refine ⟨_, rfl, ?_⟩; have n0_ := Aside0.mk (below_step (by repeat (first | (with_reducible first | exact HB.out | apply below_alloc | apply pw_below_drewN | apply below_drew1) | exact HB.out)) hb); clear HB; have HB := n0_; clear n0_; (try clear hb); (try clear hb2); (try clear hk); (try clear hi)))
                  go_ret
                  exact ⟨by first | rfl | (simp [errW_none, errW_some] <;> rfl) | (simp [*, errW_none, errW_some] <;> rfl), by repeat (first | (with_reducible first | exact HB.out | apply below_alloc | apply pw_below_drewN | apply below_drew1) | exact HB.out)⟩
                · rw [if_neg c12] at H
                  have c12b0 : decide (122 < (bt a0 x16_1)) = false := decide_eq_false c12
                  clear c12
                  have H' := Aside0.mk H
                  clear H
                  have p7 : 0 ≤ (x16_1 : Int) := of_decide_eq_true (by first | (with_reducible assumption) | assumption)
                  have q7 : x16_1 < (a0.size : Int) := of_decide_eq_true (by first | (with_reducible assumption) | assumption)
                  have hx7 := bt_at a0 x16_1
                  replace p7 := eq_true p7
                  replace q7 := eq_true q7
                  have p11 : 0 ≤ (x16_1 : Int) := of_decide_eq_true (by first | (with_reducible assumption) | assumption)
                  have q11 : x16_1 < (a0.size : Int) := of_decide_eq_true (by first | (with_reducible assumption) | assumption)
                  have hx11 := bt_at a0 x16_1
                  replace p11 := eq_true p11
                  replace q11 := eq_true q11
                  go_wp2
                  go_roundg k1
                  case measure => have := HK1.out; omega
                  case rel => exact ⟨(wrap64 (x16_1 + 1)), (by first | rfl | (simp; done) | (simp [*]; done)), H', ⟨by have := HK1.out; omega⟩, ⟨by repeat (first | (with_reducible first | exact HB.out | apply below_alloc | apply pw_below_drewN | apply below_drew1) | exact HB.out)⟩⟩
            · rw [if_neg c6] at H
              exact absurd H (by simp)
          · rw [if_neg c5] at H
            exact absurd H (by simp)
        · rw [if_neg c4] at H
          have c4b0 : decide (x16_1 < (a0.size : Int)) = false := decide_eq_false c4
          clear c4
          have HC15 := Aside0.mk H
          clear H
          go_upto_region 9 with (fail)
          go_cut [38] (fun v38 wc => ∃ (kq : Nat) (x38_14 : Bool), v38 = .bool x38_14 ∧ Aside0 (laws_FnDrawPassed.j1 kq a0 a1 x38_14 = some r) ∧ Aside0 (kq ≤ k1) ∧ Aside0 (Below w.heap.size w wc))
          case first =>
            have H := HC15.out
            clear HC15
            by_cases c16 : (a0.size : Int) < 1
            · rw [if_pos c16] at H
              have c16b0 : decide ((a0.size : Int) < 1) = true := decide_eq_true c16
              have c16b1 : decide (a0.size < 1) = true := decide_eq_true (by omega)
              clear c16
              (first | rw [c16b0] | (simp only [i64_w, i32_w]; rw [c16b0]) | skip)
              have H' := Aside0.mk H
              clear H
              go_wp2
              go_meet
              case rel => exact ⟨_, (true), (by first | rfl | (simp; done) | (simp [*]; done)), H', ⟨by have := HK1.out; first | omega | exact Nat.le_refl _⟩, ⟨by repeat (first | (with_reducible first | exact HB.out | apply below_alloc | apply pw_below_drewN | apply below_drew1) | exact HB.out)⟩⟩
            · rw [if_neg c16] at H
              have c16b0 : decide ((a0.size : Int) < 1) = false := decide_eq_false c16
              have c16b1 : decide (a0.size < 1) = false := decide_eq_false (by omega)
              clear c16
              (first | rw [c16b0] | (simp only [i64_w, i32_w]; rw [c16b0]) | skip)
              have H' := Aside0.mk H
              clear H
              go_wp2
              go_meet
              case rel => exact ⟨_, (decide ((a0.size : Int) > 40)), (by first | rfl | (simp; done) | (simp [*]; done)), H', ⟨by have := HK1.out; first | omega | exact Nat.le_refl _⟩, ⟨by repeat (first | (with_reducible first | exact HB.out | apply below_alloc | apply pw_below_drewN | apply below_drew1) | exact HB.out)⟩⟩
          case rest =>
            clear HC15
            try clear c1
            try clear p1
            try clear q1
            try clear hx1
            try clear p2
            try clear c3
            try clear c3b0
            try clear c3b1
            try clear c4
            try clear c4b0
            try clear c5
            try clear c5b0
            try clear c6
            try clear c6b0
            try clear p6
            try clear c7
            try clear p7
            try clear q7
            try clear hx7
            try clear c8
            try clear c8b0
            try clear p11
            try clear q11
            try clear hx11
            try clear c12
            try clear c12b0
            try clear c16
            try clear c16b0
            try clear c16b1
            try clear p11
            try clear p2
            try clear p7
            try clear q11
            try clear q7
            obtain ⟨kq, x38_14, rfl, HA, HJ14, HB⟩ := hcut
            cases kq with
            | zero => exact absurd HA.out (by simp [laws_FnDrawPassed.j1])
            | succ kj14 =>
              have H := HA.out
              clear HA
              simp only [laws_FnDrawPassed.j1] at H
              by_cases c17 : x38_14 = true
              · subst c17
                have H1 : ((laws_drawAwake.f).bind fun t307 => (some t307)) = some r := by rw [if_pos rfl] at H; exact H
                clear H
                have H := H1
                clear H1
                replace H := Option.bind_eq_some_iff.mp H
                obtain ⟨t307, A180, H⟩ := H
                replace H : (some t307) = some r := H
                have A18 := Aside0.mk A180
                clear A180
                obtain rfl := Option.some.inj H
                go_wp2_with (first | ((with_reducible refine gate_callee (f := 8) rfl ?_); refine goesL_ (some 39) rfl rfl Tryd.func8 (by kernel_rfl) rfl #[] rfl (by (try simp only [List.map_toArray, List.map_cons, List.map_nil]); first | done | rfl | (simp only [List.length_drop, List.length_take]; rfl)) ?_; (with_reducible refine (laws_drawAwake.calls  t307 _ ?side1 A18.out).mono ?_); (case side1 => exact XTab.below HT.out (by repeat (first | (with_reducible first | exact HB.out | apply below_alloc | apply pw_below_drewN | apply below_drew1) | exact HB.out))); rintro e w19 ⟨rfl, hb⟩; refine ⟨_, rfl, ?_⟩; have n0_ := Aside0.mk (below_step (by repeat (first | (with_reducible first | exact HB.out | apply below_alloc | apply pw_below_drewN | apply below_drew1) | exact HB.out)) hb); clear HB; have HB := n0_; clear n0_; (try clear hb); (try clear hb2); (try clear hk); (try clear hi)))
                go_ret
                exact ⟨by first | rfl | (simp [errW_none, errW_some] <;> rfl) | (simp [*, errW_none, errW_some] <;> rfl), by repeat (first | (with_reducible first | exact HB.out | apply below_alloc | apply pw_below_drewN | apply below_drew1) | exact HB.out)⟩
              · replace c17 := Bool.eq_false_iff.mpr c17
                subst c17
                have H1 : ((impl_Screen.f a0 (wrap64 ((wrap64 (Int.tmod a1 40)) + 1))).bind fun t308 => ((gosem_conv.f t308).bind fun t309 => ((impl_Feed.f 32 4096 t309).bind fun t312 => (laws_FnDrawPassed.l1 kj14 a0 (⟨#[]⟩ : ByteArray) 0 (wrap64 ((wrap64 (Int.tmod a1 40)) + 1)) t312 (t312.length : Int) 0)))) = some r := by rw [if_neg (show ¬ (false = true) by decide)] at H; exact H
                clear H
                have H := H1
                clear H1
                replace H := Option.bind_eq_some_iff.mp H
                obtain ⟨t308, A200, H⟩ := H
                replace H : ((gosem_conv.f t308).bind fun t309 => ((impl_Feed.f 32 4096 t309).bind fun t312 => (laws_FnDrawPassed.l1 kj14 a0 (⟨#[]⟩ : ByteArray) 0 (wrap64 ((wrap64 (Int.tmod a1 40)) + 1)) t312 (t312.length : Int) 0))) = some r := H
                have A20 := Aside0.mk A200
                clear A200
                replace H := Option.bind_eq_some_iff.mp H
                obtain ⟨t309, A210, H⟩ := H
                replace H : ((impl_Feed.f 32 4096 t309).bind fun t312 => (laws_FnDrawPassed.l1 kj14 a0 (⟨#[]⟩ : ByteArray) 0 (wrap64 ((wrap64 (Int.tmod a1 40)) + 1)) t312 (t312.length : Int) 0)) = some r := H
                have A21 := Aside0.mk A210
                clear A210
                replace H := Option.bind_eq_some_iff.mp H
                obtain ⟨t312, A220, H⟩ := H
                replace H : (laws_FnDrawPassed.l1 kj14 a0 (⟨#[]⟩ : ByteArray) 0 (wrap64 ((wrap64 (Int.tmod a1 40)) + 1)) t312 (t312.length : Int) 0) = some r := H
                have A22 := Aside0.mk A220
                clear A220
                have H' := Aside0.mk H
                clear H
                go_wp2_with (first | ((with_reducible refine gate_callee (f := 20) rfl ?_); refine goesL_ (some 46) rfl rfl Tryd.func20 (by kernel_rfl) rfl #[.string a0, .int .i64 (wrap64 ((wrap64 (Int.tmod a1 40)) + 1))] rfl (by (try simp only [List.map_toArray, List.map_cons, List.map_nil]); first | done | rfl | (simp only [List.length_drop, List.length_take]; rfl)) ?_; (with_reducible refine (impl_Screen.calls a0 (wrap64 ((wrap64 (Int.tmod a1 40)) + 1)) t308 _ A20.out).mono ?_); rintro e w23 ⟨rfl, hb⟩; refine ⟨_, rfl, ?_⟩; have n0_ := Aside0.mk (below_step (by repeat (first | (with_reducible first | exact HB.out | apply below_alloc | apply pw_below_drewN | apply below_drew1) | exact HB.out)) hb); clear HB; have HB := n0_; clear n0_; (try clear hb); (try clear hb2); (try clear hk); (try clear hi)) | ((with_reducible refine gate_dst (N := 47) rfl ?_); (try (refine gate_guard (by rfl) ?_; dsimp only)); refine conv_ev 9 32 5 rfl rfl Tryd.underlying9 Tryd.underlying32 Tryd.underlying5 t308 rfl A21.out ?_; rintro e w24 ⟨v310, rfl, ho0, hb⟩; refine ⟨_, rfl, ?_⟩; have n0_ := Aside0.mk (Kd.V_lower (Kd.V_mono (ok' := fun k_ => True) ho0 (fun k_ hk_ => trivial)) (below_size (by repeat (first | (with_reducible first | exact HB.out | apply below_alloc | apply pw_below_drewN | apply below_drew1) | exact HB.out)))); have n1_ := Aside0.mk (below_step (by repeat (first | (with_reducible first | exact HB.out | apply below_alloc | apply pw_below_drewN | apply below_drew1) | exact HB.out)) hb); clear HB; have HO311 := n0_; have HB := n1_; clear n0_ n1_; (try clear hb); (try clear hb2); (try clear hk); (try clear hi); (try clear ho0); obtain ⟨Ao25, co25, eo25⟩ := Kd.V_slice HO311.out; subst eo25) | ((with_reducible refine gate_callee (f := 13) rfl ?_); refine goesL_ (some 48) rfl rfl Tryd.func13 (by kernel_rfl) rfl #[.int .i64 32, .int .i64 4096, .slice Ao25 t309.length co25] rfl (by (try simp only [List.map_toArray, List.map_cons, List.map_nil]); first | done | rfl | (simp only [List.length_drop, List.length_take]; rfl)) ?_; (with_reducible refine (impl_Feed.calls 32 4096 _ _ t309 t312 _ ?side1 ?side2 A22.out).mono ?_); (case side1 => repeat (first | exact (Kd.V_reads' HO311.out).2.2 | (with_reducible refine Kd.C_alloc ?_ _) | (with_reducible refine Kd.C_drewN ?_ _) | (with_reducible refine Kd.C_drew ?_))); (case side2 => exact (Kd.V_reads' HO311.out).2.1); rintro e w26 ⟨v313, rfl, ho0, hb⟩; refine ⟨_, rfl, ?_⟩; have n0_ := Aside0.mk (Kd.V_elder' (by (with_reducible repeat (first | apply Kd.V_alloc | apply Kd.V_drewN | apply Kd.V_drew)); exact HO311.out) (Kd.S_base ho0) hb); have n1_ := Aside0.mk (Kd.S_lower ho0 (below_size (by repeat (first | (with_reducible first | exact HB.out | apply below_alloc | apply pw_below_drewN | apply below_drew1) | exact HB.out)))); have n2_ := Aside0.mk (below_step (by repeat (first | (with_reducible first | exact HB.out | apply below_alloc | apply pw_below_drewN | apply below_drew1) | exact HB.out)) hb); clear HO311; clear HB; have HO311 := n0_; have HO314 := n1_; have HB := n2_; clear n0_ n1_ n2_; (try clear hb); (try clear hb2); (try clear hk); (try clear hi); (try clear ho0); obtain ⟨Ao27, co27, eo27⟩ := Kd.S_slice HO314.out; subst eo27))
                go_loopg [6, 7, 50] kj14 (fun kq v6 v7 v50 w' => ∃ (x6_3 : ByteArray) (x7_3 : Int) (x50_3 : Int), v6 = .string x6_3 ∧ v7 = .int .i64 x7_3 ∧ v50 = .int .i64 x50_3 ∧ Aside0 (laws_FnDrawPassed.l1 kq a0 x6_3 x7_3 (wrap64 ((wrap64 (Int.tmod a1 40)) + 1)) t312 (t312.length : Int) x50_3 = some r) ∧ Aside0 (kq ≤ kj14) ∧ Aside0 (Kd.S k36 36 w' w.heap.size (fun _ => True) (.slice Ao27 t312.length co27) t312) ∧ Aside0 (Below w.heap.size w w'))
                case atStart => exact ⟨((⟨#[]⟩ : ByteArray)), (0), (0), (by first | rfl | (simp; done) | (simp [*]; done)), (by first | rfl | (simp; done) | (simp [*]; done)), (by first | rfl | (simp; done) | (simp [*]; done)), H', ⟨Nat.le_refl _⟩, ⟨by (with_reducible repeat (first | apply Kd.S_alloc | apply Kd.S_drewN | apply Kd.S_drew)); exact HO314.out⟩, ⟨by repeat (first | (with_reducible first | exact HB.out | apply below_alloc | apply pw_below_drewN | apply below_drew1) | exact HB.out)⟩⟩
                case round =>
                  clear H'
                  try clear c1
                  try clear p1
                  try clear q1
                  try clear hx1
                  try clear c2
                  try clear p2
                  try clear c3
                  try clear c3b0
                  try clear c3b1
                  try clear c4
                  try clear c4b0
                  try clear c5
                  try clear c5b0
                  try clear c6
                  try clear c6b0
                  try clear p6
                  try clear c7
                  try clear p7
                  try clear q7
                  try clear hx7
                  try clear c8
                  try clear c8b0
                  try clear p11
                  try clear q11
                  try clear hx11
                  try clear c12
                  try clear c12b0
                  try clear c13
                  try clear c16
                  try clear c16b0
                  try clear c16b1
                  try clear c17
                  try clear c20
                  try clear p1
                  try clear p11
                  try clear p2
                  try clear p6
                  try clear p7
                  try clear q1
                  try clear q11
                  try clear q7
                  obtain ⟨x6_3, x7_3, x50_3, rfl, rfl, rfl, HA, HK3, HO_48, HB⟩ := hrel
                  cases gk with
                  | zero => exact absurd HA.out (by simp [laws_FnDrawPassed.l1])
                  | succ k3 =>
                    have H := HA.out
                    clear HA
                    simp only [laws_FnDrawPassed.l1] at H
                    by_cases c28 : x50_3 < (t312.length : Int)
                    · rw [if_pos c28] at H
                      have c28b0 : decide (x50_3 < (t312.length : Int)) = true := decide_eq_true c28
                      clear c28
                      by_cases c29 : 0 ≤ x50_3
                      · rw [if_pos c29] at H
                        have c29b0 : decide (0 ≤ x50_3) = true := decide_eq_true c29
                        clear c29
                        by_cases c30 : x50_3 < (t312.length : Int)
                        · rw [if_pos c30] at H
                          have c30b0 : decide (x50_3 < (t312.length : Int)) = true := decide_eq_true c30
                          clear c30
                          by_cases c31 : ((rd_T36 t312 x50_3).f0) = 4
                          · rw [if_pos c31] at H
                            have c31b0 : (((rd_T36 t312 x50_3).f0) == 4) = true := beq_iff_eq.mpr c31
                            have c31b1 : (((rd_T36 t312 x50_3).f0) != 4) = false := bne_eq_false_iff_eq.mpr c31
                            clear c31
                            obtain ⟨y317, hy317⟩ : ∃ y_ : List Int, y_ = (([((rd_T36 t312 x50_3).f3) % 256] : List Int)) := ⟨_, rfl⟩
                            replace H : (if (strOfNums y317).size + (strOfNums ((rd_T36 t312 x50_3).f5)).size ≤ 9223372036854775807 then (if x6_3.size + (strOfNums y317).size + (strOfNums ((rd_T36 t312 x50_3).f5)).size ≤ 9223372036854775807 then (laws_FnDrawPassed.l1 k3 a0 (x6_3 ++ ((strOfNums y317) ++ (strOfNums ((rd_T36 t312 x50_3).f5)))) (wrap64 (x7_3 + 1)) (wrap64 ((wrap64 (Int.tmod a1 40)) + 1)) t312 (t312.length : Int) (wrap64 (x50_3 + 1))) else (none)) else (none)) = some r := by first | (rw [hy317]; with_reducible exact H) | (have H2_ := (Option.bind_some _ _).symm.trans H; rw [hy317]; with_reducible exact H2_) | (have H2_ := (Option.bind_some _ _).symm.trans H; with_reducible exact H2_) | with_reducible exact H | (rw [hy317]; exact H) | exact H
                            have Ny317 := Aside0.mk hy317
                            clear hy317
                            by_cases c32 : (strOfNums y317).size + (strOfNums ((rd_T36 t312 x50_3).f5)).size ≤ 9223372036854775807
                            · rw [if_pos c32] at H
                              have c32b0 := eq_true c32
                              have c32b1 : decide ((strOfNums y317).size + (strOfNums ((rd_T36 t312 x50_3).f5)).size ≤ 9223372036854775807) = true := decide_eq_true c32
                              try have c32b2 : (9223372036854775807 < (strOfNums y317).size + (strOfNums ((rd_T36 t312 x50_3).f5)).size) = False := eq_false (Nat.not_lt.2 c32)
                              by_cases c33 : x6_3.size + (strOfNums y317).size + (strOfNums ((rd_T36 t312 x50_3).f5)).size ≤ 9223372036854775807
                              · rw [if_pos c33] at H
                                have c33b0 := eq_true c33
                                have c33b1 : decide (x6_3.size + (strOfNums y317).size + (strOfNums ((rd_T36 t312 x50_3).f5)).size ≤ 9223372036854775807) = true := decide_eq_true c33
                                try have c33b2 : (9223372036854775807 < x6_3.size + (strOfNums y317).size + (strOfNums ((rd_T36 t312 x50_3).f5)).size) = False := eq_false (Nat.not_lt.2 c33)
                                have H' := Aside0.mk H
                                clear H
                                have p315 : 0 ≤ (x50_3 : Int) := of_decide_eq_true (by first | (with_reducible assumption) | assumption)
                                have q315 : x50_3 < (t312.length : Int) := of_decide_eq_true (by first | (with_reducible assumption) | assumption)
                                obtain ⟨ad315, A315_4, c315_4, A315_5, c315_5, e315, hx315_0, hx315_1, hx315_2, hx315_3, hx315_4, hx315_5, hl315_4, hi315_4, hl315_5, hi315_5⟩ := at_T36 (Kd.S_reads' HO_48.out).2.2 x50_3 p315 q315
                                cases e315
                                obtain ⟨ce315, hce315, hMe315, hcc315⟩ := Kd.S_get HO_48.out z36 x50_3 p315 (by first | exact q315 | exact of_decide_eq_true (by first | (with_reducible assumption) | assumption) | (have e_ := (Kd.S_reads' HO_48.out).1; omega))
                                obtain ⟨ve315_4, ve315_5, rfl, ge315_4, ge315_5⟩ := k36_openM hMe315
                                have hv315_4 := hcc315 4 _ rfl
                                rw [add_field _ _ 4 (by omega)] at hv315_4
                                replace hv315_4 := Option.some.inj (hv315_4.symm.trans hx315_4)
                                rw [hv315_4] at ge315_4
                                have HL315_4 := Aside0.mk (show Kd.R (Kd.int .i64) 2 _ _ _ _ ((rd_T36 t312 x50_3).f4) from ge315_4)
                                clear hv315_4 ge315_4
                                have hv315_5 := hcc315 5 _ rfl
                                rw [add_field _ _ 5 (by omega)] at hv315_5
                                replace hv315_5 := Option.some.inj (hv315_5.symm.trans hx315_5)
                                rw [hv315_5] at ge315_5
                                have HL315_5 := Aside0.mk (show Kd.R (Kd.int .u8) 5 _ _ _ _ ((rd_T36 t312 x50_3).f5) from ge315_5)
                                clear hv315_5 ge315_5
                                clear hcc315 hce315
                                have HR315_4 := Aside0.mk hi315_4
                                have HC315_4 := Aside0.mk hl315_4
                                clear hi315_4 hl315_4
                                have HR315_5 := Aside0.mk hi315_5
                                have HC315_5 := Aside0.mk hl315_5
                                clear hi315_5 hl315_5
                                replace p315 := eq_true p315
                                replace q315 := eq_true q315
                                go_wp2_with (first | ((with_reducible refine gate_dst (N := 10) rfl ?_); (try (refine gate_guard (by rfl) ?_; dsimp only)); refine box_event ?hg (N := 10) ?hd (cs := #[.int .i64 0, .int .i64 0, .int .u8 0, .int .i64 0, .slice none 0 0, .slice none 0 0]) (t := 36) ?hr ?_; (case hd => rfl); (case hg => rfl); (case hr => first | (go_simp; done) | (go_simp; rfl)); intro gb316 hg w34 hbox hb; have n0_ := Aside0.mk (Kd.S_below (Kd.S_elderB (by (with_reducible repeat (first | apply Kd.S_alloc | apply Kd.S_drewN | apply Kd.S_drew)); exact HO_48.out) gb316 (Nat.le_of_eq hg.symm)) hb); have n1_ := Aside0.mk (Kd.R_below (by (with_reducible repeat (first | apply Kd.R_alloc | apply Kd.R_drewN | apply Kd.R_drew)); exact HL315_4.out) hb); have n2_ := Aside0.mk (Kd.R_below (by (with_reducible repeat (first | apply Kd.R_alloc | apply Kd.R_drewN | apply Kd.R_drew)); exact HL315_5.out) hb); have n3_ := Aside0.mk (Kd.C_below (by repeat (first | (with_reducible exact HR315_4.out) | (with_reducible refine Kd.C_alloc ?_ _) | (with_reducible refine Kd.C_drewN ?_ _) | (with_reducible refine Kd.C_drew ?_) | exact HR315_4.out)) hb); have n4_ := Aside0.mk (Kd.C_below (by repeat (first | (with_reducible exact HR315_5.out) | (with_reducible refine Kd.C_alloc ?_ _) | (with_reducible refine Kd.C_drewN ?_ _) | (with_reducible refine Kd.C_drew ?_) | exact HR315_5.out)) hb); have n5_ := Aside0.mk (below_step (by repeat (first | (with_reducible first | exact HB.out | apply below_alloc | apply pw_below_drewN | apply below_drew1) | exact HB.out)) hb); have n6_ := Aside0.mk (hbox); have n7_ := Aside0.mk ((by rw [hg]; exact (below_size (by repeat (first | (with_reducible first | exact HB.out | apply below_alloc | apply pw_below_drewN | apply below_drew1) | exact HB.out))) : w.heap.size ≤ gb316)); have n8_ := Aside0.mk ((by rw [hg]; exact (below_size (by repeat (first | (with_reducible first | exact HB.out | apply below_alloc | apply pw_below_drewN | apply below_drew1) | exact HB.out))) : w.heap.size ≤ gb316)); clear HO_48; clear HL315_4; clear HL315_5; clear HR315_4; clear HR315_5; clear HB; have HO_48 := n0_; have HL315_4 := n1_; have HL315_5 := n2_; have HR315_4 := n3_; have HR315_5 := n4_; have HB := n5_; have BK316 := n6_; have GW316 := n7_; have GE316 := n8_; clear n0_ n1_ n2_ n3_ n4_ n5_ n6_ n7_ n8_; clear hb hbox hg; have hcz35_0 : w34.cell? ⟨gb316, 0, none⟩ = some (.int .i64 0) := (blk_cell BK316.out 0).trans rfl; have hcz35_1 : w34.cell? ⟨gb316, 1, none⟩ = some (.int .i64 0) := (blk_cell BK316.out 1).trans rfl; have hcz35_2 : w34.cell? ⟨gb316, 2, none⟩ = some (.int .u8 0) := (blk_cell BK316.out 2).trans rfl; have hcz35_3 : w34.cell? ⟨gb316, 3, none⟩ = some (.int .i64 0) := (blk_cell BK316.out 3).trans rfl; have hcz35_4 : w34.cell? ⟨gb316, 4, none⟩ = some (.slice none 0 0) := (blk_cell BK316.out 4).trans rfl; have hcz35_5 : w34.cell? ⟨gb316, 5, none⟩ = some (.slice none 0 0) := (blk_cell BK316.out 5).trans rfl; have hfz35_0 := blk_frozen BK316.out 0; have hfz35_1 := blk_frozen BK316.out 1; have hfz35_2 := blk_frozen BK316.out 2; have hfz35_3 := blk_frozen BK316.out 3; have hfz35_4 := blk_frozen BK316.out 4; have hfz35_5 := blk_frozen BK316.out 5) | ((with_reducible refine gate_dst (N := 61) rfl ?_); (try (refine gate_guard (by rfl) ?_; dsimp only)); refine Kd.R_lit (Kd.int .u8) _ 5 ?hg (N := 61) ?hd (xs := ([((rd_T36 t312 x50_3).f3) % 256] : List Int)) (inner := [.int .u8 (((rd_T36 t312 x50_3).f3) % 256)]) (ok := fun _ => True) (okp := fun _ => True) ?hr ?hp (fun _ hk => hk) trivial (Below.refl _ _) (Nat.le_refl _) (by simp) ?_; (case hd => rfl); (case hg => rfl); (case hr => first | (go_simp; done) | (go_simp; rfl)); (case hp => exact (Reps.one (show Kd.M (Kd.int .u8) _ _ _ (((rd_T36 t312 x50_3).f3) % 256) [.int .u8 (((rd_T36 t312 x50_3).f3) % 256)] from rfl) (Reps.none _ _))); intro v318 w36 ho37 hb hg_ hnew_; clear hg_ hnew_; (first | rw [← Ny317.out] at ho37 | (simp only [Int.reduceToNat] at ho37; rw [← Ny317.out] at ho37)); have n0_ := Aside0.mk (Kd.S_elder' (by (with_reducible repeat (first | apply Kd.S_alloc | apply Kd.S_drewN | apply Kd.S_drew)); exact (Kd.S_mono (Kd.S_far (p := ⟨gb316, 5, none⟩) (Kd.S_far (p := ⟨gb316, 4, none⟩) (Kd.S_far (p := ⟨gb316, 3, none⟩) (Kd.S_far (p := ⟨gb316, 2, none⟩) (Kd.S_far (p := ⟨gb316, 1, none⟩) (Kd.S_far (p := ⟨gb316, 0, none⟩) (Kd.S_mono HO_48.out (fun k_ hk => (⟨hk, hk.2⟩ : _ ∧ k_ ≠ gb316))) (fun _ hk => hk.2) (.int .i64 ((rd_T36 t312 x50_3).f0))) (fun _ hk => hk.2) (.int .i64 ((rd_T36 t312 x50_3).f1))) (fun _ hk => hk.2) (.int .u8 ((rd_T36 t312 x50_3).f2))) (fun _ hk => hk.2) (.int .i64 ((rd_T36 t312 x50_3).f3))) (fun _ hk => hk.2) (.slice A315_4 ((rd_T36 t312 x50_3).f4).length c315_4)) (fun _ hk => hk.2) (.slice A315_5 ((rd_T36 t312 x50_3).f5).length c315_5)) (fun _ h_ => h_.1))) (Kd.R_base ho37) hb); have n1_ := Aside0.mk (Kd.R_below (by (with_reducible repeat (first | apply Kd.R_alloc | apply Kd.R_drewN | apply Kd.R_drew)); exact (Kd.R_mono (Kd.R_far (p := ⟨gb316, 5, none⟩) (Kd.R_far (p := ⟨gb316, 4, none⟩) (Kd.R_far (p := ⟨gb316, 3, none⟩) (Kd.R_far (p := ⟨gb316, 2, none⟩) (Kd.R_far (p := ⟨gb316, 1, none⟩) (Kd.R_far (p := ⟨gb316, 0, none⟩) (Kd.R_types HL315_4.out BK316.out (by decide)) (fun _ hk => hk.2) (.int .i64 ((rd_T36 t312 x50_3).f0))) (fun _ hk => hk.2) (.int .i64 ((rd_T36 t312 x50_3).f1))) (fun _ hk => hk.2) (.int .u8 ((rd_T36 t312 x50_3).f2))) (fun _ hk => hk.2) (.int .i64 ((rd_T36 t312 x50_3).f3))) (fun _ hk => hk.2) (.slice A315_4 ((rd_T36 t312 x50_3).f4).length c315_4)) (fun _ hk => hk.2) (.slice A315_5 ((rd_T36 t312 x50_3).f5).length c315_5)) (fun _ h_ => h_.1))) hb); have n2_ := Aside0.mk (Kd.R_elder' (by (with_reducible repeat (first | apply Kd.R_alloc | apply Kd.R_drewN | apply Kd.R_drew)); exact (Kd.R_mono (Kd.R_far (p := ⟨gb316, 5, none⟩) (Kd.R_far (p := ⟨gb316, 4, none⟩) (Kd.R_far (p := ⟨gb316, 3, none⟩) (Kd.R_far (p := ⟨gb316, 2, none⟩) (Kd.R_far (p := ⟨gb316, 1, none⟩) (Kd.R_far (p := ⟨gb316, 0, none⟩) (Kd.R_types HL315_5.out BK316.out (by decide)) (fun _ hk => hk.2) (.int .i64 ((rd_T36 t312 x50_3).f0))) (fun _ hk => hk.2) (.int .i64 ((rd_T36 t312 x50_3).f1))) (fun _ hk => hk.2) (.int .u8 ((rd_T36 t312 x50_3).f2))) (fun _ hk => hk.2) (.int .i64 ((rd_T36 t312 x50_3).f3))) (fun _ hk => hk.2) (.slice A315_4 ((rd_T36 t312 x50_3).f4).length c315_4)) (fun _ hk => hk.2) (.slice A315_5 ((rd_T36 t312 x50_3).f5).length c315_5)) (fun _ h_ => h_.1))) (Kd.R_base ho37) hb); have n3_ := Aside0.mk (Kd.R_lower (Kd.R_new' ho37 (Kd.R_lt (by (with_reducible repeat (first | apply Kd.R_alloc | apply Kd.R_drewN | apply Kd.R_drew)); exact (Kd.R_mono (Kd.R_far (p := ⟨gb316, 5, none⟩) (Kd.R_far (p := ⟨gb316, 4, none⟩) (Kd.R_far (p := ⟨gb316, 3, none⟩) (Kd.R_far (p := ⟨gb316, 2, none⟩) (Kd.R_far (p := ⟨gb316, 1, none⟩) (Kd.R_far (p := ⟨gb316, 0, none⟩) (Kd.R_types HL315_5.out BK316.out (by decide)) (fun _ hk => hk.2) (.int .i64 ((rd_T36 t312 x50_3).f0))) (fun _ hk => hk.2) (.int .i64 ((rd_T36 t312 x50_3).f1))) (fun _ hk => hk.2) (.int .u8 ((rd_T36 t312 x50_3).f2))) (fun _ hk => hk.2) (.int .i64 ((rd_T36 t312 x50_3).f3))) (fun _ hk => hk.2) (.slice A315_4 ((rd_T36 t312 x50_3).f4).length c315_4)) (fun _ hk => hk.2) (.slice A315_5 ((rd_T36 t312 x50_3).f5).length c315_5)) (fun _ h_ => h_.1))))) (below_size (by repeat (first | (with_reducible first | exact HB.out | apply below_alloc | apply pw_below_drewN | apply below_drew1 | refine below_set ?_ GE316.out) | exact HB.out)))); have n4_ := Aside0.mk (Kd.C_below ((Kd.R_reads' (by (with_reducible repeat (first | apply Kd.R_alloc | apply Kd.R_drewN | apply Kd.R_drew)); exact (Kd.R_mono (Kd.R_far (p := ⟨gb316, 5, none⟩) (Kd.R_far (p := ⟨gb316, 4, none⟩) (Kd.R_far (p := ⟨gb316, 3, none⟩) (Kd.R_far (p := ⟨gb316, 2, none⟩) (Kd.R_far (p := ⟨gb316, 1, none⟩) (Kd.R_far (p := ⟨gb316, 0, none⟩) (Kd.R_types HL315_4.out BK316.out (by decide)) (fun _ hk => hk.2) (.int .i64 ((rd_T36 t312 x50_3).f0))) (fun _ hk => hk.2) (.int .i64 ((rd_T36 t312 x50_3).f1))) (fun _ hk => hk.2) (.int .u8 ((rd_T36 t312 x50_3).f2))) (fun _ hk => hk.2) (.int .i64 ((rd_T36 t312 x50_3).f3))) (fun _ hk => hk.2) (.slice A315_4 ((rd_T36 t312 x50_3).f4).length c315_4)) (fun _ hk => hk.2) (.slice A315_5 ((rd_T36 t312 x50_3).f5).length c315_5)) (fun _ h_ => h_.1)))).2.2) hb); have n5_ := Aside0.mk (Kd.C_below ((Kd.R_reads' (by (with_reducible repeat (first | apply Kd.R_alloc | apply Kd.R_drewN | apply Kd.R_drew)); exact (Kd.R_mono (Kd.R_far (p := ⟨gb316, 5, none⟩) (Kd.R_far (p := ⟨gb316, 4, none⟩) (Kd.R_far (p := ⟨gb316, 3, none⟩) (Kd.R_far (p := ⟨gb316, 2, none⟩) (Kd.R_far (p := ⟨gb316, 1, none⟩) (Kd.R_far (p := ⟨gb316, 0, none⟩) (Kd.R_types HL315_5.out BK316.out (by decide)) (fun _ hk => hk.2) (.int .i64 ((rd_T36 t312 x50_3).f0))) (fun _ hk => hk.2) (.int .i64 ((rd_T36 t312 x50_3).f1))) (fun _ hk => hk.2) (.int .u8 ((rd_T36 t312 x50_3).f2))) (fun _ hk => hk.2) (.int .i64 ((rd_T36 t312 x50_3).f3))) (fun _ hk => hk.2) (.slice A315_4 ((rd_T36 t312 x50_3).f4).length c315_4)) (fun _ hk => hk.2) (.slice A315_5 ((rd_T36 t312 x50_3).f5).length c315_5)) (fun _ h_ => h_.1)))).2.2) hb); have n6_ := Aside0.mk (blk_below (g := gb316) (o := .cells #[.int .i64 ((rd_T36 t312 x50_3).f0), .int .i64 ((rd_T36 t312 x50_3).f1), .int .u8 ((rd_T36 t312 x50_3).f2), .int .i64 ((rd_T36 t312 x50_3).f3), .slice A315_4 ((rd_T36 t312 x50_3).f4).length c315_4, .slice A315_5 ((rd_T36 t312 x50_3).f5).length c315_5] 36 (0, 0)) (by (with_reducible repeat (first | refine blk_drewN ?_ _ | refine blk_drew ?_ | refine blk_alloc ?_ _)); refine blk_put (cs := #[.int .i64 ((rd_T36 t312 x50_3).f0), .int .i64 ((rd_T36 t312 x50_3).f1), .int .u8 ((rd_T36 t312 x50_3).f2), .int .i64 ((rd_T36 t312 x50_3).f3), .slice A315_4 ((rd_T36 t312 x50_3).f4).length c315_4, .slice none 0 0]) ?_ 5 _ rfl; (with_reducible repeat (first | refine blk_drewN ?_ _ | refine blk_drew ?_ | refine blk_alloc ?_ _)); refine blk_put (cs := #[.int .i64 ((rd_T36 t312 x50_3).f0), .int .i64 ((rd_T36 t312 x50_3).f1), .int .u8 ((rd_T36 t312 x50_3).f2), .int .i64 ((rd_T36 t312 x50_3).f3), .slice none 0 0, .slice none 0 0]) ?_ 4 _ rfl; (with_reducible repeat (first | refine blk_drewN ?_ _ | refine blk_drew ?_ | refine blk_alloc ?_ _)); refine blk_put (cs := #[.int .i64 ((rd_T36 t312 x50_3).f0), .int .i64 ((rd_T36 t312 x50_3).f1), .int .u8 ((rd_T36 t312 x50_3).f2), .int .i64 0, .slice none 0 0, .slice none 0 0]) ?_ 3 _ rfl; (with_reducible repeat (first | refine blk_drewN ?_ _ | refine blk_drew ?_ | refine blk_alloc ?_ _)); refine blk_put (cs := #[.int .i64 ((rd_T36 t312 x50_3).f0), .int .i64 ((rd_T36 t312 x50_3).f1), .int .u8 0, .int .i64 0, .slice none 0 0, .slice none 0 0]) ?_ 2 _ rfl; (with_reducible repeat (first | refine blk_drewN ?_ _ | refine blk_drew ?_ | refine blk_alloc ?_ _)); refine blk_put (cs := #[.int .i64 ((rd_T36 t312 x50_3).f0), .int .i64 0, .int .u8 0, .int .i64 0, .slice none 0 0, .slice none 0 0]) ?_ 1 _ rfl; (with_reducible repeat (first | refine blk_drewN ?_ _ | refine blk_drew ?_ | refine blk_alloc ?_ _)); refine blk_put (cs := #[.int .i64 0, .int .i64 0, .int .u8 0, .int .i64 0, .slice none 0 0, .slice none 0 0]) ?_ 0 _ rfl; (with_reducible repeat (first | refine blk_drewN ?_ _ | refine blk_drew ?_ | refine blk_alloc ?_ _)); exact BK316.out) hb); have n7_ := Aside0.mk (below_step (by repeat (first | (with_reducible first | exact HB.out | apply below_alloc | apply pw_below_drewN | apply below_drew1 | refine below_set ?_ GE316.out) | exact HB.out)) hb); clear HO_48; clear HL315_4; clear HL315_5; clear HR315_4; clear HR315_5; clear BK316; clear HB; have HO_48 := n0_; have HL315_4 := n1_; have HL315_5 := n2_; have HO319 := n3_; have HR315_4 := n4_; have HR315_5 := n5_; have BK316 := n6_; have HB := n7_; clear n0_ n1_ n2_ n3_ n4_ n5_ n6_ n7_; clear hb ho37; have hcv38 := own_string (P := Tryd.prog) Tryd.underlying32 Tryd.underlying5 Tryd.underlying9 (Kd.own_of_R HO319.out); have hcz39_0 : w36.cell? ⟨gb316, 0, none⟩ = some (.int .i64 ((rd_T36 t312 x50_3).f0)) := (blk_cell BK316.out 0).trans rfl; have hcz39_1 : w36.cell? ⟨gb316, 1, none⟩ = some (.int .i64 ((rd_T36 t312 x50_3).f1)) := (blk_cell BK316.out 1).trans rfl; have hcz39_2 : w36.cell? ⟨gb316, 2, none⟩ = some (.int .u8 ((rd_T36 t312 x50_3).f2)) := (blk_cell BK316.out 2).trans rfl; have hcz39_3 : w36.cell? ⟨gb316, 3, none⟩ = some (.int .i64 ((rd_T36 t312 x50_3).f3)) := (blk_cell BK316.out 3).trans rfl; have hcz39_4 : w36.cell? ⟨gb316, 4, none⟩ = some (.slice A315_4 ((rd_T36 t312 x50_3).f4).length c315_4) := (blk_cell BK316.out 4).trans rfl; have hcz39_5 : w36.cell? ⟨gb316, 5, none⟩ = some (.slice A315_5 ((rd_T36 t312 x50_3).f5).length c315_5) := (blk_cell BK316.out 5).trans rfl; have hfz39_0 := blk_frozen BK316.out 0; have hfz39_1 := blk_frozen BK316.out 1; have hfz39_2 := blk_frozen BK316.out 2; have hfz39_3 := blk_frozen BK316.out 3; have hfz39_4 := blk_frozen BK316.out 4; have hfz39_5 := blk_frozen BK316.out 5; have hcv40 := Kd.C_string (P := Tryd.prog) (A := A315_5) (c := c315_5) Tryd.underlying32 Tryd.underlying5 Tryd.underlying9 (by repeat (first | (with_reducible exact HR315_5.out) | (with_reducible refine Kd.C_alloc ?_ _) | (with_reducible refine Kd.C_drewN ?_ _) | (with_reducible refine Kd.C_drew ?_) | exact HR315_5.out))))
                                go_roundg k3
                                case measure => have := HK1.out; have := HJ14.out; have := HK3.out; omega
                                case rel => exact ⟨(x6_3 ++ ((strOfNums y317) ++ (strOfNums ((rd_T36 t312 x50_3).f5)))), (wrap64 (x7_3 + 1)), (wrap64 (x50_3 + 1)), (by first | rfl | (simp; done) | (simp [*]; done)), (by first | rfl | (simp; done) | (simp [*]; done)), (by first | rfl | (simp; done) | (simp [*]; done)), H', ⟨by have := HK1.out; have := HJ14.out; have := HK3.out; omega⟩, ⟨by (with_reducible repeat (first | apply Kd.S_alloc | apply Kd.S_drewN | apply Kd.S_drew)); exact Kd.S_mono HO_48.out (fun _ hk => trivial)⟩, ⟨by repeat (first | (with_reducible first | exact HB.out | apply below_alloc | apply pw_below_drewN | apply below_drew1 | refine below_set ?_ GE316.out) | exact HB.out)⟩⟩
                              · rw [if_neg c33] at H
                                exact absurd H (by simp)
                            · rw [if_neg c32] at H
                              exact absurd H (by simp)
                          · rw [if_neg c31] at H
                            have c31b0 : (((rd_T36 t312 x50_3).f0) == 4) = false := beq_eq_false_iff_ne.mpr c31
                            have c31b1 : (((rd_T36 t312 x50_3).f0) != 4) = true := bne_iff_ne.mpr c31
                            have H' := Aside0.mk H
                            clear H
                            have p315 : 0 ≤ (x50_3 : Int) := of_decide_eq_true (by first | (with_reducible assumption) | assumption)
                            have q315 : x50_3 < (t312.length : Int) := of_decide_eq_true (by first | (with_reducible assumption) | assumption)
                            obtain ⟨ad315, A315_4, c315_4, A315_5, c315_5, e315, hx315_0, hx315_1, hx315_2, hx315_3, hx315_4, hx315_5, hl315_4, hi315_4, hl315_5, hi315_5⟩ := at_T36 (Kd.S_reads' HO_48.out).2.2 x50_3 p315 q315
                            cases e315
                            obtain ⟨ce315, hce315, hMe315, hcc315⟩ := Kd.S_get HO_48.out z36 x50_3 p315 (by first | exact q315 | exact of_decide_eq_true (by first | (with_reducible assumption) | assumption) | (have e_ := (Kd.S_reads' HO_48.out).1; omega))
                            obtain ⟨ve315_4, ve315_5, rfl, ge315_4, ge315_5⟩ := k36_openM hMe315
                            have hv315_4 := hcc315 4 _ rfl
                            rw [add_field _ _ 4 (by omega)] at hv315_4
                            replace hv315_4 := Option.some.inj (hv315_4.symm.trans hx315_4)
                            rw [hv315_4] at ge315_4
                            have HL315_4 := Aside0.mk (show Kd.R (Kd.int .i64) 2 _ _ _ _ ((rd_T36 t312 x50_3).f4) from ge315_4)
                            clear hv315_4 ge315_4
                            have hv315_5 := hcc315 5 _ rfl
                            rw [add_field _ _ 5 (by omega)] at hv315_5
                            replace hv315_5 := Option.some.inj (hv315_5.symm.trans hx315_5)
                            rw [hv315_5] at ge315_5
                            have HL315_5 := Aside0.mk (show Kd.R (Kd.int .u8) 5 _ _ _ _ ((rd_T36 t312 x50_3).f5) from ge315_5)
                            clear hv315_5 ge315_5
                            clear hcc315 hce315
                            have HR315_4 := Aside0.mk hi315_4
                            have HC315_4 := Aside0.mk hl315_4
                            clear hi315_4 hl315_4
                            have HR315_5 := Aside0.mk hi315_5
                            have HC315_5 := Aside0.mk hl315_5
                            clear hi315_5 hl315_5
                            replace p315 := eq_true p315
                            replace q315 := eq_true q315
                            go_wp2_with (first | ((with_reducible refine gate_dst (N := 10) rfl ?_); (try (refine gate_guard (by rfl) ?_; dsimp only)); refine box_event ?hg (N := 10) ?hd (cs := #[.int .i64 0, .int .i64 0, .int .u8 0, .int .i64 0, .slice none 0 0, .slice none 0 0]) (t := 36) ?hr ?_; (case hd => rfl); (case hg => rfl); (case hr => first | (go_simp; done) | (go_simp; rfl)); intro gb316 hg w41 hbox hb; have n0_ := Aside0.mk (Kd.S_below (Kd.S_elderB (by (with_reducible repeat (first | apply Kd.S_alloc | apply Kd.S_drewN | apply Kd.S_drew)); exact HO_48.out) gb316 (Nat.le_of_eq hg.symm)) hb); have n1_ := Aside0.mk (Kd.R_below (by (with_reducible repeat (first | apply Kd.R_alloc | apply Kd.R_drewN | apply Kd.R_drew)); exact HL315_4.out) hb); have n2_ := Aside0.mk (Kd.R_below (by (with_reducible repeat (first | apply Kd.R_alloc | apply Kd.R_drewN | apply Kd.R_drew)); exact HL315_5.out) hb); have n3_ := Aside0.mk (Kd.C_below (by repeat (first | (with_reducible exact HR315_4.out) | (with_reducible refine Kd.C_alloc ?_ _) | (with_reducible refine Kd.C_drewN ?_ _) | (with_reducible refine Kd.C_drew ?_) | exact HR315_4.out)) hb); have n4_ := Aside0.mk (Kd.C_below (by repeat (first | (with_reducible exact HR315_5.out) | (with_reducible refine Kd.C_alloc ?_ _) | (with_reducible refine Kd.C_drewN ?_ _) | (with_reducible refine Kd.C_drew ?_) | exact HR315_5.out)) hb); have n5_ := Aside0.mk (below_step (by repeat (first | (with_reducible first | exact HB.out | apply below_alloc | apply pw_below_drewN | apply below_drew1) | exact HB.out)) hb); have n6_ := Aside0.mk (hbox); have n7_ := Aside0.mk ((by rw [hg]; exact (below_size (by repeat (first | (with_reducible first | exact HB.out | apply below_alloc | apply pw_below_drewN | apply below_drew1) | exact HB.out))) : w.heap.size ≤ gb316)); have n8_ := Aside0.mk ((by rw [hg]; exact (below_size (by repeat (first | (with_reducible first | exact HB.out | apply below_alloc | apply pw_below_drewN | apply below_drew1) | exact HB.out))) : w.heap.size ≤ gb316)); clear HO_48; clear HL315_4; clear HL315_5; clear HR315_4; clear HR315_5; clear HB; have HO_48 := n0_; have HL315_4 := n1_; have HL315_5 := n2_; have HR315_4 := n3_; have HR315_5 := n4_; have HB := n5_; have BK316 := n6_; have GW316 := n7_; have GE316 := n8_; clear n0_ n1_ n2_ n3_ n4_ n5_ n6_ n7_ n8_; clear hb hbox hg; have hcz42_0 : w41.cell? ⟨gb316, 0, none⟩ = some (.int .i64 0) := (blk_cell BK316.out 0).trans rfl; have hcz42_1 : w41.cell? ⟨gb316, 1, none⟩ = some (.int .i64 0) := (blk_cell BK316.out 1).trans rfl; have hcz42_2 : w41.cell? ⟨gb316, 2, none⟩ = some (.int .u8 0) := (blk_cell BK316.out 2).trans rfl; have hcz42_3 : w41.cell? ⟨gb316, 3, none⟩ = some (.int .i64 0) := (blk_cell BK316.out 3).trans rfl; have hcz42_4 : w41.cell? ⟨gb316, 4, none⟩ = some (.slice none 0 0) := (blk_cell BK316.out 4).trans rfl; have hcz42_5 : w41.cell? ⟨gb316, 5, none⟩ = some (.slice none 0 0) := (blk_cell BK316.out 5).trans rfl; have hfz42_0 := blk_frozen BK316.out 0; have hfz42_1 := blk_frozen BK316.out 1; have hfz42_2 := blk_frozen BK316.out 2; have hfz42_3 := blk_frozen BK316.out 3; have hfz42_4 := blk_frozen BK316.out 4; have hfz42_5 := blk_frozen BK316.out 5))
                            go_roundg k3
                            case measure => have := HK1.out; have := HJ14.out; have := HK3.out; omega
                            case rel => exact ⟨(x6_3), (x7_3), (wrap64 (x50_3 + 1)), (by first | rfl | (simp; done) | (simp [*]; done)), (by first | rfl | (simp; done) | (simp [*]; done)), (by first | rfl | (simp; done) | (simp [*]; done)), H', ⟨by have := HK1.out; have := HJ14.out; have := HK3.out; omega⟩, ⟨by (with_reducible repeat (first | apply Kd.S_alloc | apply Kd.S_drewN | apply Kd.S_drew)); exact Kd.S_mono (Kd.S_far (p := ⟨gb316, 5, none⟩) (Kd.S_far (p := ⟨gb316, 4, none⟩) (Kd.S_far (p := ⟨gb316, 3, none⟩) (Kd.S_far (p := ⟨gb316, 2, none⟩) (Kd.S_far (p := ⟨gb316, 1, none⟩) (Kd.S_far (p := ⟨gb316, 0, none⟩) (Kd.S_mono HO_48.out (fun k_ hk => (⟨hk, hk.2⟩ : _ ∧ k_ ≠ gb316))) (fun _ hk => hk.2) (.int .i64 ((rd_T36 t312 x50_3).f0))) (fun _ hk => hk.2) (.int .i64 ((rd_T36 t312 x50_3).f1))) (fun _ hk => hk.2) (.int .u8 ((rd_T36 t312 x50_3).f2))) (fun _ hk => hk.2) (.int .i64 ((rd_T36 t312 x50_3).f3))) (fun _ hk => hk.2) (.slice A315_4 ((rd_T36 t312 x50_3).f4).length c315_4)) (fun _ hk => hk.2) (.slice A315_5 ((rd_T36 t312 x50_3).f5).length c315_5)) (fun _ hk => trivial)⟩, ⟨by repeat (first | (with_reducible first | exact HB.out | apply below_alloc | apply pw_below_drewN | apply below_drew1 | refine below_set ?_ GE316.out) | exact HB.out)⟩⟩
                        · rw [if_neg c30] at H
                          exact absurd H (by simp)
                      · rw [if_neg c29] at H
                        exact absurd H (by simp)
                    · rw [if_neg c28] at H
                      have c28b0 : decide (x50_3 < (t312.length : Int)) = false := decide_eq_false c28
                      clear c28
                      by_cases c43 : x6_3.toList = a0.toList
                      · rw [if_pos c43] at H
                        have c43b0 : (x6_3.toList == a0.toList) = true := beq_iff_eq.mpr c43
                        have c43b1 : (x6_3.toList != a0.toList) = false := bne_eq_false_iff_eq.mpr c43
                        clear c43
                        by_cases c44 : (wrap64 ((wrap64 (Int.tmod a1 40)) + 1)) = 0
                        · rw [if_pos c44] at H
                          exact absurd H (by simp)
                        · rw [if_neg c44] at H
                          have c44b0 : ((wrap64 ((wrap64 (Int.tmod a1 40)) + 1)) == 0) = false := beq_eq_false_iff_ne.mpr c44
                          have c44b1 : ((wrap64 ((wrap64 (Int.tmod a1 40)) + 1)) != 0) = true := bne_iff_ne.mpr c44
                          by_cases c45 : x7_3 = (wrap64 (Int.tdiv (wrap64 ((wrap64 ((a0.size : Int) + (wrap64 ((wrap64 (Int.tmod a1 40)) + 1)))) - 1)) (wrap64 ((wrap64 (Int.tmod a1 40)) + 1))))
                          · rw [if_pos c45] at H
                            have c45b0 : (x7_3 == (wrap64 (Int.tdiv (wrap64 ((wrap64 ((a0.size : Int) + (wrap64 ((wrap64 (Int.tmod a1 40)) + 1)))) - 1)) (wrap64 ((wrap64 (Int.tmod a1 40)) + 1))))) = true := beq_iff_eq.mpr c45
                            have c45b1 : (x7_3 != (wrap64 (Int.tdiv (wrap64 ((wrap64 ((a0.size : Int) + (wrap64 ((wrap64 (Int.tmod a1 40)) + 1)))) - 1)) (wrap64 ((wrap64 (Int.tmod a1 40)) + 1))))) = false := bne_eq_false_iff_eq.mpr c45
                            clear c45
                            replace H := Option.bind_eq_some_iff.mp H
                            obtain ⟨t320, A460, H⟩ := H
                            replace H : (some t320) = some r := H
                            have A46 := Aside0.mk A460
                            clear A460
                            obtain rfl := Option.some.inj H
                            go_wp2_with (first | (go_at_call 8; (with_reducible refine (laws_drawAwake.calls  t320 _ ?side1 A46.out).mono ?_); (case side1 => exact XTab.below HT.out (by repeat (first | (with_reducible first | exact HB.out | apply below_alloc | apply pw_below_drewN | apply below_drew1) | exact HB.out))); rintro e w47 ⟨rfl, hb⟩; have n0_ := Aside0.mk (Kd.S_below (by (with_reducible repeat (first | apply Kd.S_alloc | apply Kd.S_drewN | apply Kd.S_drew)); exact HO_48.out) hb); have n1_ := Aside0.mk (below_step (by repeat (first | (with_reducible first | exact HB.out | apply below_alloc | apply pw_below_drewN | apply below_drew1) | exact HB.out)) hb); clear HO_48; clear HB; have HO_48 := n0_; have HB := n1_; clear n0_ n1_; (try clear hb); (try clear hb2); (try clear hk); (try clear hi)))
                            go_ret
                            exact ⟨by first | rfl | (simp [errW_none, errW_some] <;> rfl) | (simp [*, errW_none, errW_some] <;> rfl), by repeat (first | (with_reducible first | exact HB.out | apply below_alloc | apply pw_below_drewN | apply below_drew1) | exact HB.out)⟩
                          · rw [if_neg c45] at H
                            have c45b0 : (x7_3 == (wrap64 (Int.tdiv (wrap64 ((wrap64 ((a0.size : Int) + (wrap64 ((wrap64 (Int.tmod a1 40)) + 1)))) - 1)) (wrap64 ((wrap64 (Int.tmod a1 40)) + 1))))) = false := beq_eq_false_iff_ne.mpr c45
                            have c45b1 : (x7_3 != (wrap64 (Int.tdiv (wrap64 ((wrap64 ((a0.size : Int) + (wrap64 ((wrap64 (Int.tmod a1 40)) + 1)))) - 1)) (wrap64 ((wrap64 (Int.tmod a1 40)) + 1))))) = true := bne_iff_ne.mpr c45
                            obtain rfl := Option.some.inj H
                            go_wp2
                            go_ret
                            exact ⟨by first | rfl | (simp [errW_none, errW_some] <;> rfl) | (simp [*, errW_none, errW_some] <;> rfl), by repeat (first | (with_reducible first | exact HB.out | apply below_alloc | apply pw_below_drewN | apply below_drew1) | exact HB.out)⟩
                      · rw [if_neg c43] at H
                        have c43b0 : (x6_3.toList == a0.toList) = false := beq_eq_false_iff_ne.mpr c43
                        have c43b1 : (x6_3.toList != a0.toList) = true := bne_iff_ne.mpr c43
                        obtain rfl := Option.some.inj H
                        go_wp2
                        go_ret
                        exact ⟨by first | rfl | (simp [errW_none, errW_some] <;> rfl) | (simp [*, errW_none, errW_some] <;> rfl), by repeat (first | (with_reducible first | exact HB.out | apply below_alloc | apply pw_below_drewN | apply below_drew1) | exact HB.out)⟩

end Go.Proofs.YtgcbnegdchladaaDoor.Y
