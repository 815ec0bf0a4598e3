/- Texts of this claim, joined: Y39 Y40D Y40 Y41D Y41 Y42D Y42 Y43D Y43 Y44D Y44 Y45D Y45 Y46D Y46 Y47D Y47 Y48D. Of each, what the claim uses. -/
import Derived.Test.YtjkpelaeelihhaaGreatDoorRRKad
import Derived.Test.YtjkpelaeelihhaaGreatDoorRRKaq
section
namespace Go.Proofs.YtjkpelaeelihhaaGreatDoorRR.Y
open Go.RowKit Go.Proofs.YtjkpelaeelihhaaGreatDoorRRW.PrintWords Go.Proofs.YtjkpelaeelihhaaGreatDoorRRW.PrintLast Go.Proofs.YtjkpelaeelihhaaGreatDoorRRW.PrintMore
attribute [local go_sem] max2_int min2_int max_two min_two max_three min_three max_four min_four   -- for this text's walks alone
set_option linter.unusedVariables false
set_option linter.unusedSimpArgs false
set_option maxHeartbeats 8000000 in
set_option maxRecDepth 100000 in
theorem xansi_CursorBackward.calls (a0 : Int) (r : ByteArray) (w : World) (hT : XTab w) (h : xansi_CursorBackward.f a0 = some r) :
    Calls Tryz.prog 31 #[.int .i64 a0] w fun e w' => e = .returned (.string r) ∧ Below w.heap.size w w' := by
  have HT := Aside0.mk hT
  clear hT
  have HB := Aside0.mk (Below.refl w.heap.size w)
  have H : (if a0 > 1 then ((strconv_Itoa.f a0).bind fun t311 => (if 2 + t311.size ≤ 9223372036854775807 then (if 2 + t311.size + 1 ≤ 9223372036854775807 then (some (((⟨#[27, 91]⟩ : ByteArray) ++ t311) ++ (⟨#[68]⟩ : ByteArray))) else (none)) else (none))) else (if 2 + 0 ≤ 9223372036854775807 then (if 2 + 0 + 1 ≤ 9223372036854775807 then (some (((⟨#[27, 91]⟩ : ByteArray) ++ (⟨#[]⟩ : ByteArray)) ++ (⟨#[68]⟩ : ByteArray))) else (none)) else (none))) = some r := h
  clear h
  by_cases c2 : a0 > 1
  · rw [if_pos c2] at H
    have c2b0 : decide (1 < a0) = true := decide_eq_true c2
    clear c2
    replace H := Option.bind_eq_some_iff.mp H
    obtain ⟨t311, A30, H⟩ := H
    replace H : (if 2 + t311.size ≤ 9223372036854775807 then (if 2 + t311.size + 1 ≤ 9223372036854775807 then (some (((⟨#[27, 91]⟩ : ByteArray) ++ t311) ++ (⟨#[68]⟩ : ByteArray))) else (none)) else (none)) = some r := H
    have A3 := Aside0.mk A30
    clear A30
    by_cases c4 : 2 + t311.size ≤ 9223372036854775807
    · rw [if_pos c4] at H
      have c4b0 := eq_true c4
      have c4b1 : decide (2 + t311.size ≤ 9223372036854775807) = true := decide_eq_true c4
      try have c4b2 : (9223372036854775807 < 2 + t311.size) = False := eq_false (Nat.not_lt.2 c4)
      by_cases c5 : 2 + t311.size + 1 ≤ 9223372036854775807
      · rw [if_pos c5] at H
        have c5b0 := eq_true c5
        have c5b1 : decide (2 + t311.size + 1 ≤ 9223372036854775807) = true := decide_eq_true c5
        try have c5b2 : (9223372036854775807 < 2 + t311.size + 1) = False := eq_false (Nat.not_lt.2 c5)
        obtain rfl := Option.some.inj H
        go_enter Tryz.func31, Tryz.ntmps31
        go_wp2_with (first | ((with_reducible refine gate_callee (f := 101) rfl ?_); refine goesL_ (some 7) rfl rfl Tryz.func101 (by kernel_rfl) rfl #[.int .i64 a0] rfl (by (try simp only [List.map_toArray, List.map_cons, List.map_nil]); first | done | rfl | (simp only [List.length_drop, List.length_take]; rfl)) ?_; (with_reducible refine (strconv_Itoa.calls a0 t311 _ ?side1 A3.out).mono ?_); (case side1 => exact XTab.below HT.out (by repeat (first | (with_reducible first | exact HB.out | apply below_alloc | apply pw_below_drewN | apply below_drew1) | exact HB.out))); rintro e w6 ⟨rfl, hb⟩; refine ⟨_, rfl, ?_⟩; have n0_ := Aside0.mk (below_step (by repeat (first | (with_reducible first | exact HB.out | apply below_alloc | apply pw_below_drewN | apply below_drew1) | exact HB.out)) hb); clear HB; have HB := n0_; clear n0_; (try clear hb); (try clear hb2); (try clear hk); (try clear hi)))
        go_ret
        exact ⟨by first | rfl | (simp [errW_none, errW_some] <;> rfl) | (simp [*, errW_none, errW_some] <;> rfl), by repeat (first | (with_reducible first | exact HB.out | apply below_alloc | apply pw_below_drewN | apply below_drew1) | exact HB.out)⟩
      · rw [if_neg c5] at H
        exact absurd H (by simp)
    · rw [if_neg c4] at H
      exact absurd H (by simp)
  · rw [if_neg c2] at H
    have c2b0 : decide (1 < a0) = false := decide_eq_false c2
    clear c2
    by_cases c7 : 2 + 0 ≤ 9223372036854775807
    · rw [if_pos c7] at H
      have c7b0 := eq_true c7
      have c7b1 : decide (2 + 0 ≤ 9223372036854775807) = true := decide_eq_true c7
      try have c7b2 : (9223372036854775807 < 2 + 0) = False := eq_false (Nat.not_lt.2 c7)
      by_cases c8 : 2 + 0 + 1 ≤ 9223372036854775807
      · rw [if_pos c8] at H
        have c8b0 := eq_true c8
        have c8b1 : decide (2 + 0 + 1 ≤ 9223372036854775807) = true := decide_eq_true c8
        try have c8b2 : (9223372036854775807 < 2 + 0 + 1) = False := eq_false (Nat.not_lt.2 c8)
        obtain rfl := Option.some.inj H
        go_enter Tryz.func31, Tryz.ntmps31
        go_wp2
        go_ret
        exact ⟨by first | rfl | (simp [errW_none, errW_some] <;> rfl) | (simp [*, errW_none, errW_some] <;> rfl), by repeat (first | (with_reducible first | exact HB.out | apply below_alloc | apply pw_below_drewN | apply below_drew1) | exact HB.out)⟩
      · rw [if_neg c8] at H
        exact absurd H (by simp)
    · rw [if_neg c7] at H
      exact absurd H (by simp)
end Go.Proofs.YtjkpelaeelihhaaGreatDoorRR.Y
end
section
namespace Go.Proofs.YtjkpelaeelihhaaGreatDoorRR.Y
open Go.RowKit Go.Proofs.YtjkpelaeelihhaaGreatDoorRRW.PrintWords Go.Proofs.YtjkpelaeelihhaaGreatDoorRRW.PrintLast Go.Proofs.YtjkpelaeelihhaaGreatDoorRRW.PrintMore
attribute [local go_sem] max2_int min2_int max_two min_two max_three min_three max_four min_four   -- for this text's walks alone
set_option linter.unusedVariables false
set_option linter.unusedSimpArgs false
/-! ### xansi_CursorNextLine: function 32 -/
def xansi_CursorNextLine.f (a0 : Int) : Option (ByteArray) := if a0 > 1 then ((strconv_Itoa.f a0).bind fun t312 => (if 2 + t312.size ≤ 9223372036854775807 then (if 2 + t312.size + 1 ≤ 9223372036854775807 then (some (((⟨#[27, 91]⟩ : ByteArray) ++ t312) ++ (⟨#[69]⟩ : ByteArray))) else (none)) else (none))) else (if 2 + 0 ≤ 9223372036854775807 then (if 2 + 0 + 1 ≤ 9223372036854775807 then (some (((⟨#[27, 91]⟩ : ByteArray) ++ (⟨#[]⟩ : ByteArray)) ++ (⟨#[69]⟩ : ByteArray))) else (none)) else (none))
end Go.Proofs.YtjkpelaeelihhaaGreatDoorRR.Y
end
section
namespace Go.Proofs.YtjkpelaeelihhaaGreatDoorRR.Y
open Go.RowKit Go.Proofs.YtjkpelaeelihhaaGreatDoorRRW.PrintWords Go.Proofs.YtjkpelaeelihhaaGreatDoorRRW.PrintLast Go.Proofs.YtjkpelaeelihhaaGreatDoorRRW.PrintMore
attribute [local go_sem] max2_int min2_int max_two min_two max_three min_three max_four min_four   -- for this text's walks alone
set_option linter.unusedVariables false
set_option linter.unusedSimpArgs false
set_option maxHeartbeats 8000000 in
set_option maxRecDepth 100000 in
theorem xansi_CursorNextLine.calls (a0 : Int) (r : ByteArray) (w : World) (hT : XTab w) (h : xansi_CursorNextLine.f a0 = some r) :
    Calls Tryz.prog 32 #[.int .i64 a0] w fun e w' => e = .returned (.string r) ∧ Below w.heap.size w w' := by
  have HT := Aside0.mk hT
  clear hT
  have HB := Aside0.mk (Below.refl w.heap.size w)
  have H : (if a0 > 1 then ((strconv_Itoa.f a0).bind fun t312 => (if 2 + t312.size ≤ 9223372036854775807 then (if 2 + t312.size + 1 ≤ 9223372036854775807 then (some (((⟨#[27, 91]⟩ : ByteArray) ++ t312) ++ (⟨#[69]⟩ : ByteArray))) else (none)) else (none))) else (if 2 + 0 ≤ 9223372036854775807 then (if 2 + 0 + 1 ≤ 9223372036854775807 then (some (((⟨#[27, 91]⟩ : ByteArray) ++ (⟨#[]⟩ : ByteArray)) ++ (⟨#[69]⟩ : ByteArray))) else (none)) else (none))) = some r := h
  clear h
  by_cases c2 : a0 > 1
  · rw [if_pos c2] at H
    have c2b0 : decide (1 < a0) = true := decide_eq_true c2
    clear c2
    replace H := Option.bind_eq_some_iff.mp H
    obtain ⟨t312, A30, H⟩ := H
    replace H : (if 2 + t312.size ≤ 9223372036854775807 then (if 2 + t312.size + 1 ≤ 9223372036854775807 then (some (((⟨#[27, 91]⟩ : ByteArray) ++ t312) ++ (⟨#[69]⟩ : ByteArray))) else (none)) else (none)) = some r := H
    have A3 := Aside0.mk A30
    clear A30
    by_cases c4 : 2 + t312.size ≤ 9223372036854775807
    · rw [if_pos c4] at H
      have c4b0 := eq_true c4
      have c4b1 : decide (2 + t312.size ≤ 9223372036854775807) = true := decide_eq_true c4
      try have c4b2 : (9223372036854775807 < 2 + t312.size) = False := eq_false (Nat.not_lt.2 c4)
      by_cases c5 : 2 + t312.size + 1 ≤ 9223372036854775807
      · rw [if_pos c5] at H
        have c5b0 := eq_true c5
        have c5b1 : decide (2 + t312.size + 1 ≤ 9223372036854775807) = true := decide_eq_true c5
        try have c5b2 : (9223372036854775807 < 2 + t312.size + 1) = False := eq_false (Nat.not_lt.2 c5)
        obtain rfl := Option.some.inj H
        go_enter Tryz.func32, Tryz.ntmps32
        go_wp2_with (first | ((with_reducible refine gate_callee (f := 101) rfl ?_); refine goesL_ (some 7) rfl rfl Tryz.func101 (by kernel_rfl) rfl #[.int .i64 a0] rfl (by (try simp only [List.map_toArray, List.map_cons, List.map_nil]); first | done | rfl | (simp only [List.length_drop, List.length_take]; rfl)) ?_; (with_reducible refine (strconv_Itoa.calls a0 t312 _ ?side1 A3.out).mono ?_); (case side1 => exact XTab.below HT.out (by repeat (first | (with_reducible first | exact HB.out | apply below_alloc | apply pw_below_drewN | apply below_drew1) | exact HB.out))); rintro e w6 ⟨rfl, hb⟩; refine ⟨_, rfl, ?_⟩; have n0_ := Aside0.mk (below_step (by repeat (first | (with_reducible first | exact HB.out | apply below_alloc | apply pw_below_drewN | apply below_drew1) | exact HB.out)) hb); clear HB; have HB := n0_; clear n0_; (try clear hb); (try clear hb2); (try clear hk); (try clear hi)))
        go_ret
        exact ⟨by first | rfl | (simp [errW_none, errW_some] <;> rfl) | (simp [*, errW_none, errW_some] <;> rfl), by repeat (first | (with_reducible first | exact HB.out | apply below_alloc | apply pw_below_drewN | apply below_drew1) | exact HB.out)⟩
      · rw [if_neg c5] at H
        exact absurd H (by simp)
    · rw [if_neg c4] at H
      exact absurd H (by simp)
  · rw [if_neg c2] at H
    have c2b0 : decide (1 < a0) = false := decide_eq_false c2
    clear c2
    by_cases c7 : 2 + 0 ≤ 9223372036854775807
    · rw [if_pos c7] at H
      have c7b0 := eq_true c7
      have c7b1 : decide (2 + 0 ≤ 9223372036854775807) = true := decide_eq_true c7
      try have c7b2 : (9223372036854775807 < 2 + 0) = False := eq_false (Nat.not_lt.2 c7)
      by_cases c8 : 2 + 0 + 1 ≤ 9223372036854775807
      · rw [if_pos c8] at H
        have c8b0 := eq_true c8
        have c8b1 : decide (2 + 0 + 1 ≤ 9223372036854775807) = true := decide_eq_true c8
        try have c8b2 : (9223372036854775807 < 2 + 0 + 1) = False := eq_false (Nat.not_lt.2 c8)
        obtain rfl := Option.some.inj H
        go_enter Tryz.func32, Tryz.ntmps32
        go_wp2
        go_ret
        exact ⟨by first | rfl | (simp [errW_none, errW_some] <;> rfl) | (simp [*, errW_none, errW_some] <;> rfl), by repeat (first | (with_reducible first | exact HB.out | apply below_alloc | apply pw_below_drewN | apply below_drew1) | exact HB.out)⟩
      · rw [if_neg c8] at H
        exact absurd H (by simp)
    · rw [if_neg c7] at H
      exact absurd H (by simp)
end Go.Proofs.YtjkpelaeelihhaaGreatDoorRR.Y
end
section
namespace Go.Proofs.YtjkpelaeelihhaaGreatDoorRR.Y
open Go.RowKit Go.Proofs.YtjkpelaeelihhaaGreatDoorRRW.PrintWords Go.Proofs.YtjkpelaeelihhaaGreatDoorRRW.PrintLast Go.Proofs.YtjkpelaeelihhaaGreatDoorRRW.PrintMore
attribute [local go_sem] max2_int min2_int max_two min_two max_three min_three max_four min_four   -- for this text's walks alone
set_option linter.unusedVariables false
set_option linter.unusedSimpArgs false
/-! ### xansi_CursorPreviousLine: function 33 -/
def xansi_CursorPreviousLine.f (a0 : Int) : Option (ByteArray) := if a0 > 1 then ((strconv_Itoa.f a0).bind fun t313 => (if 2 + t313.size ≤ 9223372036854775807 then (if 2 + t313.size + 1 ≤ 9223372036854775807 then (some (((⟨#[27, 91]⟩ : ByteArray) ++ t313) ++ (⟨#[70]⟩ : ByteArray))) else (none)) else (none))) else (if 2 + 0 ≤ 9223372036854775807 then (if 2 + 0 + 1 ≤ 9223372036854775807 then (some (((⟨#[27, 91]⟩ : ByteArray) ++ (⟨#[]⟩ : ByteArray)) ++ (⟨#[70]⟩ : ByteArray))) else (none)) else (none))
end Go.Proofs.YtjkpelaeelihhaaGreatDoorRR.Y
end
section
namespace Go.Proofs.YtjkpelaeelihhaaGreatDoorRR.Y
open Go.RowKit Go.Proofs.YtjkpelaeelihhaaGreatDoorRRW.PrintWords Go.Proofs.YtjkpelaeelihhaaGreatDoorRRW.PrintLast Go.Proofs.YtjkpelaeelihhaaGreatDoorRRW.PrintMore
attribute [local go_sem] max2_int min2_int max_two min_two max_three min_three max_four min_four   -- for this text's walks alone
set_option linter.unusedVariables false
set_option linter.unusedSimpArgs false
set_option maxHeartbeats 8000000 in
set_option maxRecDepth 100000 in
theorem xansi_CursorPreviousLine.calls (a0 : Int) (r : ByteArray) (w : World) (hT : XTab w) (h : xansi_CursorPreviousLine.f a0 = some r) :
    Calls Tryz.prog 33 #[.int .i64 a0] w fun e w' => e = .returned (.string r) ∧ Below w.heap.size w w' := by
  have HT := Aside0.mk hT
  clear hT
  have HB := Aside0.mk (Below.refl w.heap.size w)
  have H : (if a0 > 1 then ((strconv_Itoa.f a0).bind fun t313 => (if 2 + t313.size ≤ 9223372036854775807 then (if 2 + t313.size + 1 ≤ 9223372036854775807 then (some (((⟨#[27, 91]⟩ : ByteArray) ++ t313) ++ (⟨#[70]⟩ : ByteArray))) else (none)) else (none))) else (if 2 + 0 ≤ 9223372036854775807 then (if 2 + 0 + 1 ≤ 9223372036854775807 then (some (((⟨#[27, 91]⟩ : ByteArray) ++ (⟨#[]⟩ : ByteArray)) ++ (⟨#[70]⟩ : ByteArray))) else (none)) else (none))) = some r := h
  clear h
  by_cases c2 : a0 > 1
  · rw [if_pos c2] at H
    have c2b0 : decide (1 < a0) = true := decide_eq_true c2
    clear c2
    replace H := Option.bind_eq_some_iff.mp H
    obtain ⟨t313, A30, H⟩ := H
    replace H : (if 2 + t313.size ≤ 9223372036854775807 then (if 2 + t313.size + 1 ≤ 9223372036854775807 then (some (((⟨#[27, 91]⟩ : ByteArray) ++ t313) ++ (⟨#[70]⟩ : ByteArray))) else (none)) else (none)) = some r := H
    have A3 := Aside0.mk A30
    clear A30
    by_cases c4 : 2 + t313.size ≤ 9223372036854775807
    · rw [if_pos c4] at H
      have c4b0 := eq_true c4
      have c4b1 : decide (2 + t313.size ≤ 9223372036854775807) = true := decide_eq_true c4
      try have c4b2 : (9223372036854775807 < 2 + t313.size) = False := eq_false (Nat.not_lt.2 c4)
      by_cases c5 : 2 + t313.size + 1 ≤ 9223372036854775807
      · rw [if_pos c5] at H
        have c5b0 := eq_true c5
        have c5b1 : decide (2 + t313.size + 1 ≤ 9223372036854775807) = true := decide_eq_true c5
        try have c5b2 : (9223372036854775807 < 2 + t313.size + 1) = False := eq_false (Nat.not_lt.2 c5)
        obtain rfl := Option.some.inj H
        go_enter Tryz.func33, Tryz.ntmps33
        go_wp2_with (first | ((with_reducible refine gate_callee (f := 101) rfl ?_); refine goesL_ (some 7) rfl rfl Tryz.func101 (by kernel_rfl) rfl #[.int .i64 a0] rfl (by (try simp only [List.map_toArray, List.map_cons, List.map_nil]); first | done | rfl | (simp only [List.length_drop, List.length_take]; rfl)) ?_; (with_reducible refine (strconv_Itoa.calls a0 t313 _ ?side1 A3.out).mono ?_); (case side1 => exact XTab.below HT.out (by repeat (first | (with_reducible first | exact HB.out | apply below_alloc | apply pw_below_drewN | apply below_drew1) | exact HB.out))); rintro e w6 ⟨rfl, hb⟩; refine ⟨_, rfl, ?_⟩; have n0_ := Aside0.mk (below_step (by repeat (first | (with_reducible first | exact HB.out | apply below_alloc | apply pw_below_drewN | apply below_drew1) | exact HB.out)) hb); clear HB; have HB := n0_; clear n0_; (try clear hb); (try clear hb2); (try clear hk); (try clear hi)))
        go_ret
        exact ⟨by first | rfl | (simp [errW_none, errW_some] <;> rfl) | (simp [*, errW_none, errW_some] <;> rfl), by repeat (first | (with_reducible first | exact HB.out | apply below_alloc | apply pw_below_drewN | apply below_drew1) | exact HB.out)⟩
      · rw [if_neg c5] at H
        exact absurd H (by simp)
    · rw [if_neg c4] at H
      exact absurd H (by simp)
  · rw [if_neg c2] at H
    have c2b0 : decide (1 < a0) = false := decide_eq_false c2
    clear c2
    by_cases c7 : 2 + 0 ≤ 9223372036854775807
    · rw [if_pos c7] at H
      have c7b0 := eq_true c7
      have c7b1 : decide (2 + 0 ≤ 9223372036854775807) = true := decide_eq_true c7
      try have c7b2 : (9223372036854775807 < 2 + 0) = False := eq_false (Nat.not_lt.2 c7)
      by_cases c8 : 2 + 0 + 1 ≤ 9223372036854775807
      · rw [if_pos c8] at H
        have c8b0 := eq_true c8
        have c8b1 : decide (2 + 0 + 1 ≤ 9223372036854775807) = true := decide_eq_true c8
        try have c8b2 : (9223372036854775807 < 2 + 0 + 1) = False := eq_false (Nat.not_lt.2 c8)
        obtain rfl := Option.some.inj H
        go_enter Tryz.func33, Tryz.ntmps33
        go_wp2
        go_ret
        exact ⟨by first | rfl | (simp [errW_none, errW_some] <;> rfl) | (simp [*, errW_none, errW_some] <;> rfl), by repeat (first | (with_reducible first | exact HB.out | apply below_alloc | apply pw_below_drewN | apply below_drew1) | exact HB.out)⟩
      · rw [if_neg c8] at H
        exact absurd H (by simp)
    · rw [if_neg c7] at H
      exact absurd H (by simp)
end Go.Proofs.YtjkpelaeelihhaaGreatDoorRR.Y
end
section
namespace Go.Proofs.YtjkpelaeelihhaaGreatDoorRR.Y
open Go.RowKit Go.Proofs.YtjkpelaeelihhaaGreatDoorRRW.PrintWords Go.Proofs.YtjkpelaeelihhaaGreatDoorRRW.PrintLast Go.Proofs.YtjkpelaeelihhaaGreatDoorRRW.PrintMore
attribute [local go_sem] max2_int min2_int max_two min_two max_three min_three max_four min_four   -- for this text's walks alone
set_option linter.unusedVariables false
set_option linter.unusedSimpArgs false
/-! ### xansi_CursorHorizontalAbsolute: function 34 -/
def xansi_CursorHorizontalAbsolute.f (a0 : Int) : Option (ByteArray) := if a0 > 0 then ((strconv_Itoa.f a0).bind fun t314 => (if 2 + t314.size ≤ 9223372036854775807 then (if 2 + t314.size + 1 ≤ 9223372036854775807 then (some (((⟨#[27, 91]⟩ : ByteArray) ++ t314) ++ (⟨#[71]⟩ : ByteArray))) else (none)) else (none))) else (if 2 + 0 ≤ 9223372036854775807 then (if 2 + 0 + 1 ≤ 9223372036854775807 then (some (((⟨#[27, 91]⟩ : ByteArray) ++ (⟨#[]⟩ : ByteArray)) ++ (⟨#[71]⟩ : ByteArray))) else (none)) else (none))
end Go.Proofs.YtjkpelaeelihhaaGreatDoorRR.Y
end
section
namespace Go.Proofs.YtjkpelaeelihhaaGreatDoorRR.Y
open Go.RowKit Go.Proofs.YtjkpelaeelihhaaGreatDoorRRW.PrintWords Go.Proofs.YtjkpelaeelihhaaGreatDoorRRW.PrintLast Go.Proofs.YtjkpelaeelihhaaGreatDoorRRW.PrintMore
attribute [local go_sem] max2_int min2_int max_two min_two max_three min_three max_four min_four   -- for this text's walks alone
set_option linter.unusedVariables false
set_option linter.unusedSimpArgs false
set_option maxHeartbeats 8000000 in
set_option maxRecDepth 100000 in
theorem xansi_CursorHorizontalAbsolute.calls (a0 : Int) (r : ByteArray) (w : World) (hT : XTab w) (h : xansi_CursorHorizontalAbsolute.f a0 = some r) :
    Calls Tryz.prog 34 #[.int .i64 a0] w fun e w' => e = .returned (.string r) ∧ Below w.heap.size w w' := by
  have HT := Aside0.mk hT
  clear hT
  have HB := Aside0.mk (Below.refl w.heap.size w)
  have H : (if a0 > 0 then ((strconv_Itoa.f a0).bind fun t314 => (if 2 + t314.size ≤ 9223372036854775807 then (if 2 + t314.size + 1 ≤ 9223372036854775807 then (some (((⟨#[27, 91]⟩ : ByteArray) ++ t314) ++ (⟨#[71]⟩ : ByteArray))) else (none)) else (none))) else (if 2 + 0 ≤ 9223372036854775807 then (if 2 + 0 + 1 ≤ 9223372036854775807 then (some (((⟨#[27, 91]⟩ : ByteArray) ++ (⟨#[]⟩ : ByteArray)) ++ (⟨#[71]⟩ : ByteArray))) else (none)) else (none))) = some r := h
  clear h
  by_cases c2 : a0 > 0
  · rw [if_pos c2] at H
    have c2b0 : decide (0 < a0) = true := decide_eq_true c2
    clear c2
    replace H := Option.bind_eq_some_iff.mp H
    obtain ⟨t314, A30, H⟩ := H
    replace H : (if 2 + t314.size ≤ 9223372036854775807 then (if 2 + t314.size + 1 ≤ 9223372036854775807 then (some (((⟨#[27, 91]⟩ : ByteArray) ++ t314) ++ (⟨#[71]⟩ : ByteArray))) else (none)) else (none)) = some r := H
    have A3 := Aside0.mk A30
    clear A30
    by_cases c4 : 2 + t314.size ≤ 9223372036854775807
    · rw [if_pos c4] at H
      have c4b0 := eq_true c4
      have c4b1 : decide (2 + t314.size ≤ 9223372036854775807) = true := decide_eq_true c4
      try have c4b2 : (9223372036854775807 < 2 + t314.size) = False := eq_false (Nat.not_lt.2 c4)
      by_cases c5 : 2 + t314.size + 1 ≤ 9223372036854775807
      · rw [if_pos c5] at H
        have c5b0 := eq_true c5
        have c5b1 : decide (2 + t314.size + 1 ≤ 9223372036854775807) = true := decide_eq_true c5
        try have c5b2 : (9223372036854775807 < 2 + t314.size + 1) = False := eq_false (Nat.not_lt.2 c5)
        obtain rfl := Option.some.inj H
        go_enter Tryz.func34, Tryz.ntmps34
        go_wp2_with (first | ((with_reducible refine gate_callee (f := 101) rfl ?_); refine goesL_ (some 7) rfl rfl Tryz.func101 (by kernel_rfl) rfl #[.int .i64 a0] rfl (by (try simp only [List.map_toArray, List.map_cons, List.map_nil]); first | done | rfl | (simp only [List.length_drop, List.length_take]; rfl)) ?_; (with_reducible refine (strconv_Itoa.calls a0 t314 _ ?side1 A3.out).mono ?_); (case side1 => exact XTab.below HT.out (by repeat (first | (with_reducible first | exact HB.out | apply below_alloc | apply pw_below_drewN | apply below_drew1) | exact HB.out))); rintro e w6 ⟨rfl, hb⟩; refine ⟨_, rfl, ?_⟩; have n0_ := Aside0.mk (below_step (by repeat (first | (with_reducible first | exact HB.out | apply below_alloc | apply pw_below_drewN | apply below_drew1) | exact HB.out)) hb); clear HB; have HB := n0_; clear n0_; (try clear hb); (try clear hb2); (try clear hk); (try clear hi)))
        go_ret
        exact ⟨by first | rfl | (simp [errW_none, errW_some] <;> rfl) | (simp [*, errW_none, errW_some] <;> rfl), by repeat (first | (with_reducible first | exact HB.out | apply below_alloc | apply pw_below_drewN | apply below_drew1) | exact HB.out)⟩
      · rw [if_neg c5] at H
        exact absurd H (by simp)
    · rw [if_neg c4] at H
      exact absurd H (by simp)
  · rw [if_neg c2] at H
    have c2b0 : decide (0 < a0) = false := decide_eq_false c2
    clear c2
    by_cases c7 : 2 + 0 ≤ 9223372036854775807
    · rw [if_pos c7] at H
      have c7b0 := eq_true c7
      have c7b1 : decide (2 + 0 ≤ 9223372036854775807) = true := decide_eq_true c7
      try have c7b2 : (9223372036854775807 < 2 + 0) = False := eq_false (Nat.not_lt.2 c7)
      by_cases c8 : 2 + 0 + 1 ≤ 9223372036854775807
      · rw [if_pos c8] at H
        have c8b0 := eq_true c8
        have c8b1 : decide (2 + 0 + 1 ≤ 9223372036854775807) = true := decide_eq_true c8
        try have c8b2 : (9223372036854775807 < 2 + 0 + 1) = False := eq_false (Nat.not_lt.2 c8)
        obtain rfl := Option.some.inj H
        go_enter Tryz.func34, Tryz.ntmps34
        go_wp2
        go_ret
        exact ⟨by first | rfl | (simp [errW_none, errW_some] <;> rfl) | (simp [*, errW_none, errW_some] <;> rfl), by repeat (first | (with_reducible first | exact HB.out | apply below_alloc | apply pw_below_drewN | apply below_drew1) | exact HB.out)⟩
      · rw [if_neg c8] at H
        exact absurd H (by simp)
    · rw [if_neg c7] at H
      exact absurd H (by simp)
end Go.Proofs.YtjkpelaeelihhaaGreatDoorRR.Y
end
section
namespace Go.Proofs.YtjkpelaeelihhaaGreatDoorRR.Y
open Go.RowKit Go.Proofs.YtjkpelaeelihhaaGreatDoorRRW.PrintWords Go.Proofs.YtjkpelaeelihhaaGreatDoorRRW.PrintLast Go.Proofs.YtjkpelaeelihhaaGreatDoorRRW.PrintMore
attribute [local go_sem] max2_int min2_int max_two min_two max_three min_three max_four min_four   -- for this text's walks alone
set_option linter.unusedVariables false
set_option linter.unusedSimpArgs false
/-! ### xansi_EraseCharacter: function 37 -/
def xansi_EraseCharacter.f (a0 : Int) : Option (ByteArray) := if a0 > 1 then ((strconv_Itoa.f a0).bind fun t315 => (if 2 + t315.size ≤ 9223372036854775807 then (if 2 + t315.size + 1 ≤ 9223372036854775807 then (some (((⟨#[27, 91]⟩ : ByteArray) ++ t315) ++ (⟨#[88]⟩ : ByteArray))) else (none)) else (none))) else (if 2 + 0 ≤ 9223372036854775807 then (if 2 + 0 + 1 ≤ 9223372036854775807 then (some (((⟨#[27, 91]⟩ : ByteArray) ++ (⟨#[]⟩ : ByteArray)) ++ (⟨#[88]⟩ : ByteArray))) else (none)) else (none))
end Go.Proofs.YtjkpelaeelihhaaGreatDoorRR.Y
end
section
namespace Go.Proofs.YtjkpelaeelihhaaGreatDoorRR.Y
open Go.RowKit Go.Proofs.YtjkpelaeelihhaaGreatDoorRRW.PrintWords Go.Proofs.YtjkpelaeelihhaaGreatDoorRRW.PrintLast Go.Proofs.YtjkpelaeelihhaaGreatDoorRRW.PrintMore
attribute [local go_sem] max2_int min2_int max_two min_two max_three min_three max_four min_four   -- for this text's walks alone
set_option linter.unusedVariables false
set_option linter.unusedSimpArgs false
set_option maxHeartbeats 8000000 in
set_option maxRecDepth 100000 in
theorem xansi_EraseCharacter.calls (a0 : Int) (r : ByteArray) (w : World) (hT : XTab w) (h : xansi_EraseCharacter.f a0 = some r) :
    Calls Tryz.prog 37 #[.int .i64 a0] w fun e w' => e = .returned (.string r) ∧ Below w.heap.size w w' := by
  have HT := Aside0.mk hT
  clear hT
  have HB := Aside0.mk (Below.refl w.heap.size w)
  have H : (if a0 > 1 then ((strconv_Itoa.f a0).bind fun t315 => (if 2 + t315.size ≤ 9223372036854775807 then (if 2 + t315.size + 1 ≤ 9223372036854775807 then (some (((⟨#[27, 91]⟩ : ByteArray) ++ t315) ++ (⟨#[88]⟩ : ByteArray))) else (none)) else (none))) else (if 2 + 0 ≤ 9223372036854775807 then (if 2 + 0 + 1 ≤ 9223372036854775807 then (some (((⟨#[27, 91]⟩ : ByteArray) ++ (⟨#[]⟩ : ByteArray)) ++ (⟨#[88]⟩ : ByteArray))) else (none)) else (none))) = some r := h
  clear h
  by_cases c2 : a0 > 1
  · rw [if_pos c2] at H
    have c2b0 : decide (1 < a0) = true := decide_eq_true c2
    clear c2
    replace H := Option.bind_eq_some_iff.mp H
    obtain ⟨t315, A30, H⟩ := H
    replace H : (if 2 + t315.size ≤ 9223372036854775807 then (if 2 + t315.size + 1 ≤ 9223372036854775807 then (some (((⟨#[27, 91]⟩ : ByteArray) ++ t315) ++ (⟨#[88]⟩ : ByteArray))) else (none)) else (none)) = some r := H
    have A3 := Aside0.mk A30
    clear A30
    by_cases c4 : 2 + t315.size ≤ 9223372036854775807
    · rw [if_pos c4] at H
      have c4b0 := eq_true c4
      have c4b1 : decide (2 + t315.size ≤ 9223372036854775807) = true := decide_eq_true c4
      try have c4b2 : (9223372036854775807 < 2 + t315.size) = False := eq_false (Nat.not_lt.2 c4)
      by_cases c5 : 2 + t315.size + 1 ≤ 9223372036854775807
      · rw [if_pos c5] at H
        have c5b0 := eq_true c5
        have c5b1 : decide (2 + t315.size + 1 ≤ 9223372036854775807) = true := decide_eq_true c5
        try have c5b2 : (9223372036854775807 < 2 + t315.size + 1) = False := eq_false (Nat.not_lt.2 c5)
        obtain rfl := Option.some.inj H
        go_enter Tryz.func37, Tryz.ntmps37
        go_wp2_with (first | ((with_reducible refine gate_callee (f := 101) rfl ?_); refine goesL_ (some 7) rfl rfl Tryz.func101 (by kernel_rfl) rfl #[.int .i64 a0] rfl (by (try simp only [List.map_toArray, List.map_cons, List.map_nil]); first | done | rfl | (simp only [List.length_drop, List.length_take]; rfl)) ?_; (with_reducible refine (strconv_Itoa.calls a0 t315 _ ?side1 A3.out).mono ?_); (case side1 => exact XTab.below HT.out (by repeat (first | (with_reducible first | exact HB.out | apply below_alloc | apply pw_below_drewN | apply below_drew1) | exact HB.out))); rintro e w6 ⟨rfl, hb⟩; refine ⟨_, rfl, ?_⟩; have n0_ := Aside0.mk (below_step (by repeat (first | (with_reducible first | exact HB.out | apply below_alloc | apply pw_below_drewN | apply below_drew1) | exact HB.out)) hb); clear HB; have HB := n0_; clear n0_; (try clear hb); (try clear hb2); (try clear hk); (try clear hi)))
        go_ret
        exact ⟨by first | rfl | (simp [errW_none, errW_some] <;> rfl) | (simp [*, errW_none, errW_some] <;> rfl), by repeat (first | (with_reducible first | exact HB.out | apply below_alloc | apply pw_below_drewN | apply below_drew1) | exact HB.out)⟩
      · rw [if_neg c5] at H
        exact absurd H (by simp)
    · rw [if_neg c4] at H
      exact absurd H (by simp)
  · rw [if_neg c2] at H
    have c2b0 : decide (1 < a0) = false := decide_eq_false c2
    clear c2
    by_cases c7 : 2 + 0 ≤ 9223372036854775807
    · rw [if_pos c7] at H
      have c7b0 := eq_true c7
      have c7b1 : decide (2 + 0 ≤ 9223372036854775807) = true := decide_eq_true c7
      try have c7b2 : (9223372036854775807 < 2 + 0) = False := eq_false (Nat.not_lt.2 c7)
      by_cases c8 : 2 + 0 + 1 ≤ 9223372036854775807
      · rw [if_pos c8] at H
        have c8b0 := eq_true c8
        have c8b1 : decide (2 + 0 + 1 ≤ 9223372036854775807) = true := decide_eq_true c8
        try have c8b2 : (9223372036854775807 < 2 + 0 + 1) = False := eq_false (Nat.not_lt.2 c8)
        obtain rfl := Option.some.inj H
        go_enter Tryz.func37, Tryz.ntmps37
        go_wp2
        go_ret
        exact ⟨by first | rfl | (simp [errW_none, errW_some] <;> rfl) | (simp [*, errW_none, errW_some] <;> rfl), by repeat (first | (with_reducible first | exact HB.out | apply below_alloc | apply pw_below_drewN | apply below_drew1) | exact HB.out)⟩
      · rw [if_neg c8] at H
        exact absurd H (by simp)
    · rw [if_neg c7] at H
      exact absurd H (by simp)
end Go.Proofs.YtjkpelaeelihhaaGreatDoorRR.Y
end
section
namespace Go.Proofs.YtjkpelaeelihhaaGreatDoorRR.Y
open Go.RowKit Go.Proofs.YtjkpelaeelihhaaGreatDoorRRW.PrintWords Go.Proofs.YtjkpelaeelihhaaGreatDoorRRW.PrintLast Go.Proofs.YtjkpelaeelihhaaGreatDoorRRW.PrintMore
attribute [local go_sem] max2_int min2_int max_two min_two max_three min_three max_four min_four   -- for this text's walks alone
set_option linter.unusedVariables false
set_option linter.unusedSimpArgs false
/-! ### xansi_EraseDisplay: function 38 -/
def xansi_EraseDisplay.f (a0 : Int) : Option (ByteArray) := if a0 > 0 then ((strconv_Itoa.f a0).bind fun t316 => (if 2 + t316.size ≤ 9223372036854775807 then (if 2 + t316.size + 1 ≤ 9223372036854775807 then (some (((⟨#[27, 91]⟩ : ByteArray) ++ t316) ++ (⟨#[74]⟩ : ByteArray))) else (none)) else (none))) else (if 2 + 0 ≤ 9223372036854775807 then (if 2 + 0 + 1 ≤ 9223372036854775807 then (some (((⟨#[27, 91]⟩ : ByteArray) ++ (⟨#[]⟩ : ByteArray)) ++ (⟨#[74]⟩ : ByteArray))) else (none)) else (none))
end Go.Proofs.YtjkpelaeelihhaaGreatDoorRR.Y
end
section
namespace Go.Proofs.YtjkpelaeelihhaaGreatDoorRR.Y
open Go.RowKit Go.Proofs.YtjkpelaeelihhaaGreatDoorRRW.PrintWords Go.Proofs.YtjkpelaeelihhaaGreatDoorRRW.PrintLast Go.Proofs.YtjkpelaeelihhaaGreatDoorRRW.PrintMore
attribute [local go_sem] max2_int min2_int max_two min_two max_three min_three max_four min_four   -- for this text's walks alone
set_option linter.unusedVariables false
set_option linter.unusedSimpArgs false
set_option maxHeartbeats 8000000 in
set_option maxRecDepth 100000 in
theorem xansi_EraseDisplay.calls (a0 : Int) (r : ByteArray) (w : World) (hT : XTab w) (h : xansi_EraseDisplay.f a0 = some r) :
    Calls Tryz.prog 38 #[.int .i64 a0] w fun e w' => e = .returned (.string r) ∧ Below w.heap.size w w' := by
  have HT := Aside0.mk hT
  clear hT
  have HB := Aside0.mk (Below.refl w.heap.size w)
  have H : (if a0 > 0 then ((strconv_Itoa.f a0).bind fun t316 => (if 2 + t316.size ≤ 9223372036854775807 then (if 2 + t316.size + 1 ≤ 9223372036854775807 then (some (((⟨#[27, 91]⟩ : ByteArray) ++ t316) ++ (⟨#[74]⟩ : ByteArray))) else (none)) else (none))) else (if 2 + 0 ≤ 9223372036854775807 then (if 2 + 0 + 1 ≤ 9223372036854775807 then (some (((⟨#[27, 91]⟩ : ByteArray) ++ (⟨#[]⟩ : ByteArray)) ++ (⟨#[74]⟩ : ByteArray))) else (none)) else (none))) = some r := h
  clear h
  by_cases c2 : a0 > 0
  · rw [if_pos c2] at H
    have c2b0 : decide (0 < a0) = true := decide_eq_true c2
    clear c2
    replace H := Option.bind_eq_some_iff.mp H
    obtain ⟨t316, A30, H⟩ := H
    replace H : (if 2 + t316.size ≤ 9223372036854775807 then (if 2 + t316.size + 1 ≤ 9223372036854775807 then (some (((⟨#[27, 91]⟩ : ByteArray) ++ t316) ++ (⟨#[74]⟩ : ByteArray))) else (none)) else (none)) = some r := H
    have A3 := Aside0.mk A30
    clear A30
    by_cases c4 : 2 + t316.size ≤ 9223372036854775807
    · rw [if_pos c4] at H
      have c4b0 := eq_true c4
      have c4b1 : decide (2 + t316.size ≤ 9223372036854775807) = true := decide_eq_true c4
      try have c4b2 : (9223372036854775807 < 2 + t316.size) = False := eq_false (Nat.not_lt.2 c4)
      by_cases c5 : 2 + t316.size + 1 ≤ 9223372036854775807
      · rw [if_pos c5] at H
        have c5b0 := eq_true c5
        have c5b1 : decide (2 + t316.size + 1 ≤ 9223372036854775807) = true := decide_eq_true c5
        try have c5b2 : (9223372036854775807 < 2 + t316.size + 1) = False := eq_false (Nat.not_lt.2 c5)
        obtain rfl := Option.some.inj H
        go_enter Tryz.func38, Tryz.ntmps38
        go_wp2_with (first | ((with_reducible refine gate_callee (f := 101) rfl ?_); refine goesL_ (some 7) rfl rfl Tryz.func101 (by kernel_rfl) rfl #[.int .i64 a0] rfl (by (try simp only [List.map_toArray, List.map_cons, List.map_nil]); first | done | rfl | (simp only [List.length_drop, List.length_take]; rfl)) ?_; (with_reducible refine (strconv_Itoa.calls a0 t316 _ ?side1 A3.out).mono ?_); (case side1 => exact XTab.below HT.out (by repeat (first | (with_reducible first | exact HB.out | apply below_alloc | apply pw_below_drewN | apply below_drew1) | exact HB.out))); rintro e w6 ⟨rfl, hb⟩; refine ⟨_, rfl, ?_⟩; have n0_ := Aside0.mk (below_step (by repeat (first | (with_reducible first | exact HB.out | apply below_alloc | apply pw_below_drewN | apply below_drew1) | exact HB.out)) hb); clear HB; have HB := n0_; clear n0_; (try clear hb); (try clear hb2); (try clear hk); (try clear hi)))
        go_ret
        exact ⟨by first | rfl | (simp [errW_none, errW_some] <;> rfl) | (simp [*, errW_none, errW_some] <;> rfl), by repeat (first | (with_reducible first | exact HB.out | apply below_alloc | apply pw_below_drewN | apply below_drew1) | exact HB.out)⟩
      · rw [if_neg c5] at H
        exact absurd H (by simp)
    · rw [if_neg c4] at H
      exact absurd H (by simp)
  · rw [if_neg c2] at H
    have c2b0 : decide (0 < a0) = false := decide_eq_false c2
    clear c2
    by_cases c7 : 2 + 0 ≤ 9223372036854775807
    · rw [if_pos c7] at H
      have c7b0 := eq_true c7
      have c7b1 : decide (2 + 0 ≤ 9223372036854775807) = true := decide_eq_true c7
      try have c7b2 : (9223372036854775807 < 2 + 0) = False := eq_false (Nat.not_lt.2 c7)
      by_cases c8 : 2 + 0 + 1 ≤ 9223372036854775807
      · rw [if_pos c8] at H
        have c8b0 := eq_true c8
        have c8b1 : decide (2 + 0 + 1 ≤ 9223372036854775807) = true := decide_eq_true c8
        try have c8b2 : (9223372036854775807 < 2 + 0 + 1) = False := eq_false (Nat.not_lt.2 c8)
        obtain rfl := Option.some.inj H
        go_enter Tryz.func38, Tryz.ntmps38
        go_wp2
        go_ret
        exact ⟨by first | rfl | (simp [errW_none, errW_some] <;> rfl) | (simp [*, errW_none, errW_some] <;> rfl), by repeat (first | (with_reducible first | exact HB.out | apply below_alloc | apply pw_below_drewN | apply below_drew1) | exact HB.out)⟩
      · rw [if_neg c8] at H
        exact absurd H (by simp)
    · rw [if_neg c7] at H
      exact absurd H (by simp)
end Go.Proofs.YtjkpelaeelihhaaGreatDoorRR.Y
end
section
namespace Go.Proofs.YtjkpelaeelihhaaGreatDoorRR.Y
open Go.RowKit Go.Proofs.YtjkpelaeelihhaaGreatDoorRRW.PrintWords Go.Proofs.YtjkpelaeelihhaaGreatDoorRRW.PrintLast Go.Proofs.YtjkpelaeelihhaaGreatDoorRRW.PrintMore
attribute [local go_sem] max2_int min2_int max_two min_two max_three min_three max_four min_four   -- for this text's walks alone
set_option linter.unusedVariables false
set_option linter.unusedSimpArgs false
/-! ### xansi_EraseLine: function 39 -/
def xansi_EraseLine.f (a0 : Int) : Option (ByteArray) := if a0 > 0 then ((strconv_Itoa.f a0).bind fun t317 => (if 2 + t317.size ≤ 9223372036854775807 then (if 2 + t317.size + 1 ≤ 9223372036854775807 then (some (((⟨#[27, 91]⟩ : ByteArray) ++ t317) ++ (⟨#[75]⟩ : ByteArray))) else (none)) else (none))) else (if 2 + 0 ≤ 9223372036854775807 then (if 2 + 0 + 1 ≤ 9223372036854775807 then (some (((⟨#[27, 91]⟩ : ByteArray) ++ (⟨#[]⟩ : ByteArray)) ++ (⟨#[75]⟩ : ByteArray))) else (none)) else (none))
end Go.Proofs.YtjkpelaeelihhaaGreatDoorRR.Y
end
section
namespace Go.Proofs.YtjkpelaeelihhaaGreatDoorRR.Y
open Go.RowKit Go.Proofs.YtjkpelaeelihhaaGreatDoorRRW.PrintWords Go.Proofs.YtjkpelaeelihhaaGreatDoorRRW.PrintLast Go.Proofs.YtjkpelaeelihhaaGreatDoorRRW.PrintMore
attribute [local go_sem] max2_int min2_int max_two min_two max_three min_three max_four min_four   -- for this text's walks alone
set_option linter.unusedVariables false
set_option linter.unusedSimpArgs false
set_option maxHeartbeats 8000000 in
set_option maxRecDepth 100000 in
theorem xansi_EraseLine.calls (a0 : Int) (r : ByteArray) (w : World) (hT : XTab w) (h : xansi_EraseLine.f a0 = some r) :
    Calls Tryz.prog 39 #[.int .i64 a0] w fun e w' => e = .returned (.string r) ∧ Below w.heap.size w w' := by
  have HT := Aside0.mk hT
  clear hT
  have HB := Aside0.mk (Below.refl w.heap.size w)
  have H : (if a0 > 0 then ((strconv_Itoa.f a0).bind fun t317 => (if 2 + t317.size ≤ 9223372036854775807 then (if 2 + t317.size + 1 ≤ 9223372036854775807 then (some (((⟨#[27, 91]⟩ : ByteArray) ++ t317) ++ (⟨#[75]⟩ : ByteArray))) else (none)) else (none))) else (if 2 + 0 ≤ 9223372036854775807 then (if 2 + 0 + 1 ≤ 9223372036854775807 then (some (((⟨#[27, 91]⟩ : ByteArray) ++ (⟨#[]⟩ : ByteArray)) ++ (⟨#[75]⟩ : ByteArray))) else (none)) else (none))) = some r := h
  clear h
  by_cases c2 : a0 > 0
  · rw [if_pos c2] at H
    have c2b0 : decide (0 < a0) = true := decide_eq_true c2
    clear c2
    replace H := Option.bind_eq_some_iff.mp H
    obtain ⟨t317, A30, H⟩ := H
    replace H : (if 2 + t317.size ≤ 9223372036854775807 then (if 2 + t317.size + 1 ≤ 9223372036854775807 then (some (((⟨#[27, 91]⟩ : ByteArray) ++ t317) ++ (⟨#[75]⟩ : ByteArray))) else (none)) else (none)) = some r := H
    have A3 := Aside0.mk A30
    clear A30
    by_cases c4 : 2 + t317.size ≤ 9223372036854775807
    · rw [if_pos c4] at H
      have c4b0 := eq_true c4
      have c4b1 : decide (2 + t317.size ≤ 9223372036854775807) = true := decide_eq_true c4
      try have c4b2 : (9223372036854775807 < 2 + t317.size) = False := eq_false (Nat.not_lt.2 c4)
      by_cases c5 : 2 + t317.size + 1 ≤ 9223372036854775807
      · rw [if_pos c5] at H
        have c5b0 := eq_true c5
        have c5b1 : decide (2 + t317.size + 1 ≤ 9223372036854775807) = true := decide_eq_true c5
        try have c5b2 : (9223372036854775807 < 2 + t317.size + 1) = False := eq_false (Nat.not_lt.2 c5)
        obtain rfl := Option.some.inj H
        go_enter Tryz.func39, Tryz.ntmps39
        go_wp2_with (first | ((with_reducible refine gate_callee (f := 101) rfl ?_); refine goesL_ (some 7) rfl rfl Tryz.func101 (by kernel_rfl) rfl #[.int .i64 a0] rfl (by (try simp only [List.map_toArray, List.map_cons, List.map_nil]); first | done | rfl | (simp only [List.length_drop, List.length_take]; rfl)) ?_; (with_reducible refine (strconv_Itoa.calls a0 t317 _ ?side1 A3.out).mono ?_); (case side1 => exact XTab.below HT.out (by repeat (first | (with_reducible first | exact HB.out | apply below_alloc | apply pw_below_drewN | apply below_drew1) | exact HB.out))); rintro e w6 ⟨rfl, hb⟩; refine ⟨_, rfl, ?_⟩; have n0_ := Aside0.mk (below_step (by repeat (first | (with_reducible first | exact HB.out | apply below_alloc | apply pw_below_drewN | apply below_drew1) | exact HB.out)) hb); clear HB; have HB := n0_; clear n0_; (try clear hb); (try clear hb2); (try clear hk); (try clear hi)))
        go_ret
        exact ⟨by first | rfl | (simp [errW_none, errW_some] <;> rfl) | (simp [*, errW_none, errW_some] <;> rfl), by repeat (first | (with_reducible first | exact HB.out | apply below_alloc | apply pw_below_drewN | apply below_drew1) | exact HB.out)⟩
      · rw [if_neg c5] at H
        exact absurd H (by simp)
    · rw [if_neg c4] at H
      exact absurd H (by simp)
  · rw [if_neg c2] at H
    have c2b0 : decide (0 < a0) = false := decide_eq_false c2
    clear c2
    by_cases c7 : 2 + 0 ≤ 9223372036854775807
    · rw [if_pos c7] at H
      have c7b0 := eq_true c7
      have c7b1 : decide (2 + 0 ≤ 9223372036854775807) = true := decide_eq_true c7
      try have c7b2 : (9223372036854775807 < 2 + 0) = False := eq_false (Nat.not_lt.2 c7)
      by_cases c8 : 2 + 0 + 1 ≤ 9223372036854775807
      · rw [if_pos c8] at H
        have c8b0 := eq_true c8
        have c8b1 : decide (2 + 0 + 1 ≤ 9223372036854775807) = true := decide_eq_true c8
        try have c8b2 : (9223372036854775807 < 2 + 0 + 1) = False := eq_false (Nat.not_lt.2 c8)
        obtain rfl := Option.some.inj H
        go_enter Tryz.func39, Tryz.ntmps39
        go_wp2
        go_ret
        exact ⟨by first | rfl | (simp [errW_none, errW_some] <;> rfl) | (simp [*, errW_none, errW_some] <;> rfl), by repeat (first | (with_reducible first | exact HB.out | apply below_alloc | apply pw_below_drewN | apply below_drew1) | exact HB.out)⟩
      · rw [if_neg c8] at H
        exact absurd H (by simp)
    · rw [if_neg c7] at H
      exact absurd H (by simp)
end Go.Proofs.YtjkpelaeelihhaaGreatDoorRR.Y
end
section
namespace Go.Proofs.YtjkpelaeelihhaaGreatDoorRR.Y
open Go.RowKit Go.Proofs.YtjkpelaeelihhaaGreatDoorRRW.PrintWords Go.Proofs.YtjkpelaeelihhaaGreatDoorRRW.PrintLast Go.Proofs.YtjkpelaeelihhaaGreatDoorRRW.PrintMore
attribute [local go_sem] max2_int min2_int max_two min_two max_three min_three max_four min_four   -- for this text's walks alone
set_option linter.unusedVariables false
set_option linter.unusedSimpArgs false
/-! ### xansi_ScrollUp: function 40 -/
def xansi_ScrollUp.f (a0 : Int) : Option (ByteArray) := if a0 > 1 then ((strconv_Itoa.f a0).bind fun t318 => (if 2 + t318.size ≤ 9223372036854775807 then (if 2 + t318.size + 1 ≤ 9223372036854775807 then (some (((⟨#[27, 91]⟩ : ByteArray) ++ t318) ++ (⟨#[83]⟩ : ByteArray))) else (none)) else (none))) else (if 2 + 0 ≤ 9223372036854775807 then (if 2 + 0 + 1 ≤ 9223372036854775807 then (some (((⟨#[27, 91]⟩ : ByteArray) ++ (⟨#[]⟩ : ByteArray)) ++ (⟨#[83]⟩ : ByteArray))) else (none)) else (none))
end Go.Proofs.YtjkpelaeelihhaaGreatDoorRR.Y
end
section
namespace Go.Proofs.YtjkpelaeelihhaaGreatDoorRR.Y
open Go.RowKit Go.Proofs.YtjkpelaeelihhaaGreatDoorRRW.PrintWords Go.Proofs.YtjkpelaeelihhaaGreatDoorRRW.PrintLast Go.Proofs.YtjkpelaeelihhaaGreatDoorRRW.PrintMore
attribute [local go_sem] max2_int min2_int max_two min_two max_three min_three max_four min_four   -- for this text's walks alone
set_option linter.unusedVariables false
set_option linter.unusedSimpArgs false
set_option maxHeartbeats 8000000 in
set_option maxRecDepth 100000 in
theorem xansi_ScrollUp.calls (a0 : Int) (r : ByteArray) (w : World) (hT : XTab w) (h : xansi_ScrollUp.f a0 = some r) :
    Calls Tryz.prog 40 #[.int .i64 a0] w fun e w' => e = .returned (.string r) ∧ Below w.heap.size w w' := by
  have HT := Aside0.mk hT
  clear hT
  have HB := Aside0.mk (Below.refl w.heap.size w)
  have H : (if a0 > 1 then ((strconv_Itoa.f a0).bind fun t318 => (if 2 + t318.size ≤ 9223372036854775807 then (if 2 + t318.size + 1 ≤ 9223372036854775807 then (some (((⟨#[27, 91]⟩ : ByteArray) ++ t318) ++ (⟨#[83]⟩ : ByteArray))) else (none)) else (none))) else (if 2 + 0 ≤ 9223372036854775807 then (if 2 + 0 + 1 ≤ 9223372036854775807 then (some (((⟨#[27, 91]⟩ : ByteArray) ++ (⟨#[]⟩ : ByteArray)) ++ (⟨#[83]⟩ : ByteArray))) else (none)) else (none))) = some r := h
  clear h
  by_cases c2 : a0 > 1
  · rw [if_pos c2] at H
    have c2b0 : decide (1 < a0) = true := decide_eq_true c2
    clear c2
    replace H := Option.bind_eq_some_iff.mp H
    obtain ⟨t318, A30, H⟩ := H
    replace H : (if 2 + t318.size ≤ 9223372036854775807 then (if 2 + t318.size + 1 ≤ 9223372036854775807 then (some (((⟨#[27, 91]⟩ : ByteArray) ++ t318) ++ (⟨#[83]⟩ : ByteArray))) else (none)) else (none)) = some r := H
    have A3 := Aside0.mk A30
    clear A30
    by_cases c4 : 2 + t318.size ≤ 9223372036854775807
    · rw [if_pos c4] at H
      have c4b0 := eq_true c4
      have c4b1 : decide (2 + t318.size ≤ 9223372036854775807) = true := decide_eq_true c4
      try have c4b2 : (9223372036854775807 < 2 + t318.size) = False := eq_false (Nat.not_lt.2 c4)
      by_cases c5 : 2 + t318.size + 1 ≤ 9223372036854775807
      · rw [if_pos c5] at H
        have c5b0 := eq_true c5
        have c5b1 : decide (2 + t318.size + 1 ≤ 9223372036854775807) = true := decide_eq_true c5
        try have c5b2 : (9223372036854775807 < 2 + t318.size + 1) = False := eq_false (Nat.not_lt.2 c5)
        obtain rfl := Option.some.inj H
        go_enter Tryz.func40, Tryz.ntmps40
        go_wp2_with (first | ((with_reducible refine gate_callee (f := 101) rfl ?_); refine goesL_ (some 7) rfl rfl Tryz.func101 (by kernel_rfl) rfl #[.int .i64 a0] rfl (by (try simp only [List.map_toArray, List.map_cons, List.map_nil]); first | done | rfl | (simp only [List.length_drop, List.length_take]; rfl)) ?_; (with_reducible refine (strconv_Itoa.calls a0 t318 _ ?side1 A3.out).mono ?_); (case side1 => exact XTab.below HT.out (by repeat (first | (with_reducible first | exact HB.out | apply below_alloc | apply pw_below_drewN | apply below_drew1) | exact HB.out))); rintro e w6 ⟨rfl, hb⟩; refine ⟨_, rfl, ?_⟩; have n0_ := Aside0.mk (below_step (by repeat (first | (with_reducible first | exact HB.out | apply below_alloc | apply pw_below_drewN | apply below_drew1) | exact HB.out)) hb); clear HB; have HB := n0_; clear n0_; (try clear hb); (try clear hb2); (try clear hk); (try clear hi)))
        go_ret
        exact ⟨by first | rfl | (simp [errW_none, errW_some] <;> rfl) | (simp [*, errW_none, errW_some] <;> rfl), by repeat (first | (with_reducible first | exact HB.out | apply below_alloc | apply pw_below_drewN | apply below_drew1) | exact HB.out)⟩
      · rw [if_neg c5] at H
        exact absurd H (by simp)
    · rw [if_neg c4] at H
      exact absurd H (by simp)
  · rw [if_neg c2] at H
    have c2b0 : decide (1 < a0) = false := decide_eq_false c2
    clear c2
    by_cases c7 : 2 + 0 ≤ 9223372036854775807
    · rw [if_pos c7] at H
      have c7b0 := eq_true c7
      have c7b1 : decide (2 + 0 ≤ 9223372036854775807) = true := decide_eq_true c7
      try have c7b2 : (9223372036854775807 < 2 + 0) = False := eq_false (Nat.not_lt.2 c7)
      by_cases c8 : 2 + 0 + 1 ≤ 9223372036854775807
      · rw [if_pos c8] at H
        have c8b0 := eq_true c8
        have c8b1 : decide (2 + 0 + 1 ≤ 9223372036854775807) = true := decide_eq_true c8
        try have c8b2 : (9223372036854775807 < 2 + 0 + 1) = False := eq_false (Nat.not_lt.2 c8)
        obtain rfl := Option.some.inj H
        go_enter Tryz.func40, Tryz.ntmps40
        go_wp2
        go_ret
        exact ⟨by first | rfl | (simp [errW_none, errW_some] <;> rfl) | (simp [*, errW_none, errW_some] <;> rfl), by repeat (first | (with_reducible first | exact HB.out | apply below_alloc | apply pw_below_drewN | apply below_drew1) | exact HB.out)⟩
      · rw [if_neg c8] at H
        exact absurd H (by simp)
    · rw [if_neg c7] at H
      exact absurd H (by simp)
end Go.Proofs.YtjkpelaeelihhaaGreatDoorRR.Y
end
section
namespace Go.Proofs.YtjkpelaeelihhaaGreatDoorRR.Y
open Go.RowKit Go.Proofs.YtjkpelaeelihhaaGreatDoorRRW.PrintWords Go.Proofs.YtjkpelaeelihhaaGreatDoorRRW.PrintLast Go.Proofs.YtjkpelaeelihhaaGreatDoorRRW.PrintMore
attribute [local go_sem] max2_int min2_int max_two min_two max_three min_three max_four min_four   -- for this text's walks alone
set_option linter.unusedVariables false
set_option linter.unusedSimpArgs false
/-! ### xansi_ScrollDown: function 41 -/
def xansi_ScrollDown.f (a0 : Int) : Option (ByteArray) := if a0 > 1 then ((strconv_Itoa.f a0).bind fun t319 => (if 2 + t319.size ≤ 9223372036854775807 then (if 2 + t319.size + 1 ≤ 9223372036854775807 then (some (((⟨#[27, 91]⟩ : ByteArray) ++ t319) ++ (⟨#[84]⟩ : ByteArray))) else (none)) else (none))) else (if 2 + 0 ≤ 9223372036854775807 then (if 2 + 0 + 1 ≤ 9223372036854775807 then (some (((⟨#[27, 91]⟩ : ByteArray) ++ (⟨#[]⟩ : ByteArray)) ++ (⟨#[84]⟩ : ByteArray))) else (none)) else (none))
end Go.Proofs.YtjkpelaeelihhaaGreatDoorRR.Y
end
section
namespace Go.Proofs.YtjkpelaeelihhaaGreatDoorRR.Y
open Go.RowKit Go.Proofs.YtjkpelaeelihhaaGreatDoorRRW.PrintWords Go.Proofs.YtjkpelaeelihhaaGreatDoorRRW.PrintLast Go.Proofs.YtjkpelaeelihhaaGreatDoorRRW.PrintMore
attribute [local go_sem] max2_int min2_int max_two min_two max_three min_three max_four min_four   -- for this text's walks alone
set_option linter.unusedVariables false
set_option linter.unusedSimpArgs false
set_option maxHeartbeats 8000000 in
set_option maxRecDepth 100000 in
theorem xansi_ScrollDown.calls (a0 : Int) (r : ByteArray) (w : World) (hT : XTab w) (h : xansi_ScrollDown.f a0 = some r) :
    Calls Tryz.prog 41 #[.int .i64 a0] w fun e w' => e = .returned (.string r) ∧ Below w.heap.size w w' := by
  have HT := Aside0.mk hT
  clear hT
  have HB := Aside0.mk (Below.refl w.heap.size w)
  have H : (if a0 > 1 then ((strconv_Itoa.f a0).bind fun t319 => (if 2 + t319.size ≤ 9223372036854775807 then (if 2 + t319.size + 1 ≤ 9223372036854775807 then (some (((⟨#[27, 91]⟩ : ByteArray) ++ t319) ++ (⟨#[84]⟩ : ByteArray))) else (none)) else (none))) else (if 2 + 0 ≤ 9223372036854775807 then (if 2 + 0 + 1 ≤ 9223372036854775807 then (some (((⟨#[27, 91]⟩ : ByteArray) ++ (⟨#[]⟩ : ByteArray)) ++ (⟨#[84]⟩ : ByteArray))) else (none)) else (none))) = some r := h
  clear h
  by_cases c2 : a0 > 1
  · rw [if_pos c2] at H
    have c2b0 : decide (1 < a0) = true := decide_eq_true c2
    clear c2
    replace H := Option.bind_eq_some_iff.mp H
    obtain ⟨t319, A30, H⟩ := H
    replace H : (if 2 + t319.size ≤ 9223372036854775807 then (if 2 + t319.size + 1 ≤ 9223372036854775807 then (some (((⟨#[27, 91]⟩ : ByteArray) ++ t319) ++ (⟨#[84]⟩ : ByteArray))) else (none)) else (none)) = some r := H
    have A3 := Aside0.mk A30
    clear A30
    by_cases c4 : 2 + t319.size ≤ 9223372036854775807
    · rw [if_pos c4] at H
      have c4b0 := eq_true c4
      have c4b1 : decide (2 + t319.size ≤ 9223372036854775807) = true := decide_eq_true c4
      try have c4b2 : (9223372036854775807 < 2 + t319.size) = False := eq_false (Nat.not_lt.2 c4)
      by_cases c5 : 2 + t319.size + 1 ≤ 9223372036854775807
      · rw [if_pos c5] at H
        have c5b0 := eq_true c5
        have c5b1 : decide (2 + t319.size + 1 ≤ 9223372036854775807) = true := decide_eq_true c5
        try have c5b2 : (9223372036854775807 < 2 + t319.size + 1) = False := eq_false (Nat.not_lt.2 c5)
        obtain rfl := Option.some.inj H
        go_enter Tryz.func41, Tryz.ntmps41
        go_wp2_with (first | ((with_reducible refine gate_callee (f := 101) rfl ?_); refine goesL_ (some 7) rfl rfl Tryz.func101 (by kernel_rfl) rfl #[.int .i64 a0] rfl (by (try simp only [List.map_toArray, List.map_cons, List.map_nil]); first | done | rfl | (simp only [List.length_drop, List.length_take]; rfl)) ?_; (with_reducible refine (strconv_Itoa.calls a0 t319 _ ?side1 A3.out).mono ?_); (case side1 => exact XTab.below HT.out (by repeat (first | (with_reducible first | exact HB.out | apply below_alloc | apply pw_below_drewN | apply below_drew1) | exact HB.out))); rintro e w6 ⟨rfl, hb⟩; refine ⟨_, rfl, ?_⟩; have n0_ := Aside0.mk (below_step (by repeat (first | (with_reducible first | exact HB.out | apply below_alloc | apply pw_below_drewN | apply below_drew1) | exact HB.out)) hb); clear HB; have HB := n0_; clear n0_; (try clear hb); (try clear hb2); (try clear hk); (try clear hi)))
        go_ret
        exact ⟨by first | rfl | (simp [errW_none, errW_some] <;> rfl) | (simp [*, errW_none, errW_some] <;> rfl), by repeat (first | (with_reducible first | exact HB.out | apply below_alloc | apply pw_below_drewN | apply below_drew1) | exact HB.out)⟩
      · rw [if_neg c5] at H
        exact absurd H (by simp)
    · rw [if_neg c4] at H
      exact absurd H (by simp)
  · rw [if_neg c2] at H
    have c2b0 : decide (1 < a0) = false := decide_eq_false c2
    clear c2
    by_cases c7 : 2 + 0 ≤ 9223372036854775807
    · rw [if_pos c7] at H
      have c7b0 := eq_true c7
      have c7b1 : decide (2 + 0 ≤ 9223372036854775807) = true := decide_eq_true c7
      try have c7b2 : (9223372036854775807 < 2 + 0) = False := eq_false (Nat.not_lt.2 c7)
      by_cases c8 : 2 + 0 + 1 ≤ 9223372036854775807
      · rw [if_pos c8] at H
        have c8b0 := eq_true c8
        have c8b1 : decide (2 + 0 + 1 ≤ 9223372036854775807) = true := decide_eq_true c8
        try have c8b2 : (9223372036854775807 < 2 + 0 + 1) = False := eq_false (Nat.not_lt.2 c8)
        obtain rfl := Option.some.inj H
        go_enter Tryz.func41, Tryz.ntmps41
        go_wp2
        go_ret
        exact ⟨by first | rfl | (simp [errW_none, errW_some] <;> rfl) | (simp [*, errW_none, errW_some] <;> rfl), by repeat (first | (with_reducible first | exact HB.out | apply below_alloc | apply pw_below_drewN | apply below_drew1) | exact HB.out)⟩
      · rw [if_neg c8] at H
        exact absurd H (by simp)
    · rw [if_neg c7] at H
      exact absurd H (by simp)
end Go.Proofs.YtjkpelaeelihhaaGreatDoorRR.Y
end
section
namespace Go.Proofs.YtjkpelaeelihhaaGreatDoorRR.Y
open Go.RowKit Go.Proofs.YtjkpelaeelihhaaGreatDoorRRW.PrintWords Go.Proofs.YtjkpelaeelihhaaGreatDoorRRW.PrintLast Go.Proofs.YtjkpelaeelihhaaGreatDoorRRW.PrintMore
attribute [local go_sem] max2_int min2_int max_two min_two max_three min_three max_four min_four   -- for this text's walks alone
set_option linter.unusedVariables false
set_option linter.unusedSimpArgs false
/-! ### xansi_InsertLine: function 42 -/
def xansi_InsertLine.f (a0 : Int) : Option (ByteArray) := if a0 > 1 then ((strconv_Itoa.f a0).bind fun t320 => (if 2 + t320.size ≤ 9223372036854775807 then (if 2 + t320.size + 1 ≤ 9223372036854775807 then (some (((⟨#[27, 91]⟩ : ByteArray) ++ t320) ++ (⟨#[76]⟩ : ByteArray))) else (none)) else (none))) else (if 2 + 0 ≤ 9223372036854775807 then (if 2 + 0 + 1 ≤ 9223372036854775807 then (some (((⟨#[27, 91]⟩ : ByteArray) ++ (⟨#[]⟩ : ByteArray)) ++ (⟨#[76]⟩ : ByteArray))) else (none)) else (none))
end Go.Proofs.YtjkpelaeelihhaaGreatDoorRR.Y
end
