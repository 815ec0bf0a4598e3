/- Texts of this claim, joined: Y72 Y73D Y73 Y74D Y74 Y75D Y75 Y76D Y76 Y77D Y77 Y78D Y78 Y79D Y79 Y80D Y80 Y81D. Of each, what the claim uses. -/
import Derived.Test.YteebhoehflgfoaaGreatDoorKac
import Derived.Test.YteebhoehflgfoaaGreatDoorKaq
section
namespace Go.Proofs.YteebhoehflgfoaaGreatDoor.Y
open Go.RowKit Go.Proofs.YteebhoehflgfoaaGreatDoorW.PrintWords Go.Proofs.YteebhoehflgfoaaGreatDoorW.PrintLast Go.Proofs.YteebhoehflgfoaaGreatDoorW.PrintMore
attribute [local go_sem] max2_int min2_int max_two min_two max_three min_three max_four min_four
set_option linter.unusedVariables false
set_option linter.unusedSimpArgs false
set_option maxHeartbeats 8000000 in
set_option maxRecDepth 100000 in
theorem xansi_CursorBackward.calls (a0 : Int) (r : ByteArray) (w : World) (hT : XTab w) (h : xansi_CursorBackward.f a0 = some r) :
  Calls Tryz.prog 72 #[.int .i64 a0] w fun e w' => e = .returned (.string r) ∧ Below w.heap.size w w' := by
 have HT := Aside0.mk hT
 clear hT
 have HB := Aside0.mk (Below.refl w.heap.size w)
 have H : (if a0 > 1 then ((strconv_Itoa.f a0).bind fun t384 => (if 2 + t384.size ≤ 9223372036854775807 then (if 2 + t384.size + 1 ≤ 9223372036854775807 then (some (((⟨#[27, 91]⟩ : ByteArray) ++ t384) ++ (⟨#[68]⟩ : ByteArray))) else (none)) else (none))) else (if 2 + 0 ≤ 9223372036854775807 then (if 2 + 0 + 1 ≤ 9223372036854775807 then (some (((⟨#[27, 91]⟩ : ByteArray) ++ (⟨#[]⟩ : ByteArray)) ++ (⟨#[68]⟩ : ByteArray))) else (none)) else (none))) = some r := h
 clear h
 by_cases c2 : a0 > 1
 ·rw [if_pos c2] at H
  have c2b0 : decide (1 < a0) = true := decide_eq_true c2
  clear c2
  replace H := Option.bind_eq_some_iff.mp H
  obtain ⟨t384, A30, H⟩ := H
  replace H : (if 2 + t384.size ≤ 9223372036854775807 then (if 2 + t384.size + 1 ≤ 9223372036854775807 then (some (((⟨#[27, 91]⟩ : ByteArray) ++ t384) ++ (⟨#[68]⟩ : ByteArray))) else (none)) else (none)) = some r := H
  have A3 := Aside0.mk A30
  clear A30
  by_cases c4 : 2 + t384.size ≤ 9223372036854775807
  ·rw [if_pos c4] at H
   have c4b0 := eq_true c4
   have c4b1 : decide (2 + t384.size ≤ 9223372036854775807) = true := decide_eq_true c4
   try have c4b2 : (9223372036854775807 < 2 + t384.size) = False := eq_false (Nat.not_lt.2 c4)
   by_cases c5 : 2 + t384.size + 1 ≤ 9223372036854775807
   ·rw [if_pos c5] at H
    have c5b0 := eq_true c5
    have c5b1 : decide (2 + t384.size + 1 ≤ 9223372036854775807) = true := decide_eq_true c5
    try have c5b2 : (9223372036854775807 < 2 + t384.size + 1) = False := eq_false (Nat.not_lt.2 c5)
    obtain rfl := Option.some.inj H
    go_enter Tryz.func72, Tryz.ntmps72
    go_wp2_with (first | ((with_reducible refine gate_callee (f := 103) rfl ?_); refine goesL_ (some 7) rfl rfl Tryz.func103 (by kernel_rfl) rfl #[.int .i64 a0] rfl (by (try simp only [List.map_toArray, List.map_cons, List.map_nil]); first | done | rfl | (simp only [List.length_drop, List.length_take]; rfl)) ?_; (with_reducible refine (strconv_Itoa.calls a0 t384 _ ?side1 A3.out).mono ?_); (case side1 => exact XTab.below HT.out (by repeat (first | (with_reducible first | exact HB.out | apply below_alloc | apply pw_below_drewN | apply below_drew1) | exact HB.out))); rintro e w6 ⟨rfl, hb⟩; refine ⟨_, rfl, ?_⟩; have n0_ := Aside0.mk (below_step (by repeat (first | (with_reducible first | exact HB.out | apply below_alloc | apply pw_below_drewN | apply below_drew1) | exact HB.out)) hb); clear HB; have HB := n0_; clear n0_; (try clear hb); (try clear hb2); (try clear hk); (try clear hi)))
    go_ret
    exact ⟨by first | rfl | (simp [errW_none, errW_some] <;> rfl) | (simp [*, errW_none, errW_some] <;> rfl), by repeat (first | (with_reducible first | exact HB.out | apply below_alloc | apply pw_below_drewN | apply below_drew1) | exact HB.out)⟩
   ·rw [if_neg c5] at H
    exact absurd H (by simp)
  ·rw [if_neg c4] at H
   exact absurd H (by simp)
 ·rw [if_neg c2] at H
  have c2b0 : decide (1 < a0) = false := decide_eq_false c2
  clear c2
  by_cases c7 : 2 + 0 ≤ 9223372036854775807
  ·rw [if_pos c7] at H
   have c7b0 := eq_true c7
   have c7b1 : decide (2 + 0 ≤ 9223372036854775807) = true := decide_eq_true c7
   try have c7b2 : (9223372036854775807 < 2 + 0) = False := eq_false (Nat.not_lt.2 c7)
   by_cases c8 : 2 + 0 + 1 ≤ 9223372036854775807
   ·rw [if_pos c8] at H
    have c8b0 := eq_true c8
    have c8b1 : decide (2 + 0 + 1 ≤ 9223372036854775807) = true := decide_eq_true c8
    try have c8b2 : (9223372036854775807 < 2 + 0 + 1) = False := eq_false (Nat.not_lt.2 c8)
    obtain rfl := Option.some.inj H
    go_enter Tryz.func72, Tryz.ntmps72
    go_wp2
    go_ret
    exact ⟨by first | rfl | (simp [errW_none, errW_some] <;> rfl) | (simp [*, errW_none, errW_some] <;> rfl), by repeat (first | (with_reducible first | exact HB.out | apply below_alloc | apply pw_below_drewN | apply below_drew1) | exact HB.out)⟩
   ·rw [if_neg c8] at H
    exact absurd H (by simp)
  ·rw [if_neg c7] at H
   exact absurd H (by simp)
/-! ### xansi_CursorNextLine: function 73 -/
def xansi_CursorNextLine.f (a0 : Int) : Option (ByteArray) := if a0 > 1 then ((strconv_Itoa.f a0).bind fun t385 => (if 2 + t385.size ≤ 9223372036854775807 then (if 2 + t385.size + 1 ≤ 9223372036854775807 then (some (((⟨#[27, 91]⟩ : ByteArray) ++ t385) ++ (⟨#[69]⟩ : ByteArray))) else (none)) else (none))) else (if 2 + 0 ≤ 9223372036854775807 then (if 2 + 0 + 1 ≤ 9223372036854775807 then (some (((⟨#[27, 91]⟩ : ByteArray) ++ (⟨#[]⟩ : ByteArray)) ++ (⟨#[69]⟩ : ByteArray))) else (none)) else (none))
set_option maxHeartbeats 8000000 in
set_option maxRecDepth 100000 in
theorem xansi_CursorNextLine.calls (a0 : Int) (r : ByteArray) (w : World) (hT : XTab w) (h : xansi_CursorNextLine.f a0 = some r) :
  Calls Tryz.prog 73 #[.int .i64 a0] w fun e w' => e = .returned (.string r) ∧ Below w.heap.size w w' := by
 have HT := Aside0.mk hT
 clear hT
 have HB := Aside0.mk (Below.refl w.heap.size w)
 have H : (if a0 > 1 then ((strconv_Itoa.f a0).bind fun t385 => (if 2 + t385.size ≤ 9223372036854775807 then (if 2 + t385.size + 1 ≤ 9223372036854775807 then (some (((⟨#[27, 91]⟩ : ByteArray) ++ t385) ++ (⟨#[69]⟩ : ByteArray))) else (none)) else (none))) else (if 2 + 0 ≤ 9223372036854775807 then (if 2 + 0 + 1 ≤ 9223372036854775807 then (some (((⟨#[27, 91]⟩ : ByteArray) ++ (⟨#[]⟩ : ByteArray)) ++ (⟨#[69]⟩ : ByteArray))) else (none)) else (none))) = some r := h
 clear h
 by_cases c2 : a0 > 1
 ·rw [if_pos c2] at H
  have c2b0 : decide (1 < a0) = true := decide_eq_true c2
  clear c2
  replace H := Option.bind_eq_some_iff.mp H
  obtain ⟨t385, A30, H⟩ := H
  replace H : (if 2 + t385.size ≤ 9223372036854775807 then (if 2 + t385.size + 1 ≤ 9223372036854775807 then (some (((⟨#[27, 91]⟩ : ByteArray) ++ t385) ++ (⟨#[69]⟩ : ByteArray))) else (none)) else (none)) = some r := H
  have A3 := Aside0.mk A30
  clear A30
  by_cases c4 : 2 + t385.size ≤ 9223372036854775807
  ·rw [if_pos c4] at H
   have c4b0 := eq_true c4
   have c4b1 : decide (2 + t385.size ≤ 9223372036854775807) = true := decide_eq_true c4
   try have c4b2 : (9223372036854775807 < 2 + t385.size) = False := eq_false (Nat.not_lt.2 c4)
   by_cases c5 : 2 + t385.size + 1 ≤ 9223372036854775807
   ·rw [if_pos c5] at H
    have c5b0 := eq_true c5
    have c5b1 : decide (2 + t385.size + 1 ≤ 9223372036854775807) = true := decide_eq_true c5
    try have c5b2 : (9223372036854775807 < 2 + t385.size + 1) = False := eq_false (Nat.not_lt.2 c5)
    obtain rfl := Option.some.inj H
    go_enter Tryz.func73, Tryz.ntmps73
    go_wp2_with (first | ((with_reducible refine gate_callee (f := 103) rfl ?_); refine goesL_ (some 7) rfl rfl Tryz.func103 (by kernel_rfl) rfl #[.int .i64 a0] rfl (by (try simp only [List.map_toArray, List.map_cons, List.map_nil]); first | done | rfl | (simp only [List.length_drop, List.length_take]; rfl)) ?_; (with_reducible refine (strconv_Itoa.calls a0 t385 _ ?side1 A3.out).mono ?_); (case side1 => exact XTab.below HT.out (by repeat (first | (with_reducible first | exact HB.out | apply below_alloc | apply pw_below_drewN | apply below_drew1) | exact HB.out))); rintro e w6 ⟨rfl, hb⟩; refine ⟨_, rfl, ?_⟩; have n0_ := Aside0.mk (below_step (by repeat (first | (with_reducible first | exact HB.out | apply below_alloc | apply pw_below_drewN | apply below_drew1) | exact HB.out)) hb); clear HB; have HB := n0_; clear n0_; (try clear hb); (try clear hb2); (try clear hk); (try clear hi)))
    go_ret
    exact ⟨by first | rfl | (simp [errW_none, errW_some] <;> rfl) | (simp [*, errW_none, errW_some] <;> rfl), by repeat (first | (with_reducible first | exact HB.out | apply below_alloc | apply pw_below_drewN | apply below_drew1) | exact HB.out)⟩
   ·rw [if_neg c5] at H
    exact absurd H (by simp)
  ·rw [if_neg c4] at H
   exact absurd H (by simp)
 ·rw [if_neg c2] at H
  have c2b0 : decide (1 < a0) = false := decide_eq_false c2
  clear c2
  by_cases c7 : 2 + 0 ≤ 9223372036854775807
  ·rw [if_pos c7] at H
   have c7b0 := eq_true c7
   have c7b1 : decide (2 + 0 ≤ 9223372036854775807) = true := decide_eq_true c7
   try have c7b2 : (9223372036854775807 < 2 + 0) = False := eq_false (Nat.not_lt.2 c7)
   by_cases c8 : 2 + 0 + 1 ≤ 9223372036854775807
   ·rw [if_pos c8] at H
    have c8b0 := eq_true c8
    have c8b1 : decide (2 + 0 + 1 ≤ 9223372036854775807) = true := decide_eq_true c8
    try have c8b2 : (9223372036854775807 < 2 + 0 + 1) = False := eq_false (Nat.not_lt.2 c8)
    obtain rfl := Option.some.inj H
    go_enter Tryz.func73, Tryz.ntmps73
    go_wp2
    go_ret
    exact ⟨by first | rfl | (simp [errW_none, errW_some] <;> rfl) | (simp [*, errW_none, errW_some] <;> rfl), by repeat (first | (with_reducible first | exact HB.out | apply below_alloc | apply pw_below_drewN | apply below_drew1) | exact HB.out)⟩
   ·rw [if_neg c8] at H
    exact absurd H (by simp)
  ·rw [if_neg c7] at H
   exact absurd H (by simp)
/-! ### xansi_CursorPreviousLine: function 74 -/
def xansi_CursorPreviousLine.f (a0 : Int) : Option (ByteArray) := if a0 > 1 then ((strconv_Itoa.f a0).bind fun t386 => (if 2 + t386.size ≤ 9223372036854775807 then (if 2 + t386.size + 1 ≤ 9223372036854775807 then (some (((⟨#[27, 91]⟩ : ByteArray) ++ t386) ++ (⟨#[70]⟩ : ByteArray))) else (none)) else (none))) else (if 2 + 0 ≤ 9223372036854775807 then (if 2 + 0 + 1 ≤ 9223372036854775807 then (some (((⟨#[27, 91]⟩ : ByteArray) ++ (⟨#[]⟩ : ByteArray)) ++ (⟨#[70]⟩ : ByteArray))) else (none)) else (none))
set_option maxHeartbeats 8000000 in
set_option maxRecDepth 100000 in
theorem xansi_CursorPreviousLine.calls (a0 : Int) (r : ByteArray) (w : World) (hT : XTab w) (h : xansi_CursorPreviousLine.f a0 = some r) :
  Calls Tryz.prog 74 #[.int .i64 a0] w fun e w' => e = .returned (.string r) ∧ Below w.heap.size w w' := by
 have HT := Aside0.mk hT
 clear hT
 have HB := Aside0.mk (Below.refl w.heap.size w)
 have H : (if a0 > 1 then ((strconv_Itoa.f a0).bind fun t386 => (if 2 + t386.size ≤ 9223372036854775807 then (if 2 + t386.size + 1 ≤ 9223372036854775807 then (some (((⟨#[27, 91]⟩ : ByteArray) ++ t386) ++ (⟨#[70]⟩ : ByteArray))) else (none)) else (none))) else (if 2 + 0 ≤ 9223372036854775807 then (if 2 + 0 + 1 ≤ 9223372036854775807 then (some (((⟨#[27, 91]⟩ : ByteArray) ++ (⟨#[]⟩ : ByteArray)) ++ (⟨#[70]⟩ : ByteArray))) else (none)) else (none))) = some r := h
 clear h
 by_cases c2 : a0 > 1
 ·rw [if_pos c2] at H
  have c2b0 : decide (1 < a0) = true := decide_eq_true c2
  clear c2
  replace H := Option.bind_eq_some_iff.mp H
  obtain ⟨t386, A30, H⟩ := H
  replace H : (if 2 + t386.size ≤ 9223372036854775807 then (if 2 + t386.size + 1 ≤ 9223372036854775807 then (some (((⟨#[27, 91]⟩ : ByteArray) ++ t386) ++ (⟨#[70]⟩ : ByteArray))) else (none)) else (none)) = some r := H
  have A3 := Aside0.mk A30
  clear A30
  by_cases c4 : 2 + t386.size ≤ 9223372036854775807
  ·rw [if_pos c4] at H
   have c4b0 := eq_true c4
   have c4b1 : decide (2 + t386.size ≤ 9223372036854775807) = true := decide_eq_true c4
   try have c4b2 : (9223372036854775807 < 2 + t386.size) = False := eq_false (Nat.not_lt.2 c4)
   by_cases c5 : 2 + t386.size + 1 ≤ 9223372036854775807
   ·rw [if_pos c5] at H
    have c5b0 := eq_true c5
    have c5b1 : decide (2 + t386.size + 1 ≤ 9223372036854775807) = true := decide_eq_true c5
    try have c5b2 : (9223372036854775807 < 2 + t386.size + 1) = False := eq_false (Nat.not_lt.2 c5)
    obtain rfl := Option.some.inj H
    go_enter Tryz.func74, Tryz.ntmps74
    go_wp2_with (first | ((with_reducible refine gate_callee (f := 103) rfl ?_); refine goesL_ (some 7) rfl rfl Tryz.func103 (by kernel_rfl) rfl #[.int .i64 a0] rfl (by (try simp only [List.map_toArray, List.map_cons, List.map_nil]); first | done | rfl | (simp only [List.length_drop, List.length_take]; rfl)) ?_; (with_reducible refine (strconv_Itoa.calls a0 t386 _ ?side1 A3.out).mono ?_); (case side1 => exact XTab.below HT.out (by repeat (first | (with_reducible first | exact HB.out | apply below_alloc | apply pw_below_drewN | apply below_drew1) | exact HB.out))); rintro e w6 ⟨rfl, hb⟩; refine ⟨_, rfl, ?_⟩; have n0_ := Aside0.mk (below_step (by repeat (first | (with_reducible first | exact HB.out | apply below_alloc | apply pw_below_drewN | apply below_drew1) | exact HB.out)) hb); clear HB; have HB := n0_; clear n0_; (try clear hb); (try clear hb2); (try clear hk); (try clear hi)))
    go_ret
    exact ⟨by first | rfl | (simp [errW_none, errW_some] <;> rfl) | (simp [*, errW_none, errW_some] <;> rfl), by repeat (first | (with_reducible first | exact HB.out | apply below_alloc | apply pw_below_drewN | apply below_drew1) | exact HB.out)⟩
   ·rw [if_neg c5] at H
    exact absurd H (by simp)
  ·rw [if_neg c4] at H
   exact absurd H (by simp)
 ·rw [if_neg c2] at H
  have c2b0 : decide (1 < a0) = false := decide_eq_false c2
  clear c2
  by_cases c7 : 2 + 0 ≤ 9223372036854775807
  ·rw [if_pos c7] at H
   have c7b0 := eq_true c7
   have c7b1 : decide (2 + 0 ≤ 9223372036854775807) = true := decide_eq_true c7
   try have c7b2 : (9223372036854775807 < 2 + 0) = False := eq_false (Nat.not_lt.2 c7)
   by_cases c8 : 2 + 0 + 1 ≤ 9223372036854775807
   ·rw [if_pos c8] at H
    have c8b0 := eq_true c8
    have c8b1 : decide (2 + 0 + 1 ≤ 9223372036854775807) = true := decide_eq_true c8
    try have c8b2 : (9223372036854775807 < 2 + 0 + 1) = False := eq_false (Nat.not_lt.2 c8)
    obtain rfl := Option.some.inj H
    go_enter Tryz.func74, Tryz.ntmps74
    go_wp2
    go_ret
    exact ⟨by first | rfl | (simp [errW_none, errW_some] <;> rfl) | (simp [*, errW_none, errW_some] <;> rfl), by repeat (first | (with_reducible first | exact HB.out | apply below_alloc | apply pw_below_drewN | apply below_drew1) | exact HB.out)⟩
   ·rw [if_neg c8] at H
    exact absurd H (by simp)
  ·rw [if_neg c7] at H
   exact absurd H (by simp)
/-! ### xansi_CursorHorizontalAbsolute: function 75 -/
def xansi_CursorHorizontalAbsolute.f (a0 : Int) : Option (ByteArray) := if a0 > 0 then ((strconv_Itoa.f a0).bind fun t387 => (if 2 + t387.size ≤ 9223372036854775807 then (if 2 + t387.size + 1 ≤ 9223372036854775807 then (some (((⟨#[27, 91]⟩ : ByteArray) ++ t387) ++ (⟨#[71]⟩ : ByteArray))) else (none)) else (none))) else (if 2 + 0 ≤ 9223372036854775807 then (if 2 + 0 + 1 ≤ 9223372036854775807 then (some (((⟨#[27, 91]⟩ : ByteArray) ++ (⟨#[]⟩ : ByteArray)) ++ (⟨#[71]⟩ : ByteArray))) else (none)) else (none))
set_option maxHeartbeats 8000000 in
set_option maxRecDepth 100000 in
theorem xansi_CursorHorizontalAbsolute.calls (a0 : Int) (r : ByteArray) (w : World) (hT : XTab w) (h : xansi_CursorHorizontalAbsolute.f a0 = some r) :
  Calls Tryz.prog 75 #[.int .i64 a0] w fun e w' => e = .returned (.string r) ∧ Below w.heap.size w w' := by
 have HT := Aside0.mk hT
 clear hT
 have HB := Aside0.mk (Below.refl w.heap.size w)
 have H : (if a0 > 0 then ((strconv_Itoa.f a0).bind fun t387 => (if 2 + t387.size ≤ 9223372036854775807 then (if 2 + t387.size + 1 ≤ 9223372036854775807 then (some (((⟨#[27, 91]⟩ : ByteArray) ++ t387) ++ (⟨#[71]⟩ : ByteArray))) else (none)) else (none))) else (if 2 + 0 ≤ 9223372036854775807 then (if 2 + 0 + 1 ≤ 9223372036854775807 then (some (((⟨#[27, 91]⟩ : ByteArray) ++ (⟨#[]⟩ : ByteArray)) ++ (⟨#[71]⟩ : ByteArray))) else (none)) else (none))) = some r := h
 clear h
 by_cases c2 : a0 > 0
 ·rw [if_pos c2] at H
  have c2b0 : decide (0 < a0) = true := decide_eq_true c2
  clear c2
  replace H := Option.bind_eq_some_iff.mp H
  obtain ⟨t387, A30, H⟩ := H
  replace H : (if 2 + t387.size ≤ 9223372036854775807 then (if 2 + t387.size + 1 ≤ 9223372036854775807 then (some (((⟨#[27, 91]⟩ : ByteArray) ++ t387) ++ (⟨#[71]⟩ : ByteArray))) else (none)) else (none)) = some r := H
  have A3 := Aside0.mk A30
  clear A30
  by_cases c4 : 2 + t387.size ≤ 9223372036854775807
  ·rw [if_pos c4] at H
   have c4b0 := eq_true c4
   have c4b1 : decide (2 + t387.size ≤ 9223372036854775807) = true := decide_eq_true c4
   try have c4b2 : (9223372036854775807 < 2 + t387.size) = False := eq_false (Nat.not_lt.2 c4)
   by_cases c5 : 2 + t387.size + 1 ≤ 9223372036854775807
   ·rw [if_pos c5] at H
    have c5b0 := eq_true c5
    have c5b1 : decide (2 + t387.size + 1 ≤ 9223372036854775807) = true := decide_eq_true c5
    try have c5b2 : (9223372036854775807 < 2 + t387.size + 1) = False := eq_false (Nat.not_lt.2 c5)
    obtain rfl := Option.some.inj H
    go_enter Tryz.func75, Tryz.ntmps75
    go_wp2_with (first | ((with_reducible refine gate_callee (f := 103) rfl ?_); refine goesL_ (some 7) rfl rfl Tryz.func103 (by kernel_rfl) rfl #[.int .i64 a0] rfl (by (try simp only [List.map_toArray, List.map_cons, List.map_nil]); first | done | rfl | (simp only [List.length_drop, List.length_take]; rfl)) ?_; (with_reducible refine (strconv_Itoa.calls a0 t387 _ ?side1 A3.out).mono ?_); (case side1 => exact XTab.below HT.out (by repeat (first | (with_reducible first | exact HB.out | apply below_alloc | apply pw_below_drewN | apply below_drew1) | exact HB.out))); rintro e w6 ⟨rfl, hb⟩; refine ⟨_, rfl, ?_⟩; have n0_ := Aside0.mk (below_step (by repeat (first | (with_reducible first | exact HB.out | apply below_alloc | apply pw_below_drewN | apply below_drew1) | exact HB.out)) hb); clear HB; have HB := n0_; clear n0_; (try clear hb); (try clear hb2); (try clear hk); (try clear hi)))
    go_ret
    exact ⟨by first | rfl | (simp [errW_none, errW_some] <;> rfl) | (simp [*, errW_none, errW_some] <;> rfl), by repeat (first | (with_reducible first | exact HB.out | apply below_alloc | apply pw_below_drewN | apply below_drew1) | exact HB.out)⟩
   ·rw [if_neg c5] at H
    exact absurd H (by simp)
  ·rw [if_neg c4] at H
   exact absurd H (by simp)
 ·rw [if_neg c2] at H
  have c2b0 : decide (0 < a0) = false := decide_eq_false c2
  clear c2
  by_cases c7 : 2 + 0 ≤ 9223372036854775807
  ·rw [if_pos c7] at H
   have c7b0 := eq_true c7
   have c7b1 : decide (2 + 0 ≤ 9223372036854775807) = true := decide_eq_true c7
   try have c7b2 : (9223372036854775807 < 2 + 0) = False := eq_false (Nat.not_lt.2 c7)
   by_cases c8 : 2 + 0 + 1 ≤ 9223372036854775807
   ·rw [if_pos c8] at H
    have c8b0 := eq_true c8
    have c8b1 : decide (2 + 0 + 1 ≤ 9223372036854775807) = true := decide_eq_true c8
    try have c8b2 : (9223372036854775807 < 2 + 0 + 1) = False := eq_false (Nat.not_lt.2 c8)
    obtain rfl := Option.some.inj H
    go_enter Tryz.func75, Tryz.ntmps75
    go_wp2
    go_ret
    exact ⟨by first | rfl | (simp [errW_none, errW_some] <;> rfl) | (simp [*, errW_none, errW_some] <;> rfl), by repeat (first | (with_reducible first | exact HB.out | apply below_alloc | apply pw_below_drewN | apply below_drew1) | exact HB.out)⟩
   ·rw [if_neg c8] at H
    exact absurd H (by simp)
  ·rw [if_neg c7] at H
   exact absurd H (by simp)
/-! ### xansi_EraseCharacter: function 78 -/
def xansi_EraseCharacter.f (a0 : Int) : Option (ByteArray) := if a0 > 1 then ((strconv_Itoa.f a0).bind fun t388 => (if 2 + t388.size ≤ 9223372036854775807 then (if 2 + t388.size + 1 ≤ 9223372036854775807 then (some (((⟨#[27, 91]⟩ : ByteArray) ++ t388) ++ (⟨#[88]⟩ : ByteArray))) else (none)) else (none))) else (if 2 + 0 ≤ 9223372036854775807 then (if 2 + 0 + 1 ≤ 9223372036854775807 then (some (((⟨#[27, 91]⟩ : ByteArray) ++ (⟨#[]⟩ : ByteArray)) ++ (⟨#[88]⟩ : ByteArray))) else (none)) else (none))
set_option maxHeartbeats 8000000 in
set_option maxRecDepth 100000 in
theorem xansi_EraseCharacter.calls (a0 : Int) (r : ByteArray) (w : World) (hT : XTab w) (h : xansi_EraseCharacter.f a0 = some r) :
  Calls Tryz.prog 78 #[.int .i64 a0] w fun e w' => e = .returned (.string r) ∧ Below w.heap.size w w' := by
 have HT := Aside0.mk hT
 clear hT
 have HB := Aside0.mk (Below.refl w.heap.size w)
 have H : (if a0 > 1 then ((strconv_Itoa.f a0).bind fun t388 => (if 2 + t388.size ≤ 9223372036854775807 then (if 2 + t388.size + 1 ≤ 9223372036854775807 then (some (((⟨#[27, 91]⟩ : ByteArray) ++ t388) ++ (⟨#[88]⟩ : ByteArray))) else (none)) else (none))) else (if 2 + 0 ≤ 9223372036854775807 then (if 2 + 0 + 1 ≤ 9223372036854775807 then (some (((⟨#[27, 91]⟩ : ByteArray) ++ (⟨#[]⟩ : ByteArray)) ++ (⟨#[88]⟩ : ByteArray))) else (none)) else (none))) = some r := h
 clear h
 by_cases c2 : a0 > 1
 ·rw [if_pos c2] at H
  have c2b0 : decide (1 < a0) = true := decide_eq_true c2
  clear c2
  replace H := Option.bind_eq_some_iff.mp H
  obtain ⟨t388, A30, H⟩ := H
  replace H : (if 2 + t388.size ≤ 9223372036854775807 then (if 2 + t388.size + 1 ≤ 9223372036854775807 then (some (((⟨#[27, 91]⟩ : ByteArray) ++ t388) ++ (⟨#[88]⟩ : ByteArray))) else (none)) else (none)) = some r := H
  have A3 := Aside0.mk A30
  clear A30
  by_cases c4 : 2 + t388.size ≤ 9223372036854775807
  ·rw [if_pos c4] at H
   have c4b0 := eq_true c4
   have c4b1 : decide (2 + t388.size ≤ 9223372036854775807) = true := decide_eq_true c4
   try have c4b2 : (9223372036854775807 < 2 + t388.size) = False := eq_false (Nat.not_lt.2 c4)
   by_cases c5 : 2 + t388.size + 1 ≤ 9223372036854775807
   ·rw [if_pos c5] at H
    have c5b0 := eq_true c5
    have c5b1 : decide (2 + t388.size + 1 ≤ 9223372036854775807) = true := decide_eq_true c5
    try have c5b2 : (9223372036854775807 < 2 + t388.size + 1) = False := eq_false (Nat.not_lt.2 c5)
    obtain rfl := Option.some.inj H
    go_enter Tryz.func78, Tryz.ntmps78
    go_wp2_with (first | ((with_reducible refine gate_callee (f := 103) rfl ?_); refine goesL_ (some 7) rfl rfl Tryz.func103 (by kernel_rfl) rfl #[.int .i64 a0] rfl (by (try simp only [List.map_toArray, List.map_cons, List.map_nil]); first | done | rfl | (simp only [List.length_drop, List.length_take]; rfl)) ?_; (with_reducible refine (strconv_Itoa.calls a0 t388 _ ?side1 A3.out).mono ?_); (case side1 => exact XTab.below HT.out (by repeat (first | (with_reducible first | exact HB.out | apply below_alloc | apply pw_below_drewN | apply below_drew1) | exact HB.out))); rintro e w6 ⟨rfl, hb⟩; refine ⟨_, rfl, ?_⟩; have n0_ := Aside0.mk (below_step (by repeat (first | (with_reducible first | exact HB.out | apply below_alloc | apply pw_below_drewN | apply below_drew1) | exact HB.out)) hb); clear HB; have HB := n0_; clear n0_; (try clear hb); (try clear hb2); (try clear hk); (try clear hi)))
    go_ret
    exact ⟨by first | rfl | (simp [errW_none, errW_some] <;> rfl) | (simp [*, errW_none, errW_some] <;> rfl), by repeat (first | (with_reducible first | exact HB.out | apply below_alloc | apply pw_below_drewN | apply below_drew1) | exact HB.out)⟩
   ·rw [if_neg c5] at H
    exact absurd H (by simp)
  ·rw [if_neg c4] at H
   exact absurd H (by simp)
 ·rw [if_neg c2] at H
  have c2b0 : decide (1 < a0) = false := decide_eq_false c2
  clear c2
  by_cases c7 : 2 + 0 ≤ 9223372036854775807
  ·rw [if_pos c7] at H
   have c7b0 := eq_true c7
   have c7b1 : decide (2 + 0 ≤ 9223372036854775807) = true := decide_eq_true c7
   try have c7b2 : (9223372036854775807 < 2 + 0) = False := eq_false (Nat.not_lt.2 c7)
   by_cases c8 : 2 + 0 + 1 ≤ 9223372036854775807
   ·rw [if_pos c8] at H
    have c8b0 := eq_true c8
    have c8b1 : decide (2 + 0 + 1 ≤ 9223372036854775807) = true := decide_eq_true c8
    try have c8b2 : (9223372036854775807 < 2 + 0 + 1) = False := eq_false (Nat.not_lt.2 c8)
    obtain rfl := Option.some.inj H
    go_enter Tryz.func78, Tryz.ntmps78
    go_wp2
    go_ret
    exact ⟨by first | rfl | (simp [errW_none, errW_some] <;> rfl) | (simp [*, errW_none, errW_some] <;> rfl), by repeat (first | (with_reducible first | exact HB.out | apply below_alloc | apply pw_below_drewN | apply below_drew1) | exact HB.out)⟩
   ·rw [if_neg c8] at H
    exact absurd H (by simp)
  ·rw [if_neg c7] at H
   exact absurd H (by simp)
/-! ### xansi_EraseDisplay: function 79 -/
def xansi_EraseDisplay.f (a0 : Int) : Option (ByteArray) := if a0 > 0 then ((strconv_Itoa.f a0).bind fun t389 => (if 2 + t389.size ≤ 9223372036854775807 then (if 2 + t389.size + 1 ≤ 9223372036854775807 then (some (((⟨#[27, 91]⟩ : ByteArray) ++ t389) ++ (⟨#[74]⟩ : ByteArray))) else (none)) else (none))) else (if 2 + 0 ≤ 9223372036854775807 then (if 2 + 0 + 1 ≤ 9223372036854775807 then (some (((⟨#[27, 91]⟩ : ByteArray) ++ (⟨#[]⟩ : ByteArray)) ++ (⟨#[74]⟩ : ByteArray))) else (none)) else (none))
set_option maxHeartbeats 8000000 in
set_option maxRecDepth 100000 in
theorem xansi_EraseDisplay.calls (a0 : Int) (r : ByteArray) (w : World) (hT : XTab w) (h : xansi_EraseDisplay.f a0 = some r) :
  Calls Tryz.prog 79 #[.int .i64 a0] w fun e w' => e = .returned (.string r) ∧ Below w.heap.size w w' := by
 have HT := Aside0.mk hT
 clear hT
 have HB := Aside0.mk (Below.refl w.heap.size w)
 have H : (if a0 > 0 then ((strconv_Itoa.f a0).bind fun t389 => (if 2 + t389.size ≤ 9223372036854775807 then (if 2 + t389.size + 1 ≤ 9223372036854775807 then (some (((⟨#[27, 91]⟩ : ByteArray) ++ t389) ++ (⟨#[74]⟩ : ByteArray))) else (none)) else (none))) else (if 2 + 0 ≤ 9223372036854775807 then (if 2 + 0 + 1 ≤ 9223372036854775807 then (some (((⟨#[27, 91]⟩ : ByteArray) ++ (⟨#[]⟩ : ByteArray)) ++ (⟨#[74]⟩ : ByteArray))) else (none)) else (none))) = some r := h
 clear h
 by_cases c2 : a0 > 0
 ·rw [if_pos c2] at H
  have c2b0 : decide (0 < a0) = true := decide_eq_true c2
  clear c2
  replace H := Option.bind_eq_some_iff.mp H
  obtain ⟨t389, A30, H⟩ := H
  replace H : (if 2 + t389.size ≤ 9223372036854775807 then (if 2 + t389.size + 1 ≤ 9223372036854775807 then (some (((⟨#[27, 91]⟩ : ByteArray) ++ t389) ++ (⟨#[74]⟩ : ByteArray))) else (none)) else (none)) = some r := H
  have A3 := Aside0.mk A30
  clear A30
  by_cases c4 : 2 + t389.size ≤ 9223372036854775807
  ·rw [if_pos c4] at H
   have c4b0 := eq_true c4
   have c4b1 : decide (2 + t389.size ≤ 9223372036854775807) = true := decide_eq_true c4
   try have c4b2 : (9223372036854775807 < 2 + t389.size) = False := eq_false (Nat.not_lt.2 c4)
   by_cases c5 : 2 + t389.size + 1 ≤ 9223372036854775807
   ·rw [if_pos c5] at H
    have c5b0 := eq_true c5
    have c5b1 : decide (2 + t389.size + 1 ≤ 9223372036854775807) = true := decide_eq_true c5
    try have c5b2 : (9223372036854775807 < 2 + t389.size + 1) = False := eq_false (Nat.not_lt.2 c5)
    obtain rfl := Option.some.inj H
    go_enter Tryz.func79, Tryz.ntmps79
    go_wp2_with (first | ((with_reducible refine gate_callee (f := 103) rfl ?_); refine goesL_ (some 7) rfl rfl Tryz.func103 (by kernel_rfl) rfl #[.int .i64 a0] rfl (by (try simp only [List.map_toArray, List.map_cons, List.map_nil]); first | done | rfl | (simp only [List.length_drop, List.length_take]; rfl)) ?_; (with_reducible refine (strconv_Itoa.calls a0 t389 _ ?side1 A3.out).mono ?_); (case side1 => exact XTab.below HT.out (by repeat (first | (with_reducible first | exact HB.out | apply below_alloc | apply pw_below_drewN | apply below_drew1) | exact HB.out))); rintro e w6 ⟨rfl, hb⟩; refine ⟨_, rfl, ?_⟩; have n0_ := Aside0.mk (below_step (by repeat (first | (with_reducible first | exact HB.out | apply below_alloc | apply pw_below_drewN | apply below_drew1) | exact HB.out)) hb); clear HB; have HB := n0_; clear n0_; (try clear hb); (try clear hb2); (try clear hk); (try clear hi)))
    go_ret
    exact ⟨by first | rfl | (simp [errW_none, errW_some] <;> rfl) | (simp [*, errW_none, errW_some] <;> rfl), by repeat (first | (with_reducible first | exact HB.out | apply below_alloc | apply pw_below_drewN | apply below_drew1) | exact HB.out)⟩
   ·rw [if_neg c5] at H
    exact absurd H (by simp)
  ·rw [if_neg c4] at H
   exact absurd H (by simp)
 ·rw [if_neg c2] at H
  have c2b0 : decide (0 < a0) = false := decide_eq_false c2
  clear c2
  by_cases c7 : 2 + 0 ≤ 9223372036854775807
  ·rw [if_pos c7] at H
   have c7b0 := eq_true c7
   have c7b1 : decide (2 + 0 ≤ 9223372036854775807) = true := decide_eq_true c7
   try have c7b2 : (9223372036854775807 < 2 + 0) = False := eq_false (Nat.not_lt.2 c7)
   by_cases c8 : 2 + 0 + 1 ≤ 9223372036854775807
   ·rw [if_pos c8] at H
    have c8b0 := eq_true c8
    have c8b1 : decide (2 + 0 + 1 ≤ 9223372036854775807) = true := decide_eq_true c8
    try have c8b2 : (9223372036854775807 < 2 + 0 + 1) = False := eq_false (Nat.not_lt.2 c8)
    obtain rfl := Option.some.inj H
    go_enter Tryz.func79, Tryz.ntmps79
    go_wp2
    go_ret
    exact ⟨by first | rfl | (simp [errW_none, errW_some] <;> rfl) | (simp [*, errW_none, errW_some] <;> rfl), by repeat (first | (with_reducible first | exact HB.out | apply below_alloc | apply pw_below_drewN | apply below_drew1) | exact HB.out)⟩
   ·rw [if_neg c8] at H
    exact absurd H (by simp)
  ·rw [if_neg c7] at H
   exact absurd H (by simp)
/-! ### xansi_EraseLine: function 80 -/
def xansi_EraseLine.f (a0 : Int) : Option (ByteArray) := if a0 > 0 then ((strconv_Itoa.f a0).bind fun t390 => (if 2 + t390.size ≤ 9223372036854775807 then (if 2 + t390.size + 1 ≤ 9223372036854775807 then (some (((⟨#[27, 91]⟩ : ByteArray) ++ t390) ++ (⟨#[75]⟩ : ByteArray))) else (none)) else (none))) else (if 2 + 0 ≤ 9223372036854775807 then (if 2 + 0 + 1 ≤ 9223372036854775807 then (some (((⟨#[27, 91]⟩ : ByteArray) ++ (⟨#[]⟩ : ByteArray)) ++ (⟨#[75]⟩ : ByteArray))) else (none)) else (none))
set_option maxHeartbeats 8000000 in
set_option maxRecDepth 100000 in
theorem xansi_EraseLine.calls (a0 : Int) (r : ByteArray) (w : World) (hT : XTab w) (h : xansi_EraseLine.f a0 = some r) :
  Calls Tryz.prog 80 #[.int .i64 a0] w fun e w' => e = .returned (.string r) ∧ Below w.heap.size w w' := by
 have HT := Aside0.mk hT
 clear hT
 have HB := Aside0.mk (Below.refl w.heap.size w)
 have H : (if a0 > 0 then ((strconv_Itoa.f a0).bind fun t390 => (if 2 + t390.size ≤ 9223372036854775807 then (if 2 + t390.size + 1 ≤ 9223372036854775807 then (some (((⟨#[27, 91]⟩ : ByteArray) ++ t390) ++ (⟨#[75]⟩ : ByteArray))) else (none)) else (none))) else (if 2 + 0 ≤ 9223372036854775807 then (if 2 + 0 + 1 ≤ 9223372036854775807 then (some (((⟨#[27, 91]⟩ : ByteArray) ++ (⟨#[]⟩ : ByteArray)) ++ (⟨#[75]⟩ : ByteArray))) else (none)) else (none))) = some r := h
 clear h
 by_cases c2 : a0 > 0
 ·rw [if_pos c2] at H
  have c2b0 : decide (0 < a0) = true := decide_eq_true c2
  clear c2
  replace H := Option.bind_eq_some_iff.mp H
  obtain ⟨t390, A30, H⟩ := H
  replace H : (if 2 + t390.size ≤ 9223372036854775807 then (if 2 + t390.size + 1 ≤ 9223372036854775807 then (some (((⟨#[27, 91]⟩ : ByteArray) ++ t390) ++ (⟨#[75]⟩ : ByteArray))) else (none)) else (none)) = some r := H
  have A3 := Aside0.mk A30
  clear A30
  by_cases c4 : 2 + t390.size ≤ 9223372036854775807
  ·rw [if_pos c4] at H
   have c4b0 := eq_true c4
   have c4b1 : decide (2 + t390.size ≤ 9223372036854775807) = true := decide_eq_true c4
   try have c4b2 : (9223372036854775807 < 2 + t390.size) = False := eq_false (Nat.not_lt.2 c4)
   by_cases c5 : 2 + t390.size + 1 ≤ 9223372036854775807
   ·rw [if_pos c5] at H
    have c5b0 := eq_true c5
    have c5b1 : decide (2 + t390.size + 1 ≤ 9223372036854775807) = true := decide_eq_true c5
    try have c5b2 : (9223372036854775807 < 2 + t390.size + 1) = False := eq_false (Nat.not_lt.2 c5)
    obtain rfl := Option.some.inj H
    go_enter Tryz.func80, Tryz.ntmps80
    go_wp2_with (first | ((with_reducible refine gate_callee (f := 103) rfl ?_); refine goesL_ (some 7) rfl rfl Tryz.func103 (by kernel_rfl) rfl #[.int .i64 a0] rfl (by (try simp only [List.map_toArray, List.map_cons, List.map_nil]); first | done | rfl | (simp only [List.length_drop, List.length_take]; rfl)) ?_; (with_reducible refine (strconv_Itoa.calls a0 t390 _ ?side1 A3.out).mono ?_); (case side1 => exact XTab.below HT.out (by repeat (first | (with_reducible first | exact HB.out | apply below_alloc | apply pw_below_drewN | apply below_drew1) | exact HB.out))); rintro e w6 ⟨rfl, hb⟩; refine ⟨_, rfl, ?_⟩; have n0_ := Aside0.mk (below_step (by repeat (first | (with_reducible first | exact HB.out | apply below_alloc | apply pw_below_drewN | apply below_drew1) | exact HB.out)) hb); clear HB; have HB := n0_; clear n0_; (try clear hb); (try clear hb2); (try clear hk); (try clear hi)))
    go_ret
    exact ⟨by first | rfl | (simp [errW_none, errW_some] <;> rfl) | (simp [*, errW_none, errW_some] <;> rfl), by repeat (first | (with_reducible first | exact HB.out | apply below_alloc | apply pw_below_drewN | apply below_drew1) | exact HB.out)⟩
   ·rw [if_neg c5] at H
    exact absurd H (by simp)
  ·rw [if_neg c4] at H
   exact absurd H (by simp)
 ·rw [if_neg c2] at H
  have c2b0 : decide (0 < a0) = false := decide_eq_false c2
  clear c2
  by_cases c7 : 2 + 0 ≤ 9223372036854775807
  ·rw [if_pos c7] at H
   have c7b0 := eq_true c7
   have c7b1 : decide (2 + 0 ≤ 9223372036854775807) = true := decide_eq_true c7
   try have c7b2 : (9223372036854775807 < 2 + 0) = False := eq_false (Nat.not_lt.2 c7)
   by_cases c8 : 2 + 0 + 1 ≤ 9223372036854775807
   ·rw [if_pos c8] at H
    have c8b0 := eq_true c8
    have c8b1 : decide (2 + 0 + 1 ≤ 9223372036854775807) = true := decide_eq_true c8
    try have c8b2 : (9223372036854775807 < 2 + 0 + 1) = False := eq_false (Nat.not_lt.2 c8)
    obtain rfl := Option.some.inj H
    go_enter Tryz.func80, Tryz.ntmps80
    go_wp2
    go_ret
    exact ⟨by first | rfl | (simp [errW_none, errW_some] <;> rfl) | (simp [*, errW_none, errW_some] <;> rfl), by repeat (first | (with_reducible first | exact HB.out | apply below_alloc | apply pw_below_drewN | apply below_drew1) | exact HB.out)⟩
   ·rw [if_neg c8] at H
    exact absurd H (by simp)
  ·rw [if_neg c7] at H
   exact absurd H (by simp)
/-! ### xansi_ScrollUp: function 81 -/
def xansi_ScrollUp.f (a0 : Int) : Option (ByteArray) := if a0 > 1 then ((strconv_Itoa.f a0).bind fun t391 => (if 2 + t391.size ≤ 9223372036854775807 then (if 2 + t391.size + 1 ≤ 9223372036854775807 then (some (((⟨#[27, 91]⟩ : ByteArray) ++ t391) ++ (⟨#[83]⟩ : ByteArray))) else (none)) else (none))) else (if 2 + 0 ≤ 9223372036854775807 then (if 2 + 0 + 1 ≤ 9223372036854775807 then (some (((⟨#[27, 91]⟩ : ByteArray) ++ (⟨#[]⟩ : ByteArray)) ++ (⟨#[83]⟩ : ByteArray))) else (none)) else (none))
set_option maxHeartbeats 8000000 in
set_option maxRecDepth 100000 in
theorem xansi_ScrollUp.calls (a0 : Int) (r : ByteArray) (w : World) (hT : XTab w) (h : xansi_ScrollUp.f a0 = some r) :
  Calls Tryz.prog 81 #[.int .i64 a0] w fun e w' => e = .returned (.string r) ∧ Below w.heap.size w w' := by
 have HT := Aside0.mk hT
 clear hT
 have HB := Aside0.mk (Below.refl w.heap.size w)
 have H : (if a0 > 1 then ((strconv_Itoa.f a0).bind fun t391 => (if 2 + t391.size ≤ 9223372036854775807 then (if 2 + t391.size + 1 ≤ 9223372036854775807 then (some (((⟨#[27, 91]⟩ : ByteArray) ++ t391) ++ (⟨#[83]⟩ : ByteArray))) else (none)) else (none))) else (if 2 + 0 ≤ 9223372036854775807 then (if 2 + 0 + 1 ≤ 9223372036854775807 then (some (((⟨#[27, 91]⟩ : ByteArray) ++ (⟨#[]⟩ : ByteArray)) ++ (⟨#[83]⟩ : ByteArray))) else (none)) else (none))) = some r := h
 clear h
 by_cases c2 : a0 > 1
 ·rw [if_pos c2] at H
  have c2b0 : decide (1 < a0) = true := decide_eq_true c2
  clear c2
  replace H := Option.bind_eq_some_iff.mp H
  obtain ⟨t391, A30, H⟩ := H
  replace H : (if 2 + t391.size ≤ 9223372036854775807 then (if 2 + t391.size + 1 ≤ 9223372036854775807 then (some (((⟨#[27, 91]⟩ : ByteArray) ++ t391) ++ (⟨#[83]⟩ : ByteArray))) else (none)) else (none)) = some r := H
  have A3 := Aside0.mk A30
  clear A30
  by_cases c4 : 2 + t391.size ≤ 9223372036854775807
  ·rw [if_pos c4] at H
   have c4b0 := eq_true c4
   have c4b1 : decide (2 + t391.size ≤ 9223372036854775807) = true := decide_eq_true c4
   try have c4b2 : (9223372036854775807 < 2 + t391.size) = False := eq_false (Nat.not_lt.2 c4)
   by_cases c5 : 2 + t391.size + 1 ≤ 9223372036854775807
   ·rw [if_pos c5] at H
    have c5b0 := eq_true c5
    have c5b1 : decide (2 + t391.size + 1 ≤ 9223372036854775807) = true := decide_eq_true c5
    try have c5b2 : (9223372036854775807 < 2 + t391.size + 1) = False := eq_false (Nat.not_lt.2 c5)
    obtain rfl := Option.some.inj H
    go_enter Tryz.func81, Tryz.ntmps81
    go_wp2_with (first | ((with_reducible refine gate_callee (f := 103) rfl ?_); refine goesL_ (some 7) rfl rfl Tryz.func103 (by kernel_rfl) rfl #[.int .i64 a0] rfl (by (try simp only [List.map_toArray, List.map_cons, List.map_nil]); first | done | rfl | (simp only [List.length_drop, List.length_take]; rfl)) ?_; (with_reducible refine (strconv_Itoa.calls a0 t391 _ ?side1 A3.out).mono ?_); (case side1 => exact XTab.below HT.out (by repeat (first | (with_reducible first | exact HB.out | apply below_alloc | apply pw_below_drewN | apply below_drew1) | exact HB.out))); rintro e w6 ⟨rfl, hb⟩; refine ⟨_, rfl, ?_⟩; have n0_ := Aside0.mk (below_step (by repeat (first | (with_reducible first | exact HB.out | apply below_alloc | apply pw_below_drewN | apply below_drew1) | exact HB.out)) hb); clear HB; have HB := n0_; clear n0_; (try clear hb); (try clear hb2); (try clear hk); (try clear hi)))
    go_ret
    exact ⟨by first | rfl | (simp [errW_none, errW_some] <;> rfl) | (simp [*, errW_none, errW_some] <;> rfl), by repeat (first | (with_reducible first | exact HB.out | apply below_alloc | apply pw_below_drewN | apply below_drew1) | exact HB.out)⟩
   ·rw [if_neg c5] at H
    exact absurd H (by simp)
  ·rw [if_neg c4] at H
   exact absurd H (by simp)
 ·rw [if_neg c2] at H
  have c2b0 : decide (1 < a0) = false := decide_eq_false c2
  clear c2
  by_cases c7 : 2 + 0 ≤ 9223372036854775807
  ·rw [if_pos c7] at H
   have c7b0 := eq_true c7
   have c7b1 : decide (2 + 0 ≤ 9223372036854775807) = true := decide_eq_true c7
   try have c7b2 : (9223372036854775807 < 2 + 0) = False := eq_false (Nat.not_lt.2 c7)
   by_cases c8 : 2 + 0 + 1 ≤ 9223372036854775807
   ·rw [if_pos c8] at H
    have c8b0 := eq_true c8
    have c8b1 : decide (2 + 0 + 1 ≤ 9223372036854775807) = true := decide_eq_true c8
    try have c8b2 : (9223372036854775807 < 2 + 0 + 1) = False := eq_false (Nat.not_lt.2 c8)
    obtain rfl := Option.some.inj H
    go_enter Tryz.func81, Tryz.ntmps81
    go_wp2
    go_ret
    exact ⟨by first | rfl | (simp [errW_none, errW_some] <;> rfl) | (simp [*, errW_none, errW_some] <;> rfl), by repeat (first | (with_reducible first | exact HB.out | apply below_alloc | apply pw_below_drewN | apply below_drew1) | exact HB.out)⟩
   ·rw [if_neg c8] at H
    exact absurd H (by simp)
  ·rw [if_neg c7] at H
   exact absurd H (by simp)
/-! ### xansi_ScrollDown: function 82 -/
def xansi_ScrollDown.f (a0 : Int) : Option (ByteArray) := if a0 > 1 then ((strconv_Itoa.f a0).bind fun t392 => (if 2 + t392.size ≤ 9223372036854775807 then (if 2 + t392.size + 1 ≤ 9223372036854775807 then (some (((⟨#[27, 91]⟩ : ByteArray) ++ t392) ++ (⟨#[84]⟩ : ByteArray))) else (none)) else (none))) else (if 2 + 0 ≤ 9223372036854775807 then (if 2 + 0 + 1 ≤ 9223372036854775807 then (some (((⟨#[27, 91]⟩ : ByteArray) ++ (⟨#[]⟩ : ByteArray)) ++ (⟨#[84]⟩ : ByteArray))) else (none)) else (none))
set_option maxHeartbeats 8000000 in
set_option maxRecDepth 100000 in
theorem xansi_ScrollDown.calls (a0 : Int) (r : ByteArray) (w : World) (hT : XTab w) (h : xansi_ScrollDown.f a0 = some r) :
  Calls Tryz.prog 82 #[.int .i64 a0] w fun e w' => e = .returned (.string r) ∧ Below w.heap.size w w' := by
 have HT := Aside0.mk hT
 clear hT
 have HB := Aside0.mk (Below.refl w.heap.size w)
 have H : (if a0 > 1 then ((strconv_Itoa.f a0).bind fun t392 => (if 2 + t392.size ≤ 9223372036854775807 then (if 2 + t392.size + 1 ≤ 9223372036854775807 then (some (((⟨#[27, 91]⟩ : ByteArray) ++ t392) ++ (⟨#[84]⟩ : ByteArray))) else (none)) else (none))) else (if 2 + 0 ≤ 9223372036854775807 then (if 2 + 0 + 1 ≤ 9223372036854775807 then (some (((⟨#[27, 91]⟩ : ByteArray) ++ (⟨#[]⟩ : ByteArray)) ++ (⟨#[84]⟩ : ByteArray))) else (none)) else (none))) = some r := h
 clear h
 by_cases c2 : a0 > 1
 ·rw [if_pos c2] at H
  have c2b0 : decide (1 < a0) = true := decide_eq_true c2
  clear c2
  replace H := Option.bind_eq_some_iff.mp H
  obtain ⟨t392, A30, H⟩ := H
  replace H : (if 2 + t392.size ≤ 9223372036854775807 then (if 2 + t392.size + 1 ≤ 9223372036854775807 then (some (((⟨#[27, 91]⟩ : ByteArray) ++ t392) ++ (⟨#[84]⟩ : ByteArray))) else (none)) else (none)) = some r := H
  have A3 := Aside0.mk A30
  clear A30
  by_cases c4 : 2 + t392.size ≤ 9223372036854775807
  ·rw [if_pos c4] at H
   have c4b0 := eq_true c4
   have c4b1 : decide (2 + t392.size ≤ 9223372036854775807) = true := decide_eq_true c4
   try have c4b2 : (9223372036854775807 < 2 + t392.size) = False := eq_false (Nat.not_lt.2 c4)
   by_cases c5 : 2 + t392.size + 1 ≤ 9223372036854775807
   ·rw [if_pos c5] at H
    have c5b0 := eq_true c5
    have c5b1 : decide (2 + t392.size + 1 ≤ 9223372036854775807) = true := decide_eq_true c5
    try have c5b2 : (9223372036854775807 < 2 + t392.size + 1) = False := eq_false (Nat.not_lt.2 c5)
    obtain rfl := Option.some.inj H
    go_enter Tryz.func82, Tryz.ntmps82
    go_wp2_with (first | ((with_reducible refine gate_callee (f := 103) rfl ?_); refine goesL_ (some 7) rfl rfl Tryz.func103 (by kernel_rfl) rfl #[.int .i64 a0] rfl (by (try simp only [List.map_toArray, List.map_cons, List.map_nil]); first | done | rfl | (simp only [List.length_drop, List.length_take]; rfl)) ?_; (with_reducible refine (strconv_Itoa.calls a0 t392 _ ?side1 A3.out).mono ?_); (case side1 => exact XTab.below HT.out (by repeat (first | (with_reducible first | exact HB.out | apply below_alloc | apply pw_below_drewN | apply below_drew1) | exact HB.out))); rintro e w6 ⟨rfl, hb⟩; refine ⟨_, rfl, ?_⟩; have n0_ := Aside0.mk (below_step (by repeat (first | (with_reducible first | exact HB.out | apply below_alloc | apply pw_below_drewN | apply below_drew1) | exact HB.out)) hb); clear HB; have HB := n0_; clear n0_; (try clear hb); (try clear hb2); (try clear hk); (try clear hi)))
    go_ret
    exact ⟨by first | rfl | (simp [errW_none, errW_some] <;> rfl) | (simp [*, errW_none, errW_some] <;> rfl), by repeat (first | (with_reducible first | exact HB.out | apply below_alloc | apply pw_below_drewN | apply below_drew1) | exact HB.out)⟩
   ·rw [if_neg c5] at H
    exact absurd H (by simp)
  ·rw [if_neg c4] at H
   exact absurd H (by simp)
 ·rw [if_neg c2] at H
  have c2b0 : decide (1 < a0) = false := decide_eq_false c2
  clear c2
  by_cases c7 : 2 + 0 ≤ 9223372036854775807
  ·rw [if_pos c7] at H
   have c7b0 := eq_true c7
   have c7b1 : decide (2 + 0 ≤ 9223372036854775807) = true := decide_eq_true c7
   try have c7b2 : (9223372036854775807 < 2 + 0) = False := eq_false (Nat.not_lt.2 c7)
   by_cases c8 : 2 + 0 + 1 ≤ 9223372036854775807
   ·rw [if_pos c8] at H
    have c8b0 := eq_true c8
    have c8b1 : decide (2 + 0 + 1 ≤ 9223372036854775807) = true := decide_eq_true c8
    try have c8b2 : (9223372036854775807 < 2 + 0 + 1) = False := eq_false (Nat.not_lt.2 c8)
    obtain rfl := Option.some.inj H
    go_enter Tryz.func82, Tryz.ntmps82
    go_wp2
    go_ret
    exact ⟨by first | rfl | (simp [errW_none, errW_some] <;> rfl) | (simp [*, errW_none, errW_some] <;> rfl), by repeat (first | (with_reducible first | exact HB.out | apply below_alloc | apply pw_below_drewN | apply below_drew1) | exact HB.out)⟩
   ·rw [if_neg c8] at H
    exact absurd H (by simp)
  ·rw [if_neg c7] at H
   exact absurd H (by simp)
/-! ### xansi_InsertLine: function 83 -/
def xansi_InsertLine.f (a0 : Int) : Option (ByteArray) := if a0 > 1 then ((strconv_Itoa.f a0).bind fun t393 => (if 2 + t393.size ≤ 9223372036854775807 then (if 2 + t393.size + 1 ≤ 9223372036854775807 then (some (((⟨#[27, 91]⟩ : ByteArray) ++ t393) ++ (⟨#[76]⟩ : ByteArray))) else (none)) else (none))) else (if 2 + 0 ≤ 9223372036854775807 then (if 2 + 0 + 1 ≤ 9223372036854775807 then (some (((⟨#[27, 91]⟩ : ByteArray) ++ (⟨#[]⟩ : ByteArray)) ++ (⟨#[76]⟩ : ByteArray))) else (none)) else (none))
end Go.Proofs.YteebhoehflgfoaaGreatDoor.Y
end
