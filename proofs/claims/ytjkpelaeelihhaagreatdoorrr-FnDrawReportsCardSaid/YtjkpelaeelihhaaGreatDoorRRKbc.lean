/- Texts of this claim, joined: Y17 Y19 Y22 Y3. Of each, what the claim uses. -/
import Derived.Test.YtjkpelaeelihhaaGreatDoorRRKad
import Derived.Test.YtjkpelaeelihhaaGreatDoorRRKaq
import Derived.Test.YtjkpelaeelihhaaGreatDoorRRKau
import Derived.Test.YtjkpelaeelihhaaGreatDoorRRKbb
import Derived.Test.YtjkpelaeelihhaaGreatDoorRRKat
section
namespace Go.Proofs.YtjkpelaeelihhaaGreatDoorRR.Y
open Go.RowKit Go.Proofs.YtjkpelaeelihhaaGreatDoorRRW.PrintWords Go.Proofs.YtjkpelaeelihhaaGreatDoorRRW.PrintLast Go.Proofs.YtjkpelaeelihhaaGreatDoorRRW.PrintMore
attribute [local go_sem] max2_int min2_int max_two min_two max_three min_three max_four min_four   -- for this text's walks alone
set_option linter.unusedVariables false
set_option linter.unusedSimpArgs false
set_option maxHeartbeats 8000000 in
set_option maxRecDepth 100000 in
theorem xansi_SetTopBottomMargins.calls (a0 : Int) (a1 : Int) (r : ByteArray) (w : World) (hT : XTab w) (h : xansi_SetTopBottomMargins.f a0 a1 = some r) :
    Calls Tryz.prog 66 #[.int .i64 a0, .int .i64 a1] w fun e w' => e = .returned (.string r) ∧ Below w.heap.size w w' := by
  have HT := Aside0.mk hT
  clear hT
  have HB := Aside0.mk (Below.refl w.heap.size w)
  have H : (if a0 > 0 then ((strconv_Itoa.f a0).bind fun t166 => (if a1 > 0 then ((strconv_Itoa.f a1).bind fun t167 => (if 2 + t166.size ≤ 9223372036854775807 then (if 2 + t166.size + 1 ≤ 9223372036854775807 then (if 2 + t166.size + 1 + t167.size ≤ 9223372036854775807 then (if 2 + t166.size + 1 + t167.size + 1 ≤ 9223372036854775807 then (some (((((⟨#[27, 91]⟩ : ByteArray) ++ t166) ++ (⟨#[59]⟩ : ByteArray)) ++ t167) ++ (⟨#[114]⟩ : ByteArray))) else (none)) else (none)) else (none)) else (none))) else (if 2 + t166.size ≤ 9223372036854775807 then (if 2 + t166.size + 1 ≤ 9223372036854775807 then (if 2 + t166.size + 1 + 0 ≤ 9223372036854775807 then (if 2 + t166.size + 1 + 0 + 1 ≤ 9223372036854775807 then (some (((((⟨#[27, 91]⟩ : ByteArray) ++ t166) ++ (⟨#[59]⟩ : ByteArray)) ++ (⟨#[]⟩ : ByteArray)) ++ (⟨#[114]⟩ : ByteArray))) else (none)) else (none)) else (none)) else (none)))) else (if a1 > 0 then ((strconv_Itoa.f a1).bind fun t168 => (if 2 + 0 ≤ 9223372036854775807 then (if 2 + 0 + 1 ≤ 9223372036854775807 then (if 2 + 0 + 1 + t168.size ≤ 9223372036854775807 then (if 2 + 0 + 1 + t168.size + 1 ≤ 9223372036854775807 then (some (((((⟨#[27, 91]⟩ : ByteArray) ++ (⟨#[]⟩ : ByteArray)) ++ (⟨#[59]⟩ : ByteArray)) ++ t168) ++ (⟨#[114]⟩ : ByteArray))) else (none)) else (none)) else (none)) else (none))) else (if 2 + 0 ≤ 9223372036854775807 then (if 2 + 0 + 1 ≤ 9223372036854775807 then (if 2 + 0 + 1 + 0 ≤ 9223372036854775807 then (if 2 + 0 + 1 + 0 + 1 ≤ 9223372036854775807 then (some (((((⟨#[27, 91]⟩ : ByteArray) ++ (⟨#[]⟩ : ByteArray)) ++ (⟨#[59]⟩ : ByteArray)) ++ (⟨#[]⟩ : ByteArray)) ++ (⟨#[114]⟩ : ByteArray))) else (none)) else (none)) else (none)) else (none)))) = some r := h
  clear h
  by_cases c3 : a0 > 0
  · rw [if_pos c3] at H
    have c3b0 : decide (0 < a0) = true := decide_eq_true c3
    clear c3
    replace H := Option.bind_eq_some_iff.mp H
    obtain ⟨t166, A40, H⟩ := H
    replace H : (if a1 > 0 then ((strconv_Itoa.f a1).bind fun t167 => (if 2 + t166.size ≤ 9223372036854775807 then (if 2 + t166.size + 1 ≤ 9223372036854775807 then (if 2 + t166.size + 1 + t167.size ≤ 9223372036854775807 then (if 2 + t166.size + 1 + t167.size + 1 ≤ 9223372036854775807 then (some (((((⟨#[27, 91]⟩ : ByteArray) ++ t166) ++ (⟨#[59]⟩ : ByteArray)) ++ t167) ++ (⟨#[114]⟩ : ByteArray))) else (none)) else (none)) else (none)) else (none))) else (if 2 + t166.size ≤ 9223372036854775807 then (if 2 + t166.size + 1 ≤ 9223372036854775807 then (if 2 + t166.size + 1 + 0 ≤ 9223372036854775807 then (if 2 + t166.size + 1 + 0 + 1 ≤ 9223372036854775807 then (some (((((⟨#[27, 91]⟩ : ByteArray) ++ t166) ++ (⟨#[59]⟩ : ByteArray)) ++ (⟨#[]⟩ : ByteArray)) ++ (⟨#[114]⟩ : ByteArray))) else (none)) else (none)) else (none)) else (none))) = some r := H
    have A4 := Aside0.mk A40
    clear A40
    by_cases c5 : a1 > 0
    · rw [if_pos c5] at H
      have c5b0 : decide (0 < a1) = true := decide_eq_true c5
      clear c5
      replace H := Option.bind_eq_some_iff.mp H
      obtain ⟨t167, A60, H⟩ := H
      replace H : (if 2 + t166.size ≤ 9223372036854775807 then (if 2 + t166.size + 1 ≤ 9223372036854775807 then (if 2 + t166.size + 1 + t167.size ≤ 9223372036854775807 then (if 2 + t166.size + 1 + t167.size + 1 ≤ 9223372036854775807 then (some (((((⟨#[27, 91]⟩ : ByteArray) ++ t166) ++ (⟨#[59]⟩ : ByteArray)) ++ t167) ++ (⟨#[114]⟩ : ByteArray))) else (none)) else (none)) else (none)) else (none)) = some r := H
      have A6 := Aside0.mk A60
      clear A60
      by_cases c7 : 2 + t166.size ≤ 9223372036854775807
      · rw [if_pos c7] at H
        have c7b0 := eq_true c7
        have c7b1 : decide (2 + t166.size ≤ 9223372036854775807) = true := decide_eq_true c7
        try have c7b2 : (9223372036854775807 < 2 + t166.size) = False := eq_false (Nat.not_lt.2 c7)
        by_cases c8 : 2 + t166.size + 1 ≤ 9223372036854775807
        · rw [if_pos c8] at H
          have c8b0 := eq_true c8
          have c8b1 : decide (2 + t166.size + 1 ≤ 9223372036854775807) = true := decide_eq_true c8
          try have c8b2 : (9223372036854775807 < 2 + t166.size + 1) = False := eq_false (Nat.not_lt.2 c8)
          by_cases c9 : 2 + t166.size + 1 + t167.size ≤ 9223372036854775807
          · rw [if_pos c9] at H
            have c9b0 := eq_true c9
            have c9b1 : decide (2 + t166.size + 1 + t167.size ≤ 9223372036854775807) = true := decide_eq_true c9
            try have c9b2 : (9223372036854775807 < 2 + t166.size + 1 + t167.size) = False := eq_false (Nat.not_lt.2 c9)
            by_cases c10 : 2 + t166.size + 1 + t167.size + 1 ≤ 9223372036854775807
            · rw [if_pos c10] at H
              have c10b0 := eq_true c10
              have c10b1 : decide (2 + t166.size + 1 + t167.size + 1 ≤ 9223372036854775807) = true := decide_eq_true c10
              try have c10b2 : (9223372036854775807 < 2 + t166.size + 1 + t167.size + 1) = False := eq_false (Nat.not_lt.2 c10)
              obtain rfl := Option.some.inj H
              go_enter Tryz.func66, Tryz.ntmps66
              go_wp2_with (first | ((with_reducible refine gate_callee (f := 101) rfl ?_); refine goesL_ (some 10) rfl rfl Tryz.func101 (by kernel_rfl) rfl #[.int .i64 a0] rfl (by (try simp only [List.map_toArray, List.map_cons, List.map_nil]); first | done | rfl | (simp only [List.length_drop, List.length_take]; rfl)) ?_; (with_reducible refine (strconv_Itoa.calls a0 t166 _ ?side1 A4.out).mono ?_); (case side1 => exact XTab.below HT.out (by repeat (first | (with_reducible first | exact HB.out | apply below_alloc | apply pw_below_drewN | apply below_drew1) | exact HB.out))); rintro e w11 ⟨rfl, hb⟩; refine ⟨_, rfl, ?_⟩; have n0_ := Aside0.mk (below_step (by repeat (first | (with_reducible first | exact HB.out | apply below_alloc | apply pw_below_drewN | apply below_drew1) | exact HB.out)) hb); clear HB; have HB := n0_; clear n0_; (try clear hb); (try clear hb2); (try clear hk); (try clear hi)) | ((with_reducible refine gate_callee (f := 101) rfl ?_); refine goesL_ (some 14) rfl rfl Tryz.func101 (by kernel_rfl) rfl #[.int .i64 a1] rfl (by (try simp only [List.map_toArray, List.map_cons, List.map_nil]); first | done | rfl | (simp only [List.length_drop, List.length_take]; rfl)) ?_; (with_reducible refine (strconv_Itoa.calls a1 t167 _ ?side1 A6.out).mono ?_); (case side1 => exact XTab.below HT.out (by repeat (first | (with_reducible first | exact HB.out | apply below_alloc | apply pw_below_drewN | apply below_drew1) | exact HB.out))); rintro e w12 ⟨rfl, hb⟩; refine ⟨_, rfl, ?_⟩; have n0_ := Aside0.mk (below_step (by repeat (first | (with_reducible first | exact HB.out | apply below_alloc | apply pw_below_drewN | apply below_drew1) | exact HB.out)) hb); clear HB; have HB := n0_; clear n0_; (try clear hb); (try clear hb2); (try clear hk); (try clear hi)))
              go_ret
              exact ⟨by first | rfl | (simp [errW_none, errW_some] <;> rfl) | (simp [*, errW_none, errW_some] <;> rfl), by repeat (first | (with_reducible first | exact HB.out | apply below_alloc | apply pw_below_drewN | apply below_drew1) | exact HB.out)⟩
            · rw [if_neg c10] at H
              exact absurd H (by simp)
          · rw [if_neg c9] at H
            exact absurd H (by simp)
        · rw [if_neg c8] at H
          exact absurd H (by simp)
      · rw [if_neg c7] at H
        exact absurd H (by simp)
    · rw [if_neg c5] at H
      have c5b0 : decide (0 < a1) = false := decide_eq_false c5
      clear c5
      by_cases c13 : 2 + t166.size ≤ 9223372036854775807
      · rw [if_pos c13] at H
        have c13b0 := eq_true c13
        have c13b1 : decide (2 + t166.size ≤ 9223372036854775807) = true := decide_eq_true c13
        try have c13b2 : (9223372036854775807 < 2 + t166.size) = False := eq_false (Nat.not_lt.2 c13)
        by_cases c14 : 2 + t166.size + 1 ≤ 9223372036854775807
        · rw [if_pos c14] at H
          have c14b0 := eq_true c14
          have c14b1 : decide (2 + t166.size + 1 ≤ 9223372036854775807) = true := decide_eq_true c14
          try have c14b2 : (9223372036854775807 < 2 + t166.size + 1) = False := eq_false (Nat.not_lt.2 c14)
          by_cases c15 : 2 + t166.size + 1 + 0 ≤ 9223372036854775807
          · rw [if_pos c15] at H
            have c15b0 := eq_true c15
            have c15b1 : decide (2 + t166.size + 1 + 0 ≤ 9223372036854775807) = true := decide_eq_true c15
            try have c15b2 : (9223372036854775807 < 2 + t166.size + 1 + 0) = False := eq_false (Nat.not_lt.2 c15)
            by_cases c16 : 2 + t166.size + 1 + 0 + 1 ≤ 9223372036854775807
            · rw [if_pos c16] at H
              have c16b0 := eq_true c16
              have c16b1 : decide (2 + t166.size + 1 + 0 + 1 ≤ 9223372036854775807) = true := decide_eq_true c16
              try have c16b2 : (9223372036854775807 < 2 + t166.size + 1 + 0 + 1) = False := eq_false (Nat.not_lt.2 c16)
              obtain rfl := Option.some.inj H
              go_enter Tryz.func66, Tryz.ntmps66
              go_wp2_with (first | ((with_reducible refine gate_callee (f := 101) rfl ?_); refine goesL_ (some 10) rfl rfl Tryz.func101 (by kernel_rfl) rfl #[.int .i64 a0] rfl (by (try simp only [List.map_toArray, List.map_cons, List.map_nil]); first | done | rfl | (simp only [List.length_drop, List.length_take]; rfl)) ?_; (with_reducible refine (strconv_Itoa.calls a0 t166 _ ?side1 A4.out).mono ?_); (case side1 => exact XTab.below HT.out (by repeat (first | (with_reducible first | exact HB.out | apply below_alloc | apply pw_below_drewN | apply below_drew1) | exact HB.out))); rintro e w17 ⟨rfl, hb⟩; refine ⟨_, rfl, ?_⟩; have n0_ := Aside0.mk (below_step (by repeat (first | (with_reducible first | exact HB.out | apply below_alloc | apply pw_below_drewN | apply below_drew1) | exact HB.out)) hb); clear HB; have HB := n0_; clear n0_; (try clear hb); (try clear hb2); (try clear hk); (try clear hi)))
              go_ret
              exact ⟨by first | rfl | (simp [errW_none, errW_some] <;> rfl) | (simp [*, errW_none, errW_some] <;> rfl), by repeat (first | (with_reducible first | exact HB.out | apply below_alloc | apply pw_below_drewN | apply below_drew1) | exact HB.out)⟩
            · rw [if_neg c16] at H
              exact absurd H (by simp)
          · rw [if_neg c15] at H
            exact absurd H (by simp)
        · rw [if_neg c14] at H
          exact absurd H (by simp)
      · rw [if_neg c13] at H
        exact absurd H (by simp)
  · rw [if_neg c3] at H
    have c3b0 : decide (0 < a0) = false := decide_eq_false c3
    clear c3
    by_cases c18 : a1 > 0
    · rw [if_pos c18] at H
      have c18b0 : decide (0 < a1) = true := decide_eq_true c18
      clear c18
      replace H := Option.bind_eq_some_iff.mp H
      obtain ⟨t168, A190, H⟩ := H
      replace H : (if 2 + 0 ≤ 9223372036854775807 then (if 2 + 0 + 1 ≤ 9223372036854775807 then (if 2 + 0 + 1 + t168.size ≤ 9223372036854775807 then (if 2 + 0 + 1 + t168.size + 1 ≤ 9223372036854775807 then (some (((((⟨#[27, 91]⟩ : ByteArray) ++ (⟨#[]⟩ : ByteArray)) ++ (⟨#[59]⟩ : ByteArray)) ++ t168) ++ (⟨#[114]⟩ : ByteArray))) else (none)) else (none)) else (none)) else (none)) = some r := H
      have A19 := Aside0.mk A190
      clear A190
      by_cases c20 : 2 + 0 ≤ 9223372036854775807
      · rw [if_pos c20] at H
        have c20b0 := eq_true c20
        have c20b1 : decide (2 + 0 ≤ 9223372036854775807) = true := decide_eq_true c20
        try have c20b2 : (9223372036854775807 < 2 + 0) = False := eq_false (Nat.not_lt.2 c20)
        by_cases c21 : 2 + 0 + 1 ≤ 9223372036854775807
        · rw [if_pos c21] at H
          have c21b0 := eq_true c21
          have c21b1 : decide (2 + 0 + 1 ≤ 9223372036854775807) = true := decide_eq_true c21
          try have c21b2 : (9223372036854775807 < 2 + 0 + 1) = False := eq_false (Nat.not_lt.2 c21)
          by_cases c22 : 2 + 0 + 1 + t168.size ≤ 9223372036854775807
          · rw [if_pos c22] at H
            have c22b0 := eq_true c22
            have c22b1 : decide (2 + 0 + 1 + t168.size ≤ 9223372036854775807) = true := decide_eq_true c22
            try have c22b2 : (9223372036854775807 < 2 + 0 + 1 + t168.size) = False := eq_false (Nat.not_lt.2 c22)
            by_cases c23 : 2 + 0 + 1 + t168.size + 1 ≤ 9223372036854775807
            · rw [if_pos c23] at H
              have c23b0 := eq_true c23
              have c23b1 : decide (2 + 0 + 1 + t168.size + 1 ≤ 9223372036854775807) = true := decide_eq_true c23
              try have c23b2 : (9223372036854775807 < 2 + 0 + 1 + t168.size + 1) = False := eq_false (Nat.not_lt.2 c23)
              obtain rfl := Option.some.inj H
              go_enter Tryz.func66, Tryz.ntmps66
              go_wp2_with (first | ((with_reducible refine gate_callee (f := 101) rfl ?_); refine goesL_ (some 14) rfl rfl Tryz.func101 (by kernel_rfl) rfl #[.int .i64 a1] rfl (by (try simp only [List.map_toArray, List.map_cons, List.map_nil]); first | done | rfl | (simp only [List.length_drop, List.length_take]; rfl)) ?_; (with_reducible refine (strconv_Itoa.calls a1 t168 _ ?side1 A19.out).mono ?_); (case side1 => exact XTab.below HT.out (by repeat (first | (with_reducible first | exact HB.out | apply below_alloc | apply pw_below_drewN | apply below_drew1) | exact HB.out))); rintro e w24 ⟨rfl, hb⟩; refine ⟨_, rfl, ?_⟩; have n0_ := Aside0.mk (below_step (by repeat (first | (with_reducible first | exact HB.out | apply below_alloc | apply pw_below_drewN | apply below_drew1) | exact HB.out)) hb); clear HB; have HB := n0_; clear n0_; (try clear hb); (try clear hb2); (try clear hk); (try clear hi)))
              go_ret
              exact ⟨by first | rfl | (simp [errW_none, errW_some] <;> rfl) | (simp [*, errW_none, errW_some] <;> rfl), by repeat (first | (with_reducible first | exact HB.out | apply below_alloc | apply pw_below_drewN | apply below_drew1) | exact HB.out)⟩
            · rw [if_neg c23] at H
              exact absurd H (by simp)
          · rw [if_neg c22] at H
            exact absurd H (by simp)
        · rw [if_neg c21] at H
          exact absurd H (by simp)
      · rw [if_neg c20] at H
        exact absurd H (by simp)
    · rw [if_neg c18] at H
      have c18b0 : decide (0 < a1) = false := decide_eq_false c18
      clear c18
      by_cases c25 : 2 + 0 ≤ 9223372036854775807
      · rw [if_pos c25] at H
        have c25b0 := eq_true c25
        have c25b1 : decide (2 + 0 ≤ 9223372036854775807) = true := decide_eq_true c25
        try have c25b2 : (9223372036854775807 < 2 + 0) = False := eq_false (Nat.not_lt.2 c25)
        by_cases c26 : 2 + 0 + 1 ≤ 9223372036854775807
        · rw [if_pos c26] at H
          have c26b0 := eq_true c26
          have c26b1 : decide (2 + 0 + 1 ≤ 9223372036854775807) = true := decide_eq_true c26
          try have c26b2 : (9223372036854775807 < 2 + 0 + 1) = False := eq_false (Nat.not_lt.2 c26)
          by_cases c27 : 2 + 0 + 1 + 0 ≤ 9223372036854775807
          · rw [if_pos c27] at H
            have c27b0 := eq_true c27
            have c27b1 : decide (2 + 0 + 1 + 0 ≤ 9223372036854775807) = true := decide_eq_true c27
            try have c27b2 : (9223372036854775807 < 2 + 0 + 1 + 0) = False := eq_false (Nat.not_lt.2 c27)
            by_cases c28 : 2 + 0 + 1 + 0 + 1 ≤ 9223372036854775807
            · rw [if_pos c28] at H
              have c28b0 := eq_true c28
              have c28b1 : decide (2 + 0 + 1 + 0 + 1 ≤ 9223372036854775807) = true := decide_eq_true c28
              try have c28b2 : (9223372036854775807 < 2 + 0 + 1 + 0 + 1) = False := eq_false (Nat.not_lt.2 c28)
              obtain rfl := Option.some.inj H
              go_enter Tryz.func66, Tryz.ntmps66
              go_wp2
              go_ret
              exact ⟨by first | rfl | (simp [errW_none, errW_some] <;> rfl) | (simp [*, errW_none, errW_some] <;> rfl), by repeat (first | (with_reducible first | exact HB.out | apply below_alloc | apply pw_below_drewN | apply below_drew1) | exact HB.out)⟩
            · rw [if_neg c28] at H
              exact absurd H (by simp)
          · rw [if_neg c27] at H
            exact absurd H (by simp)
        · rw [if_neg c26] at H
          exact absurd H (by simp)
      · rw [if_neg c25] at H
        exact absurd H (by simp)
end Go.Proofs.YtjkpelaeelihhaaGreatDoorRR.Y
end
section
namespace Go.Proofs.YtjkpelaeelihhaaGreatDoorRR.Y
open Go.RowKit Go.Proofs.YtjkpelaeelihhaaGreatDoorRRW.PrintWords Go.Proofs.YtjkpelaeelihhaaGreatDoorRRW.PrintLast Go.Proofs.YtjkpelaeelihhaaGreatDoorRRW.PrintMore
attribute [local go_sem] max2_int min2_int max_two min_two max_three min_three max_four min_four   -- for this text's walks alone
set_option linter.unusedVariables false
set_option linter.unusedSimpArgs false
set_option maxHeartbeats 8000000 in
set_option maxRecDepth 100000 in
theorem xansi_CursorPositionReport.calls (k : Nat) (a0 : Int) (a1 : Int) (r : ByteArray) (w : World) (hT : XTab w) (h : xansi_CursorPositionReport.f k a0 a1 = some r) :
    Calls Tryz.prog 68 #[.int .i64 a0, .int .i64 a1] w fun e w' => e = .returned (.string r) ∧ Below w.heap.size w w' := by
  have HT := Aside0.mk hT
  clear hT
  have HB := Aside0.mk (Below.refl w.heap.size w)
  have H : (if a0 < 1 then (xansi_CursorPositionReport.j0 k 1 a1) else (xansi_CursorPositionReport.j0 k a0 a1)) = some r := h
  clear h
  have HC3 := Aside0.mk H
  clear H
  go_enter Tryz.func68, Tryz.ntmps68
  go_upto_if 6 with (fail)
  go_cut [0] (fun v0 wc => ∃ (kq : Nat) (x0_2 : Int), v0 = .int .i64 x0_2 ∧ Aside0 (xansi_CursorPositionReport.j0 kq x0_2 a1 = some r) ∧ Aside0 (kq ≤ k) ∧ Aside0 (Below w.heap.size w wc))
  case first =>
    have H := HC3.out
    clear HC3
    by_cases c4 : a0 < 1
    · rw [if_pos c4] at H
      have c4b0 : decide (a0 < 1) = true := decide_eq_true c4
      clear c4
      (first | rw [c4b0] | (simp only [i64_w, i32_w]; rw [c4b0]) | skip)
      have H' := Aside0.mk H
      clear H
      go_wp2
      go_meet
      case rel => exact ⟨_, (1), (by first | rfl | (simp; done) | (simp [*]; done)), H', ⟨by first | omega | exact Nat.le_refl _⟩, ⟨by repeat (first | (with_reducible first | exact HB.out | apply below_alloc | apply pw_below_drewN | apply below_drew1) | exact HB.out)⟩⟩
    · rw [if_neg c4] at H
      have c4b0 : decide (a0 < 1) = false := decide_eq_false c4
      clear c4
      (first | rw [c4b0] | (simp only [i64_w, i32_w]; rw [c4b0]) | skip)
      have H' := Aside0.mk H
      clear H
      go_wp2
      go_meet
      case rel => exact ⟨_, (a0), (by first | rfl | (simp; done) | (simp [*]; done)), H', ⟨by first | omega | exact Nat.le_refl _⟩, ⟨by repeat (first | (with_reducible first | exact HB.out | apply below_alloc | apply pw_below_drewN | apply below_drew1) | exact HB.out)⟩⟩
  case rest =>
    clear HC3
    try clear p2
    try clear c4
    try clear c4b0
    obtain ⟨kq, x0_2, rfl, HA, HJ2, HB⟩ := hcut
    cases kq with
    | zero => exact absurd HA.out (by simp [xansi_CursorPositionReport.j0])
    | succ kj2 =>
      have H := HA.out
      clear HA
      simp only [xansi_CursorPositionReport.j0] at H
      by_cases c5 : a1 < 1
      · rw [if_pos c5] at H
        have c5b0 : decide (a1 < 1) = true := decide_eq_true c5
        clear c5
        replace H := Option.bind_eq_some_iff.mp H
        obtain ⟨t169, A60, H⟩ := H
        replace H : (if 2 + t169.size ≤ 9223372036854775807 then (if 2 + t169.size + 1 ≤ 9223372036854775807 then ((strconv_Itoa.f 1).bind fun t170 => (if 2 + t169.size + 1 + t170.size ≤ 9223372036854775807 then (if 2 + t169.size + 1 + t170.size + 1 ≤ 9223372036854775807 then (some (((((⟨#[27, 91]⟩ : ByteArray) ++ t169) ++ (⟨#[59]⟩ : ByteArray)) ++ t170) ++ (⟨#[82]⟩ : ByteArray))) else (none)) else (none))) else (none)) else (none)) = some r := H
        have A6 := Aside0.mk A60
        clear A60
        by_cases c7 : 2 + t169.size ≤ 9223372036854775807
        · rw [if_pos c7] at H
          have c7b0 := eq_true c7
          have c7b1 : decide (2 + t169.size ≤ 9223372036854775807) = true := decide_eq_true c7
          try have c7b2 : (9223372036854775807 < 2 + t169.size) = False := eq_false (Nat.not_lt.2 c7)
          by_cases c8 : 2 + t169.size + 1 ≤ 9223372036854775807
          · rw [if_pos c8] at H
            have c8b0 := eq_true c8
            have c8b1 : decide (2 + t169.size + 1 ≤ 9223372036854775807) = true := decide_eq_true c8
            try have c8b2 : (9223372036854775807 < 2 + t169.size + 1) = False := eq_false (Nat.not_lt.2 c8)
            replace H := Option.bind_eq_some_iff.mp H
            obtain ⟨t170, A90, H⟩ := H
            replace H : (if 2 + t169.size + 1 + t170.size ≤ 9223372036854775807 then (if 2 + t169.size + 1 + t170.size + 1 ≤ 9223372036854775807 then (some (((((⟨#[27, 91]⟩ : ByteArray) ++ t169) ++ (⟨#[59]⟩ : ByteArray)) ++ t170) ++ (⟨#[82]⟩ : ByteArray))) else (none)) else (none)) = some r := H
            have A9 := Aside0.mk A90
            clear A90
            by_cases c10 : 2 + t169.size + 1 + t170.size ≤ 9223372036854775807
            · rw [if_pos c10] at H
              have c10b0 := eq_true c10
              have c10b1 : decide (2 + t169.size + 1 + t170.size ≤ 9223372036854775807) = true := decide_eq_true c10
              try have c10b2 : (9223372036854775807 < 2 + t169.size + 1 + t170.size) = False := eq_false (Nat.not_lt.2 c10)
              by_cases c11 : 2 + t169.size + 1 + t170.size + 1 ≤ 9223372036854775807
              · rw [if_pos c11] at H
                have c11b0 := eq_true c11
                have c11b1 : decide (2 + t169.size + 1 + t170.size + 1 ≤ 9223372036854775807) = true := decide_eq_true c11
                try have c11b2 : (9223372036854775807 < 2 + t169.size + 1 + t170.size + 1) = False := eq_false (Nat.not_lt.2 c11)
                obtain rfl := Option.some.inj H
                go_wp2_with (first | ((with_reducible refine gate_callee (f := 101) rfl ?_); refine goesL_ (some 10) rfl rfl Tryz.func101 (by kernel_rfl) rfl #[.int .i64 x0_2] rfl (by (try simp only [List.map_toArray, List.map_cons, List.map_nil]); first | done | rfl | (simp only [List.length_drop, List.length_take]; rfl)) ?_; (with_reducible refine (strconv_Itoa.calls x0_2 t169 _ ?side1 A6.out).mono ?_); (case side1 => exact XTab.below HT.out (by repeat (first | (with_reducible first | exact HB.out | apply below_alloc | apply pw_below_drewN | apply below_drew1) | exact HB.out))); rintro e w12 ⟨rfl, hb⟩; refine ⟨_, rfl, ?_⟩; have n0_ := Aside0.mk (below_step (by repeat (first | (with_reducible first | exact HB.out | apply below_alloc | apply pw_below_drewN | apply below_drew1) | exact HB.out)) hb); clear HB; have HB := n0_; clear n0_; (try clear hb); (try clear hb2); (try clear hk); (try clear hi)) | ((with_reducible refine gate_callee (f := 101) rfl ?_); refine goesL_ (some 14) rfl rfl Tryz.func101 (by kernel_rfl) rfl #[.int .i64 1] rfl (by (try simp only [List.map_toArray, List.map_cons, List.map_nil]); first | done | rfl | (simp only [List.length_drop, List.length_take]; rfl)) ?_; (with_reducible refine (strconv_Itoa.calls 1 t170 _ ?side1 A9.out).mono ?_); (case side1 => exact XTab.below HT.out (by repeat (first | (with_reducible first | exact HB.out | apply below_alloc | apply pw_below_drewN | apply below_drew1) | exact HB.out))); rintro e w13 ⟨rfl, hb⟩; refine ⟨_, rfl, ?_⟩; have n0_ := Aside0.mk (below_step (by repeat (first | (with_reducible first | exact HB.out | apply below_alloc | apply pw_below_drewN | apply below_drew1) | exact HB.out)) hb); clear HB; have HB := n0_; clear n0_; (try clear hb); (try clear hb2); (try clear hk); (try clear hi)))
                go_ret
                exact ⟨by first | rfl | (simp [errW_none, errW_some] <;> rfl) | (simp [*, errW_none, errW_some] <;> rfl), by repeat (first | (with_reducible first | exact HB.out | apply below_alloc | apply pw_below_drewN | apply below_drew1) | exact HB.out)⟩
              · rw [if_neg c11] at H
                exact absurd H (by simp)
            · rw [if_neg c10] at H
              exact absurd H (by simp)
          · rw [if_neg c8] at H
            exact absurd H (by simp)
        · rw [if_neg c7] at H
          exact absurd H (by simp)
      · rw [if_neg c5] at H
        have c5b0 : decide (a1 < 1) = false := decide_eq_false c5
        clear c5
        replace H := Option.bind_eq_some_iff.mp H
        obtain ⟨t171, A140, H⟩ := H
        replace H : (if 2 + t171.size ≤ 9223372036854775807 then (if 2 + t171.size + 1 ≤ 9223372036854775807 then ((strconv_Itoa.f a1).bind fun t172 => (if 2 + t171.size + 1 + t172.size ≤ 9223372036854775807 then (if 2 + t171.size + 1 + t172.size + 1 ≤ 9223372036854775807 then (some (((((⟨#[27, 91]⟩ : ByteArray) ++ t171) ++ (⟨#[59]⟩ : ByteArray)) ++ t172) ++ (⟨#[82]⟩ : ByteArray))) else (none)) else (none))) else (none)) else (none)) = some r := H
        have A14 := Aside0.mk A140
        clear A140
        by_cases c15 : 2 + t171.size ≤ 9223372036854775807
        · rw [if_pos c15] at H
          have c15b0 := eq_true c15
          have c15b1 : decide (2 + t171.size ≤ 9223372036854775807) = true := decide_eq_true c15
          try have c15b2 : (9223372036854775807 < 2 + t171.size) = False := eq_false (Nat.not_lt.2 c15)
          by_cases c16 : 2 + t171.size + 1 ≤ 9223372036854775807
          · rw [if_pos c16] at H
            have c16b0 := eq_true c16
            have c16b1 : decide (2 + t171.size + 1 ≤ 9223372036854775807) = true := decide_eq_true c16
            try have c16b2 : (9223372036854775807 < 2 + t171.size + 1) = False := eq_false (Nat.not_lt.2 c16)
            replace H := Option.bind_eq_some_iff.mp H
            obtain ⟨t172, A170, H⟩ := H
            replace H : (if 2 + t171.size + 1 + t172.size ≤ 9223372036854775807 then (if 2 + t171.size + 1 + t172.size + 1 ≤ 9223372036854775807 then (some (((((⟨#[27, 91]⟩ : ByteArray) ++ t171) ++ (⟨#[59]⟩ : ByteArray)) ++ t172) ++ (⟨#[82]⟩ : ByteArray))) else (none)) else (none)) = some r := H
            have A17 := Aside0.mk A170
            clear A170
            by_cases c18 : 2 + t171.size + 1 + t172.size ≤ 9223372036854775807
            · rw [if_pos c18] at H
              have c18b0 := eq_true c18
              have c18b1 : decide (2 + t171.size + 1 + t172.size ≤ 9223372036854775807) = true := decide_eq_true c18
              try have c18b2 : (9223372036854775807 < 2 + t171.size + 1 + t172.size) = False := eq_false (Nat.not_lt.2 c18)
              by_cases c19 : 2 + t171.size + 1 + t172.size + 1 ≤ 9223372036854775807
              · rw [if_pos c19] at H
                have c19b0 := eq_true c19
                have c19b1 : decide (2 + t171.size + 1 + t172.size + 1 ≤ 9223372036854775807) = true := decide_eq_true c19
                try have c19b2 : (9223372036854775807 < 2 + t171.size + 1 + t172.size + 1) = False := eq_false (Nat.not_lt.2 c19)
                obtain rfl := Option.some.inj H
                go_wp2_with (first | ((with_reducible refine gate_callee (f := 101) rfl ?_); refine goesL_ (some 10) rfl rfl Tryz.func101 (by kernel_rfl) rfl #[.int .i64 x0_2] rfl (by (try simp only [List.map_toArray, List.map_cons, List.map_nil]); first | done | rfl | (simp only [List.length_drop, List.length_take]; rfl)) ?_; (with_reducible refine (strconv_Itoa.calls x0_2 t171 _ ?side1 A14.out).mono ?_); (case side1 => exact XTab.below HT.out (by repeat (first | (with_reducible first | exact HB.out | apply below_alloc | apply pw_below_drewN | apply below_drew1) | exact HB.out))); rintro e w20 ⟨rfl, hb⟩; refine ⟨_, rfl, ?_⟩; have n0_ := Aside0.mk (below_step (by repeat (first | (with_reducible first | exact HB.out | apply below_alloc | apply pw_below_drewN | apply below_drew1) | exact HB.out)) hb); clear HB; have HB := n0_; clear n0_; (try clear hb); (try clear hb2); (try clear hk); (try clear hi)) | ((with_reducible refine gate_callee (f := 101) rfl ?_); refine goesL_ (some 14) rfl rfl Tryz.func101 (by kernel_rfl) rfl #[.int .i64 a1] rfl (by (try simp only [List.map_toArray, List.map_cons, List.map_nil]); first | done | rfl | (simp only [List.length_drop, List.length_take]; rfl)) ?_; (with_reducible refine (strconv_Itoa.calls a1 t172 _ ?side1 A17.out).mono ?_); (case side1 => exact XTab.below HT.out (by repeat (first | (with_reducible first | exact HB.out | apply below_alloc | apply pw_below_drewN | apply below_drew1) | exact HB.out))); rintro e w21 ⟨rfl, hb⟩; refine ⟨_, rfl, ?_⟩; have n0_ := Aside0.mk (below_step (by repeat (first | (with_reducible first | exact HB.out | apply below_alloc | apply pw_below_drewN | apply below_drew1) | exact HB.out)) hb); clear HB; have HB := n0_; clear n0_; (try clear hb); (try clear hb2); (try clear hk); (try clear hi)))
                go_ret
                exact ⟨by first | rfl | (simp [errW_none, errW_some] <;> rfl) | (simp [*, errW_none, errW_some] <;> rfl), by repeat (first | (with_reducible first | exact HB.out | apply below_alloc | apply pw_below_drewN | apply below_drew1) | exact HB.out)⟩
              · rw [if_neg c19] at H
                exact absurd H (by simp)
            · rw [if_neg c18] at H
              exact absurd H (by simp)
          · rw [if_neg c16] at H
            exact absurd H (by simp)
        · rw [if_neg c15] at H
          exact absurd H (by simp)
end Go.Proofs.YtjkpelaeelihhaaGreatDoorRR.Y
end
section
namespace Go.Proofs.YtjkpelaeelihhaaGreatDoorRR.Y
open Go.RowKit Go.Proofs.YtjkpelaeelihhaaGreatDoorRRW.PrintWords Go.Proofs.YtjkpelaeelihhaaGreatDoorRRW.PrintLast Go.Proofs.YtjkpelaeelihhaaGreatDoorRRW.PrintMore
attribute [local go_sem] max2_int min2_int max_two min_two max_three min_three max_four min_four   -- for this text's walks alone
set_option linter.unusedVariables false
set_option linter.unusedSimpArgs false
set_option maxHeartbeats 8000000 in
set_option maxRecDepth 100000 in
theorem impl_MakePair.calls (k : Nat) (a0 : Int) (a1 : Int) (a2 : Int) (r : ByteArray) (w : World) (hT : XTab w) (h : impl_MakePair.f k a0 a1 a2 = some r) :
    Calls Tryz.prog 18 #[.int .i64 a0, .int .i64 a1, .int .i64 a2] w fun e w' => e = .returned (.string r) ∧ Below w.heap.size w w' := by
  have HT := Aside0.mk hT
  clear hT
  have HB := Aside0.mk (Below.refl w.heap.size w)
  have H : (if a0 = 0 then ((xansi_CursorPosition.f k a1 a2).bind fun t173 => (some t173)) else (if a0 = 1 then ((xansi_HorizontalVerticalPosition.f a1 a2).bind fun t174 => (some t174)) else (if a0 = 2 then ((xansi_SetTopBottomMargins.f a1 a2).bind fun t175 => (some t175)) else (if a0 = 3 then (none) else (if a0 = 4 then ((xansi_CursorPositionReport.f k a1 a2).bind fun t176 => (some t176)) else (if a0 = 5 then (none) else (if a0 = 6 then (none) else (some (⟨#[]⟩ : ByteArray))))))))) = some r := h
  clear h
  by_cases c4 : a0 = 0
  · rw [if_pos c4] at H
    have c4b0 : (a0 == 0) = true := beq_iff_eq.mpr c4
    have c4b1 : (a0 != 0) = false := bne_eq_false_iff_eq.mpr c4
    clear c4
    replace H := Option.bind_eq_some_iff.mp H
    obtain ⟨t173, A50, H⟩ := H
    replace H : (some t173) = some r := H
    have A5 := Aside0.mk A50
    clear A50
    obtain rfl := Option.some.inj H
    go_enter Tryz.func18, Tryz.ntmps18
    go_wp2_with (first | ((with_reducible refine gate_callee (f := 64) rfl ?_); refine goesL_ (some 16) rfl rfl Tryz.func64 (by kernel_rfl) rfl #[.int .i64 a1, .int .i64 a2] rfl (by (try simp only [List.map_toArray, List.map_cons, List.map_nil]); first | done | rfl | (simp only [List.length_drop, List.length_take]; rfl)) ?_; (with_reducible refine (xansi_CursorPosition.calls k a1 a2 t173 _ ?side1 A5.out).mono ?_); (case side1 => exact XTab.below HT.out (by repeat (first | (with_reducible first | exact HB.out | apply below_alloc | apply pw_below_drewN | apply below_drew1) | exact HB.out))); rintro e w6 ⟨rfl, hb⟩; refine ⟨_, rfl, ?_⟩; have n0_ := Aside0.mk (below_step (by repeat (first | (with_reducible first | exact HB.out | apply below_alloc | apply pw_below_drewN | apply below_drew1) | exact HB.out)) hb); clear HB; have HB := n0_; clear n0_; (try clear hb); (try clear hb2); (try clear hk); (try clear hi)))
    go_ret
    exact ⟨by first | rfl | (simp [errW_none, errW_some] <;> rfl) | (simp [*, errW_none, errW_some] <;> rfl), by repeat (first | (with_reducible first | exact HB.out | apply below_alloc | apply pw_below_drewN | apply below_drew1) | exact HB.out)⟩
  · rw [if_neg c4] at H
    have c4b0 : (a0 == 0) = false := beq_eq_false_iff_ne.mpr c4
    have c4b1 : (a0 != 0) = true := bne_iff_ne.mpr c4
    by_cases c7 : a0 = 1
    · rw [if_pos c7] at H
      have c7b0 : (a0 == 1) = true := beq_iff_eq.mpr c7
      have c7b1 : (a0 != 1) = false := bne_eq_false_iff_eq.mpr c7
      clear c7
      replace H := Option.bind_eq_some_iff.mp H
      obtain ⟨t174, A80, H⟩ := H
      replace H : (some t174) = some r := H
      have A8 := Aside0.mk A80
      clear A80
      obtain rfl := Option.some.inj H
      go_enter Tryz.func18, Tryz.ntmps18
      go_wp2_with (first | ((with_reducible refine gate_callee (f := 65) rfl ?_); refine goesL_ (some 21) rfl rfl Tryz.func65 (by kernel_rfl) rfl #[.int .i64 a1, .int .i64 a2] rfl (by (try simp only [List.map_toArray, List.map_cons, List.map_nil]); first | done | rfl | (simp only [List.length_drop, List.length_take]; rfl)) ?_; (with_reducible refine (xansi_HorizontalVerticalPosition.calls a1 a2 t174 _ ?side1 A8.out).mono ?_); (case side1 => exact XTab.below HT.out (by repeat (first | (with_reducible first | exact HB.out | apply below_alloc | apply pw_below_drewN | apply below_drew1) | exact HB.out))); rintro e w9 ⟨rfl, hb⟩; refine ⟨_, rfl, ?_⟩; have n0_ := Aside0.mk (below_step (by repeat (first | (with_reducible first | exact HB.out | apply below_alloc | apply pw_below_drewN | apply below_drew1) | exact HB.out)) hb); clear HB; have HB := n0_; clear n0_; (try clear hb); (try clear hb2); (try clear hk); (try clear hi)))
      go_ret
      exact ⟨by first | rfl | (simp [errW_none, errW_some] <;> rfl) | (simp [*, errW_none, errW_some] <;> rfl), by repeat (first | (with_reducible first | exact HB.out | apply below_alloc | apply pw_below_drewN | apply below_drew1) | exact HB.out)⟩
    · rw [if_neg c7] at H
      have c7b0 : (a0 == 1) = false := beq_eq_false_iff_ne.mpr c7
      have c7b1 : (a0 != 1) = true := bne_iff_ne.mpr c7
      by_cases c10 : a0 = 2
      · rw [if_pos c10] at H
        have c10b0 : (a0 == 2) = true := beq_iff_eq.mpr c10
        have c10b1 : (a0 != 2) = false := bne_eq_false_iff_eq.mpr c10
        clear c10
        replace H := Option.bind_eq_some_iff.mp H
        obtain ⟨t175, A110, H⟩ := H
        replace H : (some t175) = some r := H
        have A11 := Aside0.mk A110
        clear A110
        obtain rfl := Option.some.inj H
        go_enter Tryz.func18, Tryz.ntmps18
        go_wp2_with (first | ((with_reducible refine gate_callee (f := 66) rfl ?_); refine goesL_ (some 26) rfl rfl Tryz.func66 (by kernel_rfl) rfl #[.int .i64 a1, .int .i64 a2] rfl (by (try simp only [List.map_toArray, List.map_cons, List.map_nil]); first | done | rfl | (simp only [List.length_drop, List.length_take]; rfl)) ?_; (with_reducible refine (xansi_SetTopBottomMargins.calls a1 a2 t175 _ ?side1 A11.out).mono ?_); (case side1 => exact XTab.below HT.out (by repeat (first | (with_reducible first | exact HB.out | apply below_alloc | apply pw_below_drewN | apply below_drew1) | exact HB.out))); rintro e w12 ⟨rfl, hb⟩; refine ⟨_, rfl, ?_⟩; have n0_ := Aside0.mk (below_step (by repeat (first | (with_reducible first | exact HB.out | apply below_alloc | apply pw_below_drewN | apply below_drew1) | exact HB.out)) hb); clear HB; have HB := n0_; clear n0_; (try clear hb); (try clear hb2); (try clear hk); (try clear hi)))
        go_ret
        exact ⟨by first | rfl | (simp [errW_none, errW_some] <;> rfl) | (simp [*, errW_none, errW_some] <;> rfl), by repeat (first | (with_reducible first | exact HB.out | apply below_alloc | apply pw_below_drewN | apply below_drew1) | exact HB.out)⟩
      · rw [if_neg c10] at H
        have c10b0 : (a0 == 2) = false := beq_eq_false_iff_ne.mpr c10
        have c10b1 : (a0 != 2) = true := bne_iff_ne.mpr c10
        by_cases c13 : a0 = 3
        · rw [if_pos c13] at H
          exact absurd H (by simp)
        · rw [if_neg c13] at H
          have c13b0 : (a0 == 3) = false := beq_eq_false_iff_ne.mpr c13
          have c13b1 : (a0 != 3) = true := bne_iff_ne.mpr c13
          by_cases c14 : a0 = 4
          · rw [if_pos c14] at H
            have c14b0 : (a0 == 4) = true := beq_iff_eq.mpr c14
            have c14b1 : (a0 != 4) = false := bne_eq_false_iff_eq.mpr c14
            clear c14
            replace H := Option.bind_eq_some_iff.mp H
            obtain ⟨t176, A150, H⟩ := H
            replace H : (some t176) = some r := H
            have A15 := Aside0.mk A150
            clear A150
            obtain rfl := Option.some.inj H
            go_enter Tryz.func18, Tryz.ntmps18
            go_wp2_with (first | ((with_reducible refine gate_callee (f := 68) rfl ?_); refine goesL_ (some 36) rfl rfl Tryz.func68 (by kernel_rfl) rfl #[.int .i64 a1, .int .i64 a2] rfl (by (try simp only [List.map_toArray, List.map_cons, List.map_nil]); first | done | rfl | (simp only [List.length_drop, List.length_take]; rfl)) ?_; (with_reducible refine (xansi_CursorPositionReport.calls k a1 a2 t176 _ ?side1 A15.out).mono ?_); (case side1 => exact XTab.below HT.out (by repeat (first | (with_reducible first | exact HB.out | apply below_alloc | apply pw_below_drewN | apply below_drew1) | exact HB.out))); rintro e w16 ⟨rfl, hb⟩; refine ⟨_, rfl, ?_⟩; have n0_ := Aside0.mk (below_step (by repeat (first | (with_reducible first | exact HB.out | apply below_alloc | apply pw_below_drewN | apply below_drew1) | exact HB.out)) hb); clear HB; have HB := n0_; clear n0_; (try clear hb); (try clear hb2); (try clear hk); (try clear hi)))
            go_ret
            exact ⟨by first | rfl | (simp [errW_none, errW_some] <;> rfl) | (simp [*, errW_none, errW_some] <;> rfl), by repeat (first | (with_reducible first | exact HB.out | apply below_alloc | apply pw_below_drewN | apply below_drew1) | exact HB.out)⟩
          · rw [if_neg c14] at H
            have c14b0 : (a0 == 4) = false := beq_eq_false_iff_ne.mpr c14
            have c14b1 : (a0 != 4) = true := bne_iff_ne.mpr c14
            by_cases c17 : a0 = 5
            · rw [if_pos c17] at H
              exact absurd H (by simp)
            · rw [if_neg c17] at H
              have c17b0 : (a0 == 5) = false := beq_eq_false_iff_ne.mpr c17
              have c17b1 : (a0 != 5) = true := bne_iff_ne.mpr c17
              by_cases c18 : a0 = 6
              · rw [if_pos c18] at H
                exact absurd H (by simp)
              · rw [if_neg c18] at H
                have c18b0 : (a0 == 6) = false := beq_eq_false_iff_ne.mpr c18
                have c18b1 : (a0 != 6) = true := bne_iff_ne.mpr c18
                obtain rfl := Option.some.inj H
                go_enter Tryz.func18, Tryz.ntmps18
                go_wp2
                go_ret
                exact ⟨by first | rfl | (simp [errW_none, errW_some] <;> rfl) | (simp [*, errW_none, errW_some] <;> rfl), by repeat (first | (with_reducible first | exact HB.out | apply below_alloc | apply pw_below_drewN | apply below_drew1) | exact HB.out)⟩
end Go.Proofs.YtjkpelaeelihhaaGreatDoorRR.Y
end
section
namespace Go.Proofs.YtjkpelaeelihhaaGreatDoorRR.Y
open Go.RowKit Go.Proofs.YtjkpelaeelihhaaGreatDoorRRW.PrintWords Go.Proofs.YtjkpelaeelihhaaGreatDoorRRW.PrintLast Go.Proofs.YtjkpelaeelihhaaGreatDoorRRW.PrintMore
attribute [local go_sem] max2_int min2_int max_two min_two max_three min_three max_four min_four   -- for this text's walks alone
set_option linter.unusedVariables false
set_option linter.unusedSimpArgs false
set_option maxHeartbeats 8000000 in
set_option maxRecDepth 100000 in
theorem spec_IsDrawNumber.calls (a0 : Int) (r : Bool) (w : World) (h : spec_IsDrawNumber.f a0 = some r) :
    Calls Tryz.prog 81 #[.int .i64 a0] w fun e w' => e = .returned (.bool r) ∧ Drawn0 w w' := by
  have H : (if a0 ≥ 0 then (if a0 ≤ 22 then (if a0 = 7 then (some false) else (some (a0 != 8))) else (some false)) else (some false)) = some r := h
  clear h
  by_cases c2 : a0 ≥ 0
  · rw [if_pos c2] at H
    have c2b0 : decide (0 ≤ a0) = true := decide_eq_true c2
    clear c2
    by_cases c3 : a0 ≤ 22
    · rw [if_pos c3] at H
      have c3b0 : decide (a0 ≤ 22) = true := decide_eq_true c3
      clear c3
      by_cases c4 : a0 = 7
      · rw [if_pos c4] at H
        have c4b0 : (a0 == 7) = true := beq_iff_eq.mpr c4
        have c4b1 : (a0 != 7) = false := bne_eq_false_iff_eq.mpr c4
        clear c4
        obtain rfl := Option.some.inj H
        go_enter Tryz.func81, Tryz.ntmps81
        go_wp2
        go_ret
        exact ⟨by first | rfl | (simp; done) | (simp [*]; done), by repeat (first | exact Drawn0.refl _ | apply Drawn0.step)⟩
      · rw [if_neg c4] at H
        have c4b0 : (a0 == 7) = false := beq_eq_false_iff_ne.mpr c4
        have c4b1 : (a0 != 7) = true := bne_iff_ne.mpr c4
        obtain rfl := Option.some.inj H
        go_enter Tryz.func81, Tryz.ntmps81
        go_wp2
        go_ret
        exact ⟨by first | rfl | (simp; done) | (simp [*]; done), by repeat (first | exact Drawn0.refl _ | apply Drawn0.step)⟩
    · rw [if_neg c3] at H
      have c3b0 : decide (a0 ≤ 22) = false := decide_eq_false c3
      clear c3
      obtain rfl := Option.some.inj H
      go_enter Tryz.func81, Tryz.ntmps81
      go_wp2
      go_ret
      exact ⟨by first | rfl | (simp; done) | (simp [*]; done), by repeat (first | exact Drawn0.refl _ | apply Drawn0.step)⟩
  · rw [if_neg c2] at H
    have c2b0 : decide (0 ≤ a0) = false := decide_eq_false c2
    clear c2
    obtain rfl := Option.some.inj H
    go_enter Tryz.func81, Tryz.ntmps81
    go_wp2
    go_ret
    exact ⟨by first | rfl | (simp; done) | (simp [*]; done), by repeat (first | exact Drawn0.refl _ | apply Drawn0.step)⟩
end Go.Proofs.YtjkpelaeelihhaaGreatDoorRR.Y
end
