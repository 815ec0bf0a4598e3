/- Texts of this claim, joined: Y36 Y37 Y38 Y44 Y45. Of each, what the claim uses. -/
import Derived.Test.YtkklhlakklcnbaaGreatDoorRRRKac
import Derived.Test.YtkklhlakklcnbaaGreatDoorRRRKau
import Derived.Test.YtkklhlakklcnbaaGreatDoorRRRKaw
import Derived.Test.YtkklhlakklcnbaaGreatDoorRRRKat
section
namespace Go.Proofs.YtkklhlakklcnbaaGreatDoorRRR.Y
open Go.RowKit Go.Proofs.YtkklhlakklcnbaaGreatDoorRRRW.PrintWords Go.Proofs.YtkklhlakklcnbaaGreatDoorRRRW.PrintLast Go.Proofs.YtkklhlakklcnbaaGreatDoorRRRW.PrintMore
attribute [local go_sem] max2_int min2_int max_two min_two max_three min_three max_four min_four   -- for this text's walks alone
set_option linter.unusedVariables false
set_option linter.unusedSimpArgs false
set_option maxHeartbeats 8000000 in
set_option maxRecDepth 100000 in
theorem xansi_SetCursorColor.calls (a0 : ByteArray) (r : ByteArray) (w : World) (h : xansi_SetCursorColor.f a0 = some r) :
    Calls Tryz.prog 104 #[.string a0] w fun e w' => e = .returned (.string r) ∧ Drawn0 w w' := by
  have H : (if 5 + a0.size ≤ 9223372036854775807 then (if 5 + a0.size + 1 ≤ 9223372036854775807 then (some (((⟨#[27, 93, 49, 50, 59]⟩ : ByteArray) ++ a0) ++ (⟨#[7]⟩ : ByteArray))) else (none)) else (none)) = some r := h
  clear h
  by_cases c2 : 5 + a0.size ≤ 9223372036854775807
  · rw [if_pos c2] at H
    have c2b0 := eq_true c2
    have c2b1 : decide (5 + a0.size ≤ 9223372036854775807) = true := decide_eq_true c2
    try have c2b2 : (9223372036854775807 < 5 + a0.size) = False := eq_false (Nat.not_lt.2 c2)
    by_cases c3 : 5 + a0.size + 1 ≤ 9223372036854775807
    · rw [if_pos c3] at H
      have c3b0 := eq_true c3
      have c3b1 : decide (5 + a0.size + 1 ≤ 9223372036854775807) = true := decide_eq_true c3
      try have c3b2 : (9223372036854775807 < 5 + a0.size + 1) = False := eq_false (Nat.not_lt.2 c3)
      obtain rfl := Option.some.inj H
      go_enter Tryz.func104, Tryz.ntmps104
      go_wp2
      go_ret
      exact ⟨by first | rfl | (simp; done) | (simp [*]; done), by repeat (first | exact Drawn0.refl _ | apply Drawn0.step)⟩
    · rw [if_neg c3] at H
      exact absurd H (by simp)
  · rw [if_neg c2] at H
    exact absurd H (by simp)
end Go.Proofs.YtkklhlakklcnbaaGreatDoorRRR.Y
end
section
namespace Go.Proofs.YtkklhlakklcnbaaGreatDoorRRR.Y
open Go.RowKit Go.Proofs.YtkklhlakklcnbaaGreatDoorRRRW.PrintWords Go.Proofs.YtkklhlakklcnbaaGreatDoorRRRW.PrintLast Go.Proofs.YtkklhlakklcnbaaGreatDoorRRRW.PrintMore
attribute [local go_sem] max2_int min2_int max_two min_two max_three min_three max_four min_four   -- for this text's walks alone
set_option linter.unusedVariables false
set_option linter.unusedSimpArgs false
set_option maxHeartbeats 8000000 in
set_option maxRecDepth 100000 in
theorem xansi_SetPointerShape.calls (a0 : ByteArray) (r : ByteArray) (w : World) (h : xansi_SetPointerShape.f a0 = some r) :
    Calls Tryz.prog 105 #[.string a0] w fun e w' => e = .returned (.string r) ∧ Drawn0 w w' := by
  have H : (if 5 + a0.size ≤ 9223372036854775807 then (if 5 + a0.size + 1 ≤ 9223372036854775807 then (some (((⟨#[27, 93, 50, 50, 59]⟩ : ByteArray) ++ a0) ++ (⟨#[7]⟩ : ByteArray))) else (none)) else (none)) = some r := h
  clear h
  by_cases c2 : 5 + a0.size ≤ 9223372036854775807
  · rw [if_pos c2] at H
    have c2b0 := eq_true c2
    have c2b1 : decide (5 + a0.size ≤ 9223372036854775807) = true := decide_eq_true c2
    try have c2b2 : (9223372036854775807 < 5 + a0.size) = False := eq_false (Nat.not_lt.2 c2)
    by_cases c3 : 5 + a0.size + 1 ≤ 9223372036854775807
    · rw [if_pos c3] at H
      have c3b0 := eq_true c3
      have c3b1 : decide (5 + a0.size + 1 ≤ 9223372036854775807) = true := decide_eq_true c3
      try have c3b2 : (9223372036854775807 < 5 + a0.size + 1) = False := eq_false (Nat.not_lt.2 c3)
      obtain rfl := Option.some.inj H
      go_enter Tryz.func105, Tryz.ntmps105
      go_wp2
      go_ret
      exact ⟨by first | rfl | (simp; done) | (simp [*]; done), by repeat (first | exact Drawn0.refl _ | apply Drawn0.step)⟩
    · rw [if_neg c3] at H
      exact absurd H (by simp)
  · rw [if_neg c2] at H
    exact absurd H (by simp)
end Go.Proofs.YtkklhlakklcnbaaGreatDoorRRR.Y
end
section
namespace Go.Proofs.YtkklhlakklcnbaaGreatDoorRRR.Y
open Go.RowKit Go.Proofs.YtkklhlakklcnbaaGreatDoorRRRW.PrintWords Go.Proofs.YtkklhlakklcnbaaGreatDoorRRRW.PrintLast Go.Proofs.YtkklhlakklcnbaaGreatDoorRRRW.PrintMore
attribute [local go_sem] max2_int min2_int max_two min_two max_three min_three max_four min_four   -- for this text's walks alone
set_option linter.unusedVariables false
set_option linter.unusedSimpArgs false
set_option maxHeartbeats 8000000 in
set_option maxRecDepth 100000 in
theorem xansi_Notify.calls (a0 : ByteArray) (r : ByteArray) (w : World) (h : xansi_Notify.f a0 = some r) :
    Calls Tryz.prog 106 #[.string a0] w fun e w' => e = .returned (.string r) ∧ Drawn0 w w' := by
  have H : (if 4 + a0.size ≤ 9223372036854775807 then (if 4 + a0.size + 1 ≤ 9223372036854775807 then (some (((⟨#[27, 93, 57, 59]⟩ : ByteArray) ++ a0) ++ (⟨#[7]⟩ : ByteArray))) else (none)) else (none)) = some r := h
  clear h
  by_cases c2 : 4 + a0.size ≤ 9223372036854775807
  · rw [if_pos c2] at H
    have c2b0 := eq_true c2
    have c2b1 : decide (4 + a0.size ≤ 9223372036854775807) = true := decide_eq_true c2
    try have c2b2 : (9223372036854775807 < 4 + a0.size) = False := eq_false (Nat.not_lt.2 c2)
    by_cases c3 : 4 + a0.size + 1 ≤ 9223372036854775807
    · rw [if_pos c3] at H
      have c3b0 := eq_true c3
      have c3b1 : decide (4 + a0.size + 1 ≤ 9223372036854775807) = true := decide_eq_true c3
      try have c3b2 : (9223372036854775807 < 4 + a0.size + 1) = False := eq_false (Nat.not_lt.2 c3)
      obtain rfl := Option.some.inj H
      go_enter Tryz.func106, Tryz.ntmps106
      go_wp2
      go_ret
      exact ⟨by first | rfl | (simp; done) | (simp [*]; done), by repeat (first | exact Drawn0.refl _ | apply Drawn0.step)⟩
    · rw [if_neg c3] at H
      exact absurd H (by simp)
  · rw [if_neg c2] at H
    exact absurd H (by simp)
end Go.Proofs.YtkklhlakklcnbaaGreatDoorRRR.Y
end
section
namespace Go.Proofs.YtkklhlakklcnbaaGreatDoorRRR.Y
open Go.RowKit Go.Proofs.YtkklhlakklcnbaaGreatDoorRRRW.PrintWords Go.Proofs.YtkklhlakklcnbaaGreatDoorRRRW.PrintLast Go.Proofs.YtkklhlakklcnbaaGreatDoorRRRW.PrintMore
attribute [local go_sem] max2_int min2_int max_two min_two max_three min_three max_four min_four   -- for this text's walks alone
set_option linter.unusedVariables false
set_option linter.unusedSimpArgs false
set_option maxHeartbeats 8000000 in
set_option maxRecDepth 100000 in
theorem impl_MakeText.calls (a0 : Int) (a1 : ByteArray) (r : ByteArray) (w : World) (h : impl_MakeText.f a0 a1 = some r) :
    Calls Tryz.prog 34 #[.int .i64 a0, .string a1] w fun e w' => e = .returned (.string r) ∧ Drawn0 w w' := by
  have H : (if a0 = 0 then ((xansi_SetWindowTitle.f a1).bind fun t213 => (some t213)) else (if a0 = 1 then ((xansi_SetIconName.f a1).bind fun t214 => (some t214)) else (if a0 = 2 then ((xansi_SetIconNameWindowTitle.f a1).bind fun t215 => (some t215)) else (if a0 = 3 then ((xansi_SetForegroundColor.f a1).bind fun t216 => (some t216)) else (if a0 = 4 then ((xansi_SetBackgroundColor.f a1).bind fun t217 => (some t217)) else (if a0 = 5 then ((xansi_SetCursorColor.f a1).bind fun t218 => (some t218)) else (if a0 = 6 then ((xansi_SetPointerShape.f a1).bind fun t219 => (some t219)) else (if a0 = 7 then ((xansi_Notify.f a1).bind fun t220 => (some t220)) else (if a0 = 8 then (none) else (if a0 = 9 then (none) else (if a0 = 10 then (none) else (if a0 = 11 then (none) else (if a0 = 12 then (none) else (some (⟨#[]⟩ : ByteArray))))))))))))))) = some r := h
  clear h
  by_cases c3 : a0 = 0
  · rw [if_pos c3] at H
    have c3b0 : (a0 == 0) = true := beq_iff_eq.mpr c3
    have c3b1 : (a0 != 0) = false := bne_eq_false_iff_eq.mpr c3
    clear c3
    replace H := Option.bind_eq_some_iff.mp H
    obtain ⟨t213, A40, H⟩ := H
    replace H : (some t213) = some r := H
    have A4 := Aside0.mk A40
    clear A40
    obtain rfl := Option.some.inj H
    go_enter Tryz.func34, Tryz.ntmps34
    go_wp2_with (first | ((with_reducible refine gate_callee (f := 99) rfl ?_); refine goesL_ (some 9) rfl rfl Tryz.func99 (by kernel_rfl) rfl #[.string a1] rfl (by (try simp only [List.map_toArray, List.map_cons, List.map_nil]); first | done | rfl | (simp only [List.length_drop, List.length_take]; rfl)) ?_; (with_reducible refine (xansi_SetWindowTitle.calls a1 t213 _ A4.out).mono ?_); rintro e w' ⟨rfl, ⟨nd, rfl⟩⟩; refine ⟨_, rfl, ?_⟩))
    go_ret
    exact ⟨by first | rfl | (simp; done) | (simp [*]; done), by repeat (first | exact Drawn0.refl _ | apply Drawn0.step)⟩
  · rw [if_neg c3] at H
    have c3b0 : (a0 == 0) = false := beq_eq_false_iff_ne.mpr c3
    have c3b1 : (a0 != 0) = true := bne_iff_ne.mpr c3
    by_cases c5 : a0 = 1
    · rw [if_pos c5] at H
      have c5b0 : (a0 == 1) = true := beq_iff_eq.mpr c5
      have c5b1 : (a0 != 1) = false := bne_eq_false_iff_eq.mpr c5
      clear c5
      replace H := Option.bind_eq_some_iff.mp H
      obtain ⟨t214, A60, H⟩ := H
      replace H : (some t214) = some r := H
      have A6 := Aside0.mk A60
      clear A60
      obtain rfl := Option.some.inj H
      go_enter Tryz.func34, Tryz.ntmps34
      go_wp2_with (first | ((with_reducible refine gate_callee (f := 100) rfl ?_); refine goesL_ (some 13) rfl rfl Tryz.func100 (by kernel_rfl) rfl #[.string a1] rfl (by (try simp only [List.map_toArray, List.map_cons, List.map_nil]); first | done | rfl | (simp only [List.length_drop, List.length_take]; rfl)) ?_; (with_reducible refine (xansi_SetIconName.calls a1 t214 _ A6.out).mono ?_); rintro e w' ⟨rfl, ⟨nd, rfl⟩⟩; refine ⟨_, rfl, ?_⟩))
      go_ret
      exact ⟨by first | rfl | (simp; done) | (simp [*]; done), by repeat (first | exact Drawn0.refl _ | apply Drawn0.step)⟩
    · rw [if_neg c5] at H
      have c5b0 : (a0 == 1) = false := beq_eq_false_iff_ne.mpr c5
      have c5b1 : (a0 != 1) = true := bne_iff_ne.mpr c5
      by_cases c7 : a0 = 2
      · rw [if_pos c7] at H
        have c7b0 : (a0 == 2) = true := beq_iff_eq.mpr c7
        have c7b1 : (a0 != 2) = false := bne_eq_false_iff_eq.mpr c7
        clear c7
        replace H := Option.bind_eq_some_iff.mp H
        obtain ⟨t215, A80, H⟩ := H
        replace H : (some t215) = some r := H
        have A8 := Aside0.mk A80
        clear A80
        obtain rfl := Option.some.inj H
        go_enter Tryz.func34, Tryz.ntmps34
        go_wp2_with (first | ((with_reducible refine gate_callee (f := 101) rfl ?_); refine goesL_ (some 17) rfl rfl Tryz.func101 (by kernel_rfl) rfl #[.string a1] rfl (by (try simp only [List.map_toArray, List.map_cons, List.map_nil]); first | done | rfl | (simp only [List.length_drop, List.length_take]; rfl)) ?_; (with_reducible refine (xansi_SetIconNameWindowTitle.calls a1 t215 _ A8.out).mono ?_); rintro e w' ⟨rfl, ⟨nd, rfl⟩⟩; refine ⟨_, rfl, ?_⟩))
        go_ret
        exact ⟨by first | rfl | (simp; done) | (simp [*]; done), by repeat (first | exact Drawn0.refl _ | apply Drawn0.step)⟩
      · rw [if_neg c7] at H
        have c7b0 : (a0 == 2) = false := beq_eq_false_iff_ne.mpr c7
        have c7b1 : (a0 != 2) = true := bne_iff_ne.mpr c7
        by_cases c9 : a0 = 3
        · rw [if_pos c9] at H
          have c9b0 : (a0 == 3) = true := beq_iff_eq.mpr c9
          have c9b1 : (a0 != 3) = false := bne_eq_false_iff_eq.mpr c9
          clear c9
          replace H := Option.bind_eq_some_iff.mp H
          obtain ⟨t216, A100, H⟩ := H
          replace H : (some t216) = some r := H
          have A10 := Aside0.mk A100
          clear A100
          obtain rfl := Option.some.inj H
          go_enter Tryz.func34, Tryz.ntmps34
          go_wp2_with (first | ((with_reducible refine gate_callee (f := 102) rfl ?_); refine goesL_ (some 21) rfl rfl Tryz.func102 (by kernel_rfl) rfl #[.string a1] rfl (by (try simp only [List.map_toArray, List.map_cons, List.map_nil]); first | done | rfl | (simp only [List.length_drop, List.length_take]; rfl)) ?_; (with_reducible refine (xansi_SetForegroundColor.calls a1 t216 _ A10.out).mono ?_); rintro e w' ⟨rfl, ⟨nd, rfl⟩⟩; refine ⟨_, rfl, ?_⟩))
          go_ret
          exact ⟨by first | rfl | (simp; done) | (simp [*]; done), by repeat (first | exact Drawn0.refl _ | apply Drawn0.step)⟩
        · rw [if_neg c9] at H
          have c9b0 : (a0 == 3) = false := beq_eq_false_iff_ne.mpr c9
          have c9b1 : (a0 != 3) = true := bne_iff_ne.mpr c9
          by_cases c11 : a0 = 4
          · rw [if_pos c11] at H
            have c11b0 : (a0 == 4) = true := beq_iff_eq.mpr c11
            have c11b1 : (a0 != 4) = false := bne_eq_false_iff_eq.mpr c11
            clear c11
            replace H := Option.bind_eq_some_iff.mp H
            obtain ⟨t217, A120, H⟩ := H
            replace H : (some t217) = some r := H
            have A12 := Aside0.mk A120
            clear A120
            obtain rfl := Option.some.inj H
            go_enter Tryz.func34, Tryz.ntmps34
            go_wp2_with (first | ((with_reducible refine gate_callee (f := 103) rfl ?_); refine goesL_ (some 25) rfl rfl Tryz.func103 (by kernel_rfl) rfl #[.string a1] rfl (by (try simp only [List.map_toArray, List.map_cons, List.map_nil]); first | done | rfl | (simp only [List.length_drop, List.length_take]; rfl)) ?_; (with_reducible refine (xansi_SetBackgroundColor.calls a1 t217 _ A12.out).mono ?_); rintro e w' ⟨rfl, ⟨nd, rfl⟩⟩; refine ⟨_, rfl, ?_⟩))
            go_ret
            exact ⟨by first | rfl | (simp; done) | (simp [*]; done), by repeat (first | exact Drawn0.refl _ | apply Drawn0.step)⟩
          · rw [if_neg c11] at H
            have c11b0 : (a0 == 4) = false := beq_eq_false_iff_ne.mpr c11
            have c11b1 : (a0 != 4) = true := bne_iff_ne.mpr c11
            by_cases c13 : a0 = 5
            · rw [if_pos c13] at H
              have c13b0 : (a0 == 5) = true := beq_iff_eq.mpr c13
              have c13b1 : (a0 != 5) = false := bne_eq_false_iff_eq.mpr c13
              clear c13
              replace H := Option.bind_eq_some_iff.mp H
              obtain ⟨t218, A140, H⟩ := H
              replace H : (some t218) = some r := H
              have A14 := Aside0.mk A140
              clear A140
              obtain rfl := Option.some.inj H
              go_enter Tryz.func34, Tryz.ntmps34
              go_wp2_with (first | ((with_reducible refine gate_callee (f := 104) rfl ?_); refine goesL_ (some 29) rfl rfl Tryz.func104 (by kernel_rfl) rfl #[.string a1] rfl (by (try simp only [List.map_toArray, List.map_cons, List.map_nil]); first | done | rfl | (simp only [List.length_drop, List.length_take]; rfl)) ?_; (with_reducible refine (xansi_SetCursorColor.calls a1 t218 _ A14.out).mono ?_); rintro e w' ⟨rfl, ⟨nd, rfl⟩⟩; refine ⟨_, rfl, ?_⟩))
              go_ret
              exact ⟨by first | rfl | (simp; done) | (simp [*]; done), by repeat (first | exact Drawn0.refl _ | apply Drawn0.step)⟩
            · rw [if_neg c13] at H
              have c13b0 : (a0 == 5) = false := beq_eq_false_iff_ne.mpr c13
              have c13b1 : (a0 != 5) = true := bne_iff_ne.mpr c13
              by_cases c15 : a0 = 6
              · rw [if_pos c15] at H
                have c15b0 : (a0 == 6) = true := beq_iff_eq.mpr c15
                have c15b1 : (a0 != 6) = false := bne_eq_false_iff_eq.mpr c15
                clear c15
                replace H := Option.bind_eq_some_iff.mp H
                obtain ⟨t219, A160, H⟩ := H
                replace H : (some t219) = some r := H
                have A16 := Aside0.mk A160
                clear A160
                obtain rfl := Option.some.inj H
                go_enter Tryz.func34, Tryz.ntmps34
                go_wp2_with (first | ((with_reducible refine gate_callee (f := 105) rfl ?_); refine goesL_ (some 33) rfl rfl Tryz.func105 (by kernel_rfl) rfl #[.string a1] rfl (by (try simp only [List.map_toArray, List.map_cons, List.map_nil]); first | done | rfl | (simp only [List.length_drop, List.length_take]; rfl)) ?_; (with_reducible refine (xansi_SetPointerShape.calls a1 t219 _ A16.out).mono ?_); rintro e w' ⟨rfl, ⟨nd, rfl⟩⟩; refine ⟨_, rfl, ?_⟩))
                go_ret
                exact ⟨by first | rfl | (simp; done) | (simp [*]; done), by repeat (first | exact Drawn0.refl _ | apply Drawn0.step)⟩
              · rw [if_neg c15] at H
                have c15b0 : (a0 == 6) = false := beq_eq_false_iff_ne.mpr c15
                have c15b1 : (a0 != 6) = true := bne_iff_ne.mpr c15
                by_cases c17 : a0 = 7
                · rw [if_pos c17] at H
                  have c17b0 : (a0 == 7) = true := beq_iff_eq.mpr c17
                  have c17b1 : (a0 != 7) = false := bne_eq_false_iff_eq.mpr c17
                  clear c17
                  replace H := Option.bind_eq_some_iff.mp H
                  obtain ⟨t220, A180, H⟩ := H
                  replace H : (some t220) = some r := H
                  have A18 := Aside0.mk A180
                  clear A180
                  obtain rfl := Option.some.inj H
                  go_enter Tryz.func34, Tryz.ntmps34
                  go_wp2_with (first | ((with_reducible refine gate_callee (f := 106) rfl ?_); refine goesL_ (some 37) rfl rfl Tryz.func106 (by kernel_rfl) rfl #[.string a1] rfl (by (try simp only [List.map_toArray, List.map_cons, List.map_nil]); first | done | rfl | (simp only [List.length_drop, List.length_take]; rfl)) ?_; (with_reducible refine (xansi_Notify.calls a1 t220 _ A18.out).mono ?_); rintro e w' ⟨rfl, ⟨nd, rfl⟩⟩; refine ⟨_, rfl, ?_⟩))
                  go_ret
                  exact ⟨by first | rfl | (simp; done) | (simp [*]; done), by repeat (first | exact Drawn0.refl _ | apply Drawn0.step)⟩
                · rw [if_neg c17] at H
                  have c17b0 : (a0 == 7) = false := beq_eq_false_iff_ne.mpr c17
                  have c17b1 : (a0 != 7) = true := bne_iff_ne.mpr c17
                  by_cases c19 : a0 = 8
                  · rw [if_pos c19] at H
                    exact absurd H (by simp)
                  · rw [if_neg c19] at H
                    have c19b0 : (a0 == 8) = false := beq_eq_false_iff_ne.mpr c19
                    have c19b1 : (a0 != 8) = true := bne_iff_ne.mpr c19
                    by_cases c20 : a0 = 9
                    · rw [if_pos c20] at H
                      exact absurd H (by simp)
                    · rw [if_neg c20] at H
                      have c20b0 : (a0 == 9) = false := beq_eq_false_iff_ne.mpr c20
                      have c20b1 : (a0 != 9) = true := bne_iff_ne.mpr c20
                      by_cases c21 : a0 = 10
                      · rw [if_pos c21] at H
                        exact absurd H (by simp)
                      · rw [if_neg c21] at H
                        have c21b0 : (a0 == 10) = false := beq_eq_false_iff_ne.mpr c21
                        have c21b1 : (a0 != 10) = true := bne_iff_ne.mpr c21
                        by_cases c22 : a0 = 11
                        · rw [if_pos c22] at H
                          exact absurd H (by simp)
                        · rw [if_neg c22] at H
                          have c22b0 : (a0 == 11) = false := beq_eq_false_iff_ne.mpr c22
                          have c22b1 : (a0 != 11) = true := bne_iff_ne.mpr c22
                          by_cases c23 : a0 = 12
                          · rw [if_pos c23] at H
                            exact absurd H (by simp)
                          · rw [if_neg c23] at H
                            have c23b0 : (a0 == 12) = false := beq_eq_false_iff_ne.mpr c23
                            have c23b1 : (a0 != 12) = true := bne_iff_ne.mpr c23
                            obtain rfl := Option.some.inj H
                            go_enter Tryz.func34, Tryz.ntmps34
                            go_wp2
                            go_ret
                            exact ⟨by first | rfl | (simp; done) | (simp [*]; done), by repeat (first | exact Drawn0.refl _ | apply Drawn0.step)⟩
end Go.Proofs.YtkklhlakklcnbaaGreatDoorRRR.Y
end
section
namespace Go.Proofs.YtkklhlakklcnbaaGreatDoorRRR.Y
open Go.RowKit Go.Proofs.YtkklhlakklcnbaaGreatDoorRRRW.PrintWords Go.Proofs.YtkklhlakklcnbaaGreatDoorRRRW.PrintLast Go.Proofs.YtkklhlakklcnbaaGreatDoorRRRW.PrintMore
attribute [local go_sem] max2_int min2_int max_two min_two max_three min_three max_four min_four   -- for this text's walks alone
set_option linter.unusedVariables false
set_option linter.unusedSimpArgs false
set_option maxHeartbeats 8000000 in
set_option maxRecDepth 100000 in
theorem spec_drawBehind.calls (k : Nat) (a0 : ByteArray) (a1 : Int) (r : ByteArray) (w : World) (h : spec_drawBehind.f k a0 a1 = some r) :
    Calls Tryz.prog 112 #[.string a0, .int .i64 a1] w fun e w' => e = .returned (.string r) ∧ Drawn0 w w' := by
  have H : (spec_drawBehind.l0 k a0 a1 (a0.size : Int) 0) = some r := h
  clear h
  have H' := Aside0.mk H
  clear H
  go_enter Tryz.func112, Tryz.ntmps112
  go_wp2
  go_loopg [1, 8] k (fun kq v1 v8 w' => ∃ (x1_1 : Int) (x8_1 : Int), v1 = .int .i64 x1_1 ∧ v8 = .int .i64 x8_1 ∧ Aside0 (spec_drawBehind.l0 kq a0 x1_1 (a0.size : Int) x8_1 = some r) ∧ Aside0 (kq ≤ k) ∧ Drawn0 w w')
  case atStart => exact ⟨(a1), (0), (by first | rfl | (simp; done) | (simp [*]; done)), (by first | rfl | (simp; done) | (simp [*]; done)), H', ⟨Nat.le_refl _⟩, by repeat (first | exact Drawn0.refl _ | apply Drawn0.step)⟩
  case round =>
    clear H'
    try clear c1
    try clear p2
    obtain ⟨x1_1, x8_1, rfl, rfl, HA, HK1, ⟨m1, rfl⟩⟩ := hrel
    cases gk with
    | zero => exact absurd HA.out (by simp [spec_drawBehind.l0])
    | succ k1 =>
      have H := HA.out
      clear HA
      simp only [spec_drawBehind.l0] at H
      by_cases c3 : x8_1 < (a0.size : Int)
      · rw [if_pos c3] at H
        have c3b0 : decide (x8_1 < (a0.size : Int)) = true := decide_eq_true c3
        clear c3
        by_cases c4 : 0 ≤ x8_1
        · rw [if_pos c4] at H
          have c4b0 : decide (0 ≤ x8_1) = true := decide_eq_true c4
          clear c4
          by_cases c5 : x8_1 < (a0.size : Int)
          · rw [if_pos c5] at H
            have c5b0 : decide (x8_1 < (a0.size : Int)) = true := decide_eq_true c5
            clear c5
            by_cases c7 : (bt a0 x8_1) = 59
            · rw [if_pos c7] at H
              have c7b0 : ((bt a0 x8_1) == 59) = true := beq_iff_eq.mpr c7
              have c7b1 : ((bt a0 x8_1) != 59) = false := bne_eq_false_iff_eq.mpr c7
              clear c7
              by_cases c8 : (wrap64 (x1_1 - 1)) = 0
              · rw [if_pos c8] at H
                have c8b0 : ((wrap64 (x1_1 - 1)) == 0) = true := beq_iff_eq.mpr c8
                have c8b1 : ((wrap64 (x1_1 - 1)) != 0) = false := bne_eq_false_iff_eq.mpr c8
                clear c8
                obtain ⟨ji9, hji9⟩ : ∃ j_ : Int, (wrap64 (x8_1 + 1)) = j_ := ⟨_, rfl⟩
                replace H : (if 0 ≤ (ji9) then (if (ji9) ≤ (a0.size : Int) then (some (a0.extract ((ji9) : Int).toNat a0.size)) else (none)) else (none)) = some r := by first | (rw [hji9] at H; exact H) | (simp only [hji9] at H ⊢; exact H)
                have hji9w : (IntKind.i64.wrap (x8_1 + 1)) = ji9 := (i64_w _).trans hji9
                by_cases c10 : 0 ≤ (ji9)
                · rw [if_pos c10] at H
                  have c10b0 := eq_true c10
                  have c10b1 : decide (0 ≤ (ji9)) = true := decide_eq_true c10
                  clear c10
                  by_cases c11 : (ji9) ≤ (a0.size : Int)
                  · rw [if_pos c11] at H
                    have c11b0 := eq_true c11
                    have c11b1 : decide ((ji9) ≤ (a0.size : Int)) = true := decide_eq_true c11
                    clear c11
                    obtain rfl := Option.some.inj H
                    have p6 : 0 ≤ (x8_1 : Int) := of_decide_eq_true (by first | (with_reducible assumption) | assumption)
                    have q6 : x8_1 < (a0.size : Int) := of_decide_eq_true (by first | (with_reducible assumption) | assumption)
                    have hx6 := bt_at a0 x8_1
                    replace p6 := eq_true p6
                    replace q6 := eq_true q6
                    go_wp2
                    go_ret
                    exact ⟨by first | rfl | (simp; done) | (simp only [← hji9] <;> (first | rfl | simp)) | (simp [*]; done), by repeat (first | exact Drawn0.refl _ | apply Drawn0.step)⟩
                  · rw [if_neg c11] at H
                    exact absurd H (by simp)
                · rw [if_neg c10] at H
                  exact absurd H (by simp)
              · rw [if_neg c8] at H
                have c8b0 : ((wrap64 (x1_1 - 1)) == 0) = false := beq_eq_false_iff_ne.mpr c8
                have c8b1 : ((wrap64 (x1_1 - 1)) != 0) = true := bne_iff_ne.mpr c8
                have H' := Aside0.mk H
                clear H
                have p6 : 0 ≤ (x8_1 : Int) := of_decide_eq_true (by first | (with_reducible assumption) | assumption)
                have q6 : x8_1 < (a0.size : Int) := of_decide_eq_true (by first | (with_reducible assumption) | assumption)
                have hx6 := bt_at a0 x8_1
                replace p6 := eq_true p6
                replace q6 := eq_true q6
                go_wp2
                go_roundg k1
                case measure => have := HK1.out; omega
                case rel => exact ⟨(wrap64 (x1_1 - 1)), (wrap64 (x8_1 + 1)), (by first | rfl | (simp; done) | (simp [*]; done)), (by first | rfl | (simp; done) | (simp [*]; done)), H', ⟨by have := HK1.out; omega⟩, by repeat (first | exact Drawn0.refl _ | apply Drawn0.step)⟩
            · rw [if_neg c7] at H
              have c7b0 : ((bt a0 x8_1) == 59) = false := beq_eq_false_iff_ne.mpr c7
              have c7b1 : ((bt a0 x8_1) != 59) = true := bne_iff_ne.mpr c7
              have H' := Aside0.mk H
              clear H
              have p6 : 0 ≤ (x8_1 : Int) := of_decide_eq_true (by first | (with_reducible assumption) | assumption)
              have q6 : x8_1 < (a0.size : Int) := of_decide_eq_true (by first | (with_reducible assumption) | assumption)
              have hx6 := bt_at a0 x8_1
              replace p6 := eq_true p6
              replace q6 := eq_true q6
              go_wp2
              go_roundg k1
              case measure => have := HK1.out; omega
              case rel => exact ⟨(x1_1), (wrap64 (x8_1 + 1)), (by first | rfl | (simp; done) | (simp [*]; done)), (by first | rfl | (simp; done) | (simp [*]; done)), H', ⟨by have := HK1.out; omega⟩, by repeat (first | exact Drawn0.refl _ | apply Drawn0.step)⟩
          · rw [if_neg c5] at H
            exact absurd H (by simp)
        · rw [if_neg c4] at H
          exact absurd H (by simp)
      · rw [if_neg c3] at H
        have c3b0 : decide (x8_1 < (a0.size : Int)) = false := decide_eq_false c3
        clear c3
        obtain rfl := Option.some.inj H
        go_wp2
        go_ret
        exact ⟨by first | rfl | (simp; done) | (simp [*]; done), by repeat (first | exact Drawn0.refl _ | apply Drawn0.step)⟩
end Go.Proofs.YtkklhlakklcnbaaGreatDoorRRR.Y
end
