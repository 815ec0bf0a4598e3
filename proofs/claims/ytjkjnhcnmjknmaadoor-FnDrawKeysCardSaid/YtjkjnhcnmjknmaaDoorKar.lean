/- Texts of this claim, joined: Y34 Y35 Y36. Of each, what the claim uses. -/
import Derived.Test.YtjkjnhcnmjknmaaDoorKad
import Derived.Test.YtjkjnhcnmjknmaaDoorKaq
section
namespace Go.Proofs.YtjkjnhcnmjknmaaDoor.Y
open Go.RowKit Go.Proofs.YtjkjnhcnmjknmaaDoorW.PrintWords Go.Proofs.YtjkjnhcnmjknmaaDoorW.PrintLast Go.Proofs.YtjkjnhcnmjknmaaDoorW.PrintMore
attribute [local go_sem] max2_int min2_int max_two min_two max_three min_three max_four min_four   -- for this text's walks alone
set_option linter.unusedVariables false
set_option linter.unusedSimpArgs false
set_option maxHeartbeats 8000000 in
set_option maxRecDepth 100000 in
theorem xansi_SetErrorProgressBar.calls (a0 : Int) (r : ByteArray) (w : World) (hT : XTab w) (h : xansi_SetErrorProgressBar.f a0 = some r) :
    Calls Tryd.prog 47 #[.int .i64 a0] w fun e w' => e = .returned (.string r) ∧ Below w.heap.size w w' := by
  have HT := Aside0.mk hT
  clear hT
  have HB := Aside0.mk (Below.refl w.heap.size w)
  have H : ((strconv_Itoa.f (mn (mx 0 a0) 100)).bind fun t105 => (if 8 + t105.size ≤ 9223372036854775807 then (if 8 + t105.size + 1 ≤ 9223372036854775807 then (some (((⟨#[27, 93, 57, 59, 52, 59, 50, 59]⟩ : ByteArray) ++ t105) ++ (⟨#[7]⟩ : ByteArray))) else (none)) else (none))) = some r := h
  clear h
  obtain ⟨ji2, hji2⟩ : ∃ j_ : Int, (mx 0 a0) = j_ := ⟨_, rfl⟩
  replace H : ((strconv_Itoa.f (mn (ji2) 100)).bind fun t105 => (if 8 + t105.size ≤ 9223372036854775807 then (if 8 + t105.size + 1 ≤ 9223372036854775807 then (some (((⟨#[27, 93, 57, 59, 52, 59, 50, 59]⟩ : ByteArray) ++ t105) ++ (⟨#[7]⟩ : ByteArray))) else (none)) else (none))) = some r := by first | (rw [hji2] at H; exact H) | (simp only [hji2] at H ⊢; exact H)
  (try (have hji2l : 0 ≤ ji2 := by (rw [← hji2]; unfold mx; (repeat' split) <;> omega)))
  (try (have hji2m : 0 ≤ ji2 := by omega))
  have hji2_ : (if 0 < a0 then a0 else 0) = ji2 := hji2
  obtain ⟨ji3, hji3⟩ : ∃ j_ : Int, (mn (ji2) 100) = j_ := ⟨_, rfl⟩
  replace H : ((strconv_Itoa.f (ji3)).bind fun t105 => (if 8 + t105.size ≤ 9223372036854775807 then (if 8 + t105.size + 1 ≤ 9223372036854775807 then (some (((⟨#[27, 93, 57, 59, 52, 59, 50, 59]⟩ : ByteArray) ++ t105) ++ (⟨#[7]⟩ : ByteArray))) else (none)) else (none))) = some r := by first | (rw [hji3] at H; exact H) | (simp only [hji3] at H ⊢; exact H)
  have hji3_ : (if 100 < (ji2) then 100 else (ji2)) = ji3 := hji3
  replace H := Option.bind_eq_some_iff.mp H
  obtain ⟨t105, A40, H⟩ := H
  replace H : (if 8 + t105.size ≤ 9223372036854775807 then (if 8 + t105.size + 1 ≤ 9223372036854775807 then (some (((⟨#[27, 93, 57, 59, 52, 59, 50, 59]⟩ : ByteArray) ++ t105) ++ (⟨#[7]⟩ : ByteArray))) else (none)) else (none)) = some r := H
  have A4 := Aside0.mk A40
  clear A40
  by_cases c5 : 8 + t105.size ≤ 9223372036854775807
  · rw [if_pos c5] at H
    have c5b0 := eq_true c5
    have c5b1 : decide (8 + t105.size ≤ 9223372036854775807) = true := decide_eq_true c5
    try have c5b2 : (9223372036854775807 < 8 + t105.size) = False := eq_false (Nat.not_lt.2 c5)
    by_cases c6 : 8 + t105.size + 1 ≤ 9223372036854775807
    · rw [if_pos c6] at H
      have c6b0 := eq_true c6
      have c6b1 : decide (8 + t105.size + 1 ≤ 9223372036854775807) = true := decide_eq_true c6
      try have c6b2 : (9223372036854775807 < 8 + t105.size + 1) = False := eq_false (Nat.not_lt.2 c6)
      obtain rfl := Option.some.inj H
      go_enter Tryd.func47, Tryd.ntmps47
      go_wp2_with (first | ((with_reducible refine gate_callee (f := 61) rfl ?_); refine goesL_ (some 6) rfl rfl Tryd.func61 (by kernel_rfl) rfl #[.int .i64 ji3] rfl (by (try simp only [List.map_toArray, List.map_cons, List.map_nil]); first | done | (simp only [hji3]; rfl) | rfl | (simp only [List.length_drop, List.length_take]; rfl)) ?_; (with_reducible refine (strconv_Itoa.calls ji3 t105 _ ?side1 A4.out).mono ?_); (case side1 => exact XTab.below HT.out (by repeat (first | (with_reducible first | exact HB.out | apply below_alloc | apply pw_below_drewN | apply below_drew1) | exact HB.out))); rintro e w7 ⟨rfl, hb⟩; refine ⟨_, rfl, ?_⟩; have n0_ := Aside0.mk (below_step (by repeat (first | (with_reducible first | exact HB.out | apply below_alloc | apply pw_below_drewN | apply below_drew1) | exact HB.out)) hb); clear HB; have HB := n0_; clear n0_; (try clear hb); (try clear hb2); (try clear hk); (try clear hi)))
      go_ret
      exact ⟨by first | rfl | (simp [errW_none, errW_some] <;> rfl) | (simp only [← hji2, ← hji3]; first | rfl | (simp [errW_none, errW_some] <;> rfl)) | (simp [*, errW_none, errW_some] <;> rfl), by repeat (first | (with_reducible first | exact HB.out | apply below_alloc | apply pw_below_drewN | apply below_drew1) | exact HB.out)⟩
    · rw [if_neg c6] at H
      exact absurd H (by simp)
  · rw [if_neg c5] at H
    exact absurd H (by simp)
end Go.Proofs.YtjkjnhcnmjknmaaDoor.Y
end
section
namespace Go.Proofs.YtjkjnhcnmjknmaaDoor.Y
open Go.RowKit Go.Proofs.YtjkjnhcnmjknmaaDoorW.PrintWords Go.Proofs.YtjkjnhcnmjknmaaDoorW.PrintLast Go.Proofs.YtjkjnhcnmjknmaaDoorW.PrintMore
attribute [local go_sem] max2_int min2_int max_two min_two max_three min_three max_four min_four   -- for this text's walks alone
set_option linter.unusedVariables false
set_option linter.unusedSimpArgs false
set_option maxHeartbeats 8000000 in
set_option maxRecDepth 100000 in
theorem xansi_SetWarningProgressBar.calls (a0 : Int) (r : ByteArray) (w : World) (hT : XTab w) (h : xansi_SetWarningProgressBar.f a0 = some r) :
    Calls Tryd.prog 48 #[.int .i64 a0] w fun e w' => e = .returned (.string r) ∧ Below w.heap.size w w' := by
  have HT := Aside0.mk hT
  clear hT
  have HB := Aside0.mk (Below.refl w.heap.size w)
  have H : ((strconv_Itoa.f (mn (mx 0 a0) 100)).bind fun t106 => (if 8 + t106.size ≤ 9223372036854775807 then (if 8 + t106.size + 1 ≤ 9223372036854775807 then (some (((⟨#[27, 93, 57, 59, 52, 59, 52, 59]⟩ : ByteArray) ++ t106) ++ (⟨#[7]⟩ : ByteArray))) else (none)) else (none))) = some r := h
  clear h
  obtain ⟨ji2, hji2⟩ : ∃ j_ : Int, (mx 0 a0) = j_ := ⟨_, rfl⟩
  replace H : ((strconv_Itoa.f (mn (ji2) 100)).bind fun t106 => (if 8 + t106.size ≤ 9223372036854775807 then (if 8 + t106.size + 1 ≤ 9223372036854775807 then (some (((⟨#[27, 93, 57, 59, 52, 59, 52, 59]⟩ : ByteArray) ++ t106) ++ (⟨#[7]⟩ : ByteArray))) else (none)) else (none))) = some r := by first | (rw [hji2] at H; exact H) | (simp only [hji2] at H ⊢; exact H)
  (try (have hji2l : 0 ≤ ji2 := by (rw [← hji2]; unfold mx; (repeat' split) <;> omega)))
  (try (have hji2m : 0 ≤ ji2 := by omega))
  have hji2_ : (if 0 < a0 then a0 else 0) = ji2 := hji2
  obtain ⟨ji3, hji3⟩ : ∃ j_ : Int, (mn (ji2) 100) = j_ := ⟨_, rfl⟩
  replace H : ((strconv_Itoa.f (ji3)).bind fun t106 => (if 8 + t106.size ≤ 9223372036854775807 then (if 8 + t106.size + 1 ≤ 9223372036854775807 then (some (((⟨#[27, 93, 57, 59, 52, 59, 52, 59]⟩ : ByteArray) ++ t106) ++ (⟨#[7]⟩ : ByteArray))) else (none)) else (none))) = some r := by first | (rw [hji3] at H; exact H) | (simp only [hji3] at H ⊢; exact H)
  have hji3_ : (if 100 < (ji2) then 100 else (ji2)) = ji3 := hji3
  replace H := Option.bind_eq_some_iff.mp H
  obtain ⟨t106, A40, H⟩ := H
  replace H : (if 8 + t106.size ≤ 9223372036854775807 then (if 8 + t106.size + 1 ≤ 9223372036854775807 then (some (((⟨#[27, 93, 57, 59, 52, 59, 52, 59]⟩ : ByteArray) ++ t106) ++ (⟨#[7]⟩ : ByteArray))) else (none)) else (none)) = some r := H
  have A4 := Aside0.mk A40
  clear A40
  by_cases c5 : 8 + t106.size ≤ 9223372036854775807
  · rw [if_pos c5] at H
    have c5b0 := eq_true c5
    have c5b1 : decide (8 + t106.size ≤ 9223372036854775807) = true := decide_eq_true c5
    try have c5b2 : (9223372036854775807 < 8 + t106.size) = False := eq_false (Nat.not_lt.2 c5)
    by_cases c6 : 8 + t106.size + 1 ≤ 9223372036854775807
    · rw [if_pos c6] at H
      have c6b0 := eq_true c6
      have c6b1 : decide (8 + t106.size + 1 ≤ 9223372036854775807) = true := decide_eq_true c6
      try have c6b2 : (9223372036854775807 < 8 + t106.size + 1) = False := eq_false (Nat.not_lt.2 c6)
      obtain rfl := Option.some.inj H
      go_enter Tryd.func48, Tryd.ntmps48
      go_wp2_with (first | ((with_reducible refine gate_callee (f := 61) rfl ?_); refine goesL_ (some 6) rfl rfl Tryd.func61 (by kernel_rfl) rfl #[.int .i64 ji3] rfl (by (try simp only [List.map_toArray, List.map_cons, List.map_nil]); first | done | (simp only [hji3]; rfl) | rfl | (simp only [List.length_drop, List.length_take]; rfl)) ?_; (with_reducible refine (strconv_Itoa.calls ji3 t106 _ ?side1 A4.out).mono ?_); (case side1 => exact XTab.below HT.out (by repeat (first | (with_reducible first | exact HB.out | apply below_alloc | apply pw_below_drewN | apply below_drew1) | exact HB.out))); rintro e w7 ⟨rfl, hb⟩; refine ⟨_, rfl, ?_⟩; have n0_ := Aside0.mk (below_step (by repeat (first | (with_reducible first | exact HB.out | apply below_alloc | apply pw_below_drewN | apply below_drew1) | exact HB.out)) hb); clear HB; have HB := n0_; clear n0_; (try clear hb); (try clear hb2); (try clear hk); (try clear hi)))
      go_ret
      exact ⟨by first | rfl | (simp [errW_none, errW_some] <;> rfl) | (simp only [← hji2, ← hji3]; first | rfl | (simp [errW_none, errW_some] <;> rfl)) | (simp [*, errW_none, errW_some] <;> rfl), by repeat (first | (with_reducible first | exact HB.out | apply below_alloc | apply pw_below_drewN | apply below_drew1) | exact HB.out)⟩
    · rw [if_neg c6] at H
      exact absurd H (by simp)
  · rw [if_neg c5] at H
    exact absurd H (by simp)
end Go.Proofs.YtjkjnhcnmjknmaaDoor.Y
end
section
namespace Go.Proofs.YtjkjnhcnmjknmaaDoor.Y
open Go.RowKit Go.Proofs.YtjkjnhcnmjknmaaDoorW.PrintWords Go.Proofs.YtjkjnhcnmjknmaaDoorW.PrintLast Go.Proofs.YtjkjnhcnmjknmaaDoorW.PrintMore
attribute [local go_sem] max2_int min2_int max_two min_two max_three min_three max_four min_four   -- for this text's walks alone
set_option linter.unusedVariables false
set_option linter.unusedSimpArgs false
set_option maxHeartbeats 8000000 in
set_option maxRecDepth 100000 in
theorem impl_MakeNumber.calls (a0 : Int) (a1 : Int) (r : ByteArray) (w : World) (hT : XTab w) (h : impl_MakeNumber.f a0 a1 = some r) :
    Calls Tryd.prog 6 #[.int .i64 a0, .int .i64 a1] w fun e w' => e = .returned (.string r) ∧ Below w.heap.size w w' := by
  have HT := Aside0.mk hT
  clear hT
  have HB := Aside0.mk (Below.refl w.heap.size w)
  have H : (if a0 = 0 then ((xansi_CursorUp.f a1).bind fun t107 => (some t107)) else (if a0 = 1 then (none) else (if a0 = 2 then (none) else (if a0 = 3 then (none) else (if a0 = 4 then (none) else (if a0 = 5 then (none) else (if a0 = 6 then (none) else (if a0 = 7 then (none) else (if a0 = 8 then (none) else (if a0 = 9 then (none) else (if a0 = 10 then (none) else (if a0 = 11 then (none) else (if a0 = 12 then (none) else (if a0 = 13 then (none) else (if a0 = 14 then (none) else (if a0 = 15 then (none) else (if a0 = 16 then (none) else (if a0 = 17 then (none) else (if a0 = 18 then (none) else (if a0 = 19 then (none) else (if a0 = 20 then (none) else (if a0 = 21 then (none) else (if a0 = 22 then (none) else (if a0 = 23 then (none) else (if a0 = 24 then (none) else (if a0 = 25 then (none) else (if a0 = 26 then ((xansi_PushKittyKeyboard.f a1).bind fun t108 => (some t108)) else (if a0 = 27 then ((xansi_PopKittyKeyboard.f a1).bind fun t109 => (some t109)) else (if a0 = 28 then (none) else (if a0 = 29 then (none) else (if a0 = 30 then (none) else (if a0 = 31 then ((xansi_SetProgressBar.f a1).bind fun t110 => (some t110)) else (if a0 = 32 then ((xansi_SetErrorProgressBar.f a1).bind fun t111 => (some t111)) else (if a0 = 33 then ((xansi_SetWarningProgressBar.f a1).bind fun t112 => (some t112)) else (some (⟨#[]⟩ : ByteArray)))))))))))))))))))))))))))))))))))) = some r := h
  clear h
  by_cases c3 : a0 = 0
  · rw [if_pos c3] at H
    have c3b0 : (a0 == 0) = true := beq_iff_eq.mpr c3
    have c3b1 : (a0 != 0) = false := bne_eq_false_iff_eq.mpr c3
    clear c3
    replace H := Option.bind_eq_some_iff.mp H
    obtain ⟨t107, A40, H⟩ := H
    replace H : (some t107) = some r := H
    have A4 := Aside0.mk A40
    clear A40
    obtain rfl := Option.some.inj H
    go_enter Tryd.func6, Tryd.ntmps6
    go_wp2_with (first | ((with_reducible refine gate_callee (f := 15) rfl ?_); refine goesL_ (some 11) rfl rfl Tryd.func15 (by kernel_rfl) rfl #[.int .i64 a1] rfl (by (try simp only [List.map_toArray, List.map_cons, List.map_nil]); first | done | rfl | (simp only [List.length_drop, List.length_take]; rfl)) ?_; (with_reducible refine (xansi_CursorUp.calls a1 t107 _ ?side1 A4.out).mono ?_); (case side1 => exact XTab.below HT.out (by repeat (first | (with_reducible first | exact HB.out | apply below_alloc | apply pw_below_drewN | apply below_drew1) | exact HB.out))); rintro e w5 ⟨rfl, hb⟩; refine ⟨_, rfl, ?_⟩; have n0_ := Aside0.mk (below_step (by repeat (first | (with_reducible first | exact HB.out | apply below_alloc | apply pw_below_drewN | apply below_drew1) | exact HB.out)) hb); clear HB; have HB := n0_; clear n0_; (try clear hb); (try clear hb2); (try clear hk); (try clear hi)))
    go_ret
    exact ⟨by first | rfl | (simp [errW_none, errW_some] <;> rfl) | (simp [*, errW_none, errW_some] <;> rfl), by repeat (first | (with_reducible first | exact HB.out | apply below_alloc | apply pw_below_drewN | apply below_drew1) | exact HB.out)⟩
  · rw [if_neg c3] at H
    have c3b0 : (a0 == 0) = false := beq_eq_false_iff_ne.mpr c3
    have c3b1 : (a0 != 0) = true := bne_iff_ne.mpr c3
    by_cases c6 : a0 = 1
    · rw [if_pos c6] at H
      exact absurd H (by simp)
    · rw [if_neg c6] at H
      have c6b0 : (a0 == 1) = false := beq_eq_false_iff_ne.mpr c6
      have c6b1 : (a0 != 1) = true := bne_iff_ne.mpr c6
      by_cases c7 : a0 = 2
      · rw [if_pos c7] at H
        exact absurd H (by simp)
      · rw [if_neg c7] at H
        have c7b0 : (a0 == 2) = false := beq_eq_false_iff_ne.mpr c7
        have c7b1 : (a0 != 2) = true := bne_iff_ne.mpr c7
        by_cases c8 : a0 = 3
        · rw [if_pos c8] at H
          exact absurd H (by simp)
        · rw [if_neg c8] at H
          have c8b0 : (a0 == 3) = false := beq_eq_false_iff_ne.mpr c8
          have c8b1 : (a0 != 3) = true := bne_iff_ne.mpr c8
          by_cases c9 : a0 = 4
          · rw [if_pos c9] at H
            exact absurd H (by simp)
          · rw [if_neg c9] at H
            have c9b0 : (a0 == 4) = false := beq_eq_false_iff_ne.mpr c9
            have c9b1 : (a0 != 4) = true := bne_iff_ne.mpr c9
            by_cases c10 : a0 = 5
            · rw [if_pos c10] at H
              exact absurd H (by simp)
            · rw [if_neg c10] at H
              have c10b0 : (a0 == 5) = false := beq_eq_false_iff_ne.mpr c10
              have c10b1 : (a0 != 5) = true := bne_iff_ne.mpr c10
              by_cases c11 : a0 = 6
              · rw [if_pos c11] at H
                exact absurd H (by simp)
              · rw [if_neg c11] at H
                have c11b0 : (a0 == 6) = false := beq_eq_false_iff_ne.mpr c11
                have c11b1 : (a0 != 6) = true := bne_iff_ne.mpr c11
                by_cases c12 : a0 = 7
                · rw [if_pos c12] at H
                  exact absurd H (by simp)
                · rw [if_neg c12] at H
                  have c12b0 : (a0 == 7) = false := beq_eq_false_iff_ne.mpr c12
                  have c12b1 : (a0 != 7) = true := bne_iff_ne.mpr c12
                  by_cases c13 : a0 = 8
                  · rw [if_pos c13] at H
                    exact absurd H (by simp)
                  · rw [if_neg c13] at H
                    have c13b0 : (a0 == 8) = false := beq_eq_false_iff_ne.mpr c13
                    have c13b1 : (a0 != 8) = true := bne_iff_ne.mpr c13
                    by_cases c14 : a0 = 9
                    · rw [if_pos c14] at H
                      exact absurd H (by simp)
                    · rw [if_neg c14] at H
                      have c14b0 : (a0 == 9) = false := beq_eq_false_iff_ne.mpr c14
                      have c14b1 : (a0 != 9) = true := bne_iff_ne.mpr c14
                      by_cases c15 : a0 = 10
                      · rw [if_pos c15] at H
                        exact absurd H (by simp)
                      · rw [if_neg c15] at H
                        have c15b0 : (a0 == 10) = false := beq_eq_false_iff_ne.mpr c15
                        have c15b1 : (a0 != 10) = true := bne_iff_ne.mpr c15
                        by_cases c16 : a0 = 11
                        · rw [if_pos c16] at H
                          exact absurd H (by simp)
                        · rw [if_neg c16] at H
                          have c16b0 : (a0 == 11) = false := beq_eq_false_iff_ne.mpr c16
                          have c16b1 : (a0 != 11) = true := bne_iff_ne.mpr c16
                          by_cases c17 : a0 = 12
                          · rw [if_pos c17] at H
                            exact absurd H (by simp)
                          · rw [if_neg c17] at H
                            have c17b0 : (a0 == 12) = false := beq_eq_false_iff_ne.mpr c17
                            have c17b1 : (a0 != 12) = true := bne_iff_ne.mpr c17
                            by_cases c18 : a0 = 13
                            · rw [if_pos c18] at H
                              exact absurd H (by simp)
                            · rw [if_neg c18] at H
                              have c18b0 : (a0 == 13) = false := beq_eq_false_iff_ne.mpr c18
                              have c18b1 : (a0 != 13) = true := bne_iff_ne.mpr c18
                              by_cases c19 : a0 = 14
                              · rw [if_pos c19] at H
                                exact absurd H (by simp)
                              · rw [if_neg c19] at H
                                have c19b0 : (a0 == 14) = false := beq_eq_false_iff_ne.mpr c19
                                have c19b1 : (a0 != 14) = true := bne_iff_ne.mpr c19
                                by_cases c20 : a0 = 15
                                · rw [if_pos c20] at H
                                  exact absurd H (by simp)
                                · rw [if_neg c20] at H
                                  have c20b0 : (a0 == 15) = false := beq_eq_false_iff_ne.mpr c20
                                  have c20b1 : (a0 != 15) = true := bne_iff_ne.mpr c20
                                  by_cases c21 : a0 = 16
                                  · rw [if_pos c21] at H
                                    exact absurd H (by simp)
                                  · rw [if_neg c21] at H
                                    have c21b0 : (a0 == 16) = false := beq_eq_false_iff_ne.mpr c21
                                    have c21b1 : (a0 != 16) = true := bne_iff_ne.mpr c21
                                    by_cases c22 : a0 = 17
                                    · rw [if_pos c22] at H
                                      exact absurd H (by simp)
                                    · rw [if_neg c22] at H
                                      have c22b0 : (a0 == 17) = false := beq_eq_false_iff_ne.mpr c22
                                      have c22b1 : (a0 != 17) = true := bne_iff_ne.mpr c22
                                      by_cases c23 : a0 = 18
                                      · rw [if_pos c23] at H
                                        exact absurd H (by simp)
                                      · rw [if_neg c23] at H
                                        have c23b0 : (a0 == 18) = false := beq_eq_false_iff_ne.mpr c23
                                        have c23b1 : (a0 != 18) = true := bne_iff_ne.mpr c23
                                        by_cases c24 : a0 = 19
                                        · rw [if_pos c24] at H
                                          exact absurd H (by simp)
                                        · rw [if_neg c24] at H
                                          have c24b0 : (a0 == 19) = false := beq_eq_false_iff_ne.mpr c24
                                          have c24b1 : (a0 != 19) = true := bne_iff_ne.mpr c24
                                          by_cases c25 : a0 = 20
                                          · rw [if_pos c25] at H
                                            exact absurd H (by simp)
                                          · rw [if_neg c25] at H
                                            have c25b0 : (a0 == 20) = false := beq_eq_false_iff_ne.mpr c25
                                            have c25b1 : (a0 != 20) = true := bne_iff_ne.mpr c25
                                            by_cases c26 : a0 = 21
                                            · rw [if_pos c26] at H
                                              exact absurd H (by simp)
                                            · rw [if_neg c26] at H
                                              have c26b0 : (a0 == 21) = false := beq_eq_false_iff_ne.mpr c26
                                              have c26b1 : (a0 != 21) = true := bne_iff_ne.mpr c26
                                              by_cases c27 : a0 = 22
                                              · rw [if_pos c27] at H
                                                exact absurd H (by simp)
                                              · rw [if_neg c27] at H
                                                have c27b0 : (a0 == 22) = false := beq_eq_false_iff_ne.mpr c27
                                                have c27b1 : (a0 != 22) = true := bne_iff_ne.mpr c27
                                                by_cases c28 : a0 = 23
                                                · rw [if_pos c28] at H
                                                  exact absurd H (by simp)
                                                · rw [if_neg c28] at H
                                                  have c28b0 : (a0 == 23) = false := beq_eq_false_iff_ne.mpr c28
                                                  have c28b1 : (a0 != 23) = true := bne_iff_ne.mpr c28
                                                  by_cases c29 : a0 = 24
                                                  · rw [if_pos c29] at H
                                                    exact absurd H (by simp)
                                                  · rw [if_neg c29] at H
                                                    have c29b0 : (a0 == 24) = false := beq_eq_false_iff_ne.mpr c29
                                                    have c29b1 : (a0 != 24) = true := bne_iff_ne.mpr c29
                                                    by_cases c30 : a0 = 25
                                                    · rw [if_pos c30] at H
                                                      exact absurd H (by simp)
                                                    · rw [if_neg c30] at H
                                                      have c30b0 : (a0 == 25) = false := beq_eq_false_iff_ne.mpr c30
                                                      have c30b1 : (a0 != 25) = true := bne_iff_ne.mpr c30
                                                      by_cases c31 : a0 = 26
                                                      · rw [if_pos c31] at H
                                                        have c31b0 : (a0 == 26) = true := beq_iff_eq.mpr c31
                                                        have c31b1 : (a0 != 26) = false := bne_eq_false_iff_eq.mpr c31
                                                        clear c31
                                                        replace H := Option.bind_eq_some_iff.mp H
                                                        obtain ⟨t108, A320, H⟩ := H
                                                        replace H : (some t108) = some r := H
                                                        have A32 := Aside0.mk A320
                                                        clear A320
                                                        obtain rfl := Option.some.inj H
                                                        go_enter Tryd.func6, Tryd.ntmps6
                                                        go_wp2_with (first | ((with_reducible refine gate_callee (f := 41) rfl ?_); refine goesL_ (some 115) rfl rfl Tryd.func41 (by kernel_rfl) rfl #[.int .i64 a1] rfl (by (try simp only [List.map_toArray, List.map_cons, List.map_nil]); first | done | rfl | (simp only [List.length_drop, List.length_take]; rfl)) ?_; (with_reducible refine (xansi_PushKittyKeyboard.calls a1 t108 _ ?side1 A32.out).mono ?_); (case side1 => exact XTab.below HT.out (by repeat (first | (with_reducible first | exact HB.out | apply below_alloc | apply pw_below_drewN | apply below_drew1) | exact HB.out))); rintro e w33 ⟨rfl, hb⟩; refine ⟨_, rfl, ?_⟩; have n0_ := Aside0.mk (below_step (by repeat (first | (with_reducible first | exact HB.out | apply below_alloc | apply pw_below_drewN | apply below_drew1) | exact HB.out)) hb); clear HB; have HB := n0_; clear n0_; (try clear hb); (try clear hb2); (try clear hk); (try clear hi)))
                                                        go_ret
                                                        exact ⟨by first | rfl | (simp [errW_none, errW_some] <;> rfl) | (simp [*, errW_none, errW_some] <;> rfl), by repeat (first | (with_reducible first | exact HB.out | apply below_alloc | apply pw_below_drewN | apply below_drew1) | exact HB.out)⟩
                                                      · rw [if_neg c31] at H
                                                        have c31b0 : (a0 == 26) = false := beq_eq_false_iff_ne.mpr c31
                                                        have c31b1 : (a0 != 26) = true := bne_iff_ne.mpr c31
                                                        by_cases c34 : a0 = 27
                                                        · rw [if_pos c34] at H
                                                          have c34b0 : (a0 == 27) = true := beq_iff_eq.mpr c34
                                                          have c34b1 : (a0 != 27) = false := bne_eq_false_iff_eq.mpr c34
                                                          clear c34
                                                          replace H := Option.bind_eq_some_iff.mp H
                                                          obtain ⟨t109, A350, H⟩ := H
                                                          replace H : (some t109) = some r := H
                                                          have A35 := Aside0.mk A350
                                                          clear A350
                                                          obtain rfl := Option.some.inj H
                                                          go_enter Tryd.func6, Tryd.ntmps6
                                                          go_wp2_with (first | ((with_reducible refine gate_callee (f := 42) rfl ?_); refine goesL_ (some 119) rfl rfl Tryd.func42 (by kernel_rfl) rfl #[.int .i64 a1] rfl (by (try simp only [List.map_toArray, List.map_cons, List.map_nil]); first | done | rfl | (simp only [List.length_drop, List.length_take]; rfl)) ?_; (with_reducible refine (xansi_PopKittyKeyboard.calls a1 t109 _ ?side1 A35.out).mono ?_); (case side1 => exact XTab.below HT.out (by repeat (first | (with_reducible first | exact HB.out | apply below_alloc | apply pw_below_drewN | apply below_drew1) | exact HB.out))); rintro e w36 ⟨rfl, hb⟩; refine ⟨_, rfl, ?_⟩; have n0_ := Aside0.mk (below_step (by repeat (first | (with_reducible first | exact HB.out | apply below_alloc | apply pw_below_drewN | apply below_drew1) | exact HB.out)) hb); clear HB; have HB := n0_; clear n0_; (try clear hb); (try clear hb2); (try clear hk); (try clear hi)))
                                                          go_ret
                                                          exact ⟨by first | rfl | (simp [errW_none, errW_some] <;> rfl) | (simp [*, errW_none, errW_some] <;> rfl), by repeat (first | (with_reducible first | exact HB.out | apply below_alloc | apply pw_below_drewN | apply below_drew1) | exact HB.out)⟩
                                                        · rw [if_neg c34] at H
                                                          have c34b0 : (a0 == 27) = false := beq_eq_false_iff_ne.mpr c34
                                                          have c34b1 : (a0 != 27) = true := bne_iff_ne.mpr c34
                                                          by_cases c37 : a0 = 28
                                                          · rw [if_pos c37] at H
                                                            exact absurd H (by simp)
                                                          · rw [if_neg c37] at H
                                                            have c37b0 : (a0 == 28) = false := beq_eq_false_iff_ne.mpr c37
                                                            have c37b1 : (a0 != 28) = true := bne_iff_ne.mpr c37
                                                            by_cases c38 : a0 = 29
                                                            · rw [if_pos c38] at H
                                                              exact absurd H (by simp)
                                                            · rw [if_neg c38] at H
                                                              have c38b0 : (a0 == 29) = false := beq_eq_false_iff_ne.mpr c38
                                                              have c38b1 : (a0 != 29) = true := bne_iff_ne.mpr c38
                                                              by_cases c39 : a0 = 30
                                                              · rw [if_pos c39] at H
                                                                exact absurd H (by simp)
                                                              · rw [if_neg c39] at H
                                                                have c39b0 : (a0 == 30) = false := beq_eq_false_iff_ne.mpr c39
                                                                have c39b1 : (a0 != 30) = true := bne_iff_ne.mpr c39
                                                                by_cases c40 : a0 = 31
                                                                · rw [if_pos c40] at H
                                                                  have c40b0 : (a0 == 31) = true := beq_iff_eq.mpr c40
                                                                  have c40b1 : (a0 != 31) = false := bne_eq_false_iff_eq.mpr c40
                                                                  clear c40
                                                                  replace H := Option.bind_eq_some_iff.mp H
                                                                  obtain ⟨t110, A410, H⟩ := H
                                                                  replace H : (some t110) = some r := H
                                                                  have A41 := Aside0.mk A410
                                                                  clear A410
                                                                  obtain rfl := Option.some.inj H
                                                                  go_enter Tryd.func6, Tryd.ntmps6
                                                                  go_wp2_with (first | ((with_reducible refine gate_callee (f := 46) rfl ?_); refine goesL_ (some 135) rfl rfl Tryd.func46 (by kernel_rfl) rfl #[.int .i64 a1] rfl (by (try simp only [List.map_toArray, List.map_cons, List.map_nil]); first | done | rfl | (simp only [List.length_drop, List.length_take]; rfl)) ?_; (with_reducible refine (xansi_SetProgressBar.calls a1 t110 _ ?side1 A41.out).mono ?_); (case side1 => exact XTab.below HT.out (by repeat (first | (with_reducible first | exact HB.out | apply below_alloc | apply pw_below_drewN | apply below_drew1) | exact HB.out))); rintro e w42 ⟨rfl, hb⟩; refine ⟨_, rfl, ?_⟩; have n0_ := Aside0.mk (below_step (by repeat (first | (with_reducible first | exact HB.out | apply below_alloc | apply pw_below_drewN | apply below_drew1) | exact HB.out)) hb); clear HB; have HB := n0_; clear n0_; (try clear hb); (try clear hb2); (try clear hk); (try clear hi)))
                                                                  go_ret
                                                                  exact ⟨by first | rfl | (simp [errW_none, errW_some] <;> rfl) | (simp [*, errW_none, errW_some] <;> rfl), by repeat (first | (with_reducible first | exact HB.out | apply below_alloc | apply pw_below_drewN | apply below_drew1) | exact HB.out)⟩
                                                                · rw [if_neg c40] at H
                                                                  have c40b0 : (a0 == 31) = false := beq_eq_false_iff_ne.mpr c40
                                                                  have c40b1 : (a0 != 31) = true := bne_iff_ne.mpr c40
                                                                  by_cases c43 : a0 = 32
                                                                  · rw [if_pos c43] at H
                                                                    have c43b0 : (a0 == 32) = true := beq_iff_eq.mpr c43
                                                                    have c43b1 : (a0 != 32) = false := bne_eq_false_iff_eq.mpr c43
                                                                    clear c43
                                                                    replace H := Option.bind_eq_some_iff.mp H
                                                                    obtain ⟨t111, A440, H⟩ := H
                                                                    replace H : (some t111) = some r := H
                                                                    have A44 := Aside0.mk A440
                                                                    clear A440
                                                                    obtain rfl := Option.some.inj H
                                                                    go_enter Tryd.func6, Tryd.ntmps6
                                                                    go_wp2_with (first | ((with_reducible refine gate_callee (f := 47) rfl ?_); refine goesL_ (some 139) rfl rfl Tryd.func47 (by kernel_rfl) rfl #[.int .i64 a1] rfl (by (try simp only [List.map_toArray, List.map_cons, List.map_nil]); first | done | rfl | (simp only [List.length_drop, List.length_take]; rfl)) ?_; (with_reducible refine (xansi_SetErrorProgressBar.calls a1 t111 _ ?side1 A44.out).mono ?_); (case side1 => exact XTab.below HT.out (by repeat (first | (with_reducible first | exact HB.out | apply below_alloc | apply pw_below_drewN | apply below_drew1) | exact HB.out))); rintro e w45 ⟨rfl, hb⟩; refine ⟨_, rfl, ?_⟩; have n0_ := Aside0.mk (below_step (by repeat (first | (with_reducible first | exact HB.out | apply below_alloc | apply pw_below_drewN | apply below_drew1) | exact HB.out)) hb); clear HB; have HB := n0_; clear n0_; (try clear hb); (try clear hb2); (try clear hk); (try clear hi)))
                                                                    go_ret
                                                                    exact ⟨by first | rfl | (simp [errW_none, errW_some] <;> rfl) | (simp [*, errW_none, errW_some] <;> rfl), by repeat (first | (with_reducible first | exact HB.out | apply below_alloc | apply pw_below_drewN | apply below_drew1) | exact HB.out)⟩
                                                                  · rw [if_neg c43] at H
                                                                    have c43b0 : (a0 == 32) = false := beq_eq_false_iff_ne.mpr c43
                                                                    have c43b1 : (a0 != 32) = true := bne_iff_ne.mpr c43
                                                                    by_cases c46 : a0 = 33
                                                                    · rw [if_pos c46] at H
                                                                      have c46b0 : (a0 == 33) = true := beq_iff_eq.mpr c46
                                                                      have c46b1 : (a0 != 33) = false := bne_eq_false_iff_eq.mpr c46
                                                                      clear c46
                                                                      replace H := Option.bind_eq_some_iff.mp H
                                                                      obtain ⟨t112, A470, H⟩ := H
                                                                      replace H : (some t112) = some r := H
                                                                      have A47 := Aside0.mk A470
                                                                      clear A470
                                                                      obtain rfl := Option.some.inj H
                                                                      go_enter Tryd.func6, Tryd.ntmps6
                                                                      go_wp2_with (first | ((with_reducible refine gate_callee (f := 48) rfl ?_); refine goesL_ (some 143) rfl rfl Tryd.func48 (by kernel_rfl) rfl #[.int .i64 a1] rfl (by (try simp only [List.map_toArray, List.map_cons, List.map_nil]); first | done | rfl | (simp only [List.length_drop, List.length_take]; rfl)) ?_; (with_reducible refine (xansi_SetWarningProgressBar.calls a1 t112 _ ?side1 A47.out).mono ?_); (case side1 => exact XTab.below HT.out (by repeat (first | (with_reducible first | exact HB.out | apply below_alloc | apply pw_below_drewN | apply below_drew1) | exact HB.out))); rintro e w48 ⟨rfl, hb⟩; refine ⟨_, rfl, ?_⟩; have n0_ := Aside0.mk (below_step (by repeat (first | (with_reducible first | exact HB.out | apply below_alloc | apply pw_below_drewN | apply below_drew1) | exact HB.out)) hb); clear HB; have HB := n0_; clear n0_; (try clear hb); (try clear hb2); (try clear hk); (try clear hi)))
                                                                      go_ret
                                                                      exact ⟨by first | rfl | (simp [errW_none, errW_some] <;> rfl) | (simp [*, errW_none, errW_some] <;> rfl), by repeat (first | (with_reducible first | exact HB.out | apply below_alloc | apply pw_below_drewN | apply below_drew1) | exact HB.out)⟩
                                                                    · rw [if_neg c46] at H
                                                                      have c46b0 : (a0 == 33) = false := beq_eq_false_iff_ne.mpr c46
                                                                      have c46b1 : (a0 != 33) = true := bne_iff_ne.mpr c46
                                                                      obtain rfl := Option.some.inj H
                                                                      go_enter Tryd.func6, Tryd.ntmps6
                                                                      go_wp2
                                                                      go_ret
                                                                      exact ⟨by first | rfl | (simp [errW_none, errW_some] <;> rfl) | (simp [*, errW_none, errW_some] <;> rfl), by repeat (first | (with_reducible first | exact HB.out | apply below_alloc | apply pw_below_drewN | apply below_drew1) | exact HB.out)⟩
end Go.Proofs.YtjkjnhcnmjknmaaDoor.Y
end
